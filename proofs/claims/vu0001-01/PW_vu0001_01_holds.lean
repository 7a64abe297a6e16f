import PyProof.Rows.All
import PyProof.FactsBase
import PyProof.PlainAttrs
import PyProof.TableTree
import PyProof.FactsTree
import PyProof.RulesTry
import PyProof.Conv_int
import PyProof.EqAt
import PyProof.EqKinds
import PyProof.ExcClass3
import PyProof.StationsW
import PyProof.GenObj
import PyProof.LetGo
import PyProof.Rows.Catch
import PyProof.Rows.FStr
import PyProof.StrLawsFrom
import PyProof.StrLawsReplace
import PyProof.TupleOfSeq
import Flt.Mod
import OpenK.KLine
import OpenK.KOwn
import Lean
import PySem.Challenge.RW_vu0001_01
set_option Elab.async false
set_option linter.unusedVariables false
set_option linter.unusedSimpArgs false
set_option maxRecDepth 100000
section
open PySem PySem.W PyProof.Rows
set_option Elab.async false
set_option linter.unusedVariables false
set_option maxRecDepth 100000
namespace Mine
/-- the ints of a display, one after the other, without nesting -/
def freshE : List Expr → List Value → Sem (List Value)
  | [], acc => .pure acc.reverse
  | .Constant (.int i) _ _ :: rest, acc => .fresh fun t => freshE rest (.int i t :: acc)
  | _ :: _, _ => .unsupported ""
def allInts : List Expr → Bool
  | [] => true
  | .Constant (.int _) _ _ :: rest => allInts rest
  | _ => false
theorem freshE_is (lp : Pos) (env : Env) : ∀ (elts : List Expr), allInts elts = true → ∀ acc, freshE elts acc = (spliced (backTo lp (starEach elts env))).bind fun vs => .pure (acc.reverse ++ vs)
  | [], _, acc => by
    show Sem.pure _ = Sem.pure _
    rw [List.append_nil]
  | .Constant (.int i) k p :: rest, h, acc => by
    have e : spliced (backTo lp (starEach (.Constant (.int i) k p :: rest) env)) = .fresh fun t => (spliced (backTo lp (starEach rest env))).bind fun vs => .pure (.int i t :: vs) := rfl
    rw [e]
    show Sem.fresh _ = Sem.fresh _
    congr 1
    funext t
    rw [freshE_is lp env rest h]
    simp only [Sem.bind_assoc]
    congr 1
    funext vs
    show Sem.pure _ = Sem.pure _
    simp
/-- the tree of a statement x = m.f(a1, a2, [ints], a4, a5, a6) -/
def quick (x : Str) (xp : Pos) (m : Expr) (f : Str) (apos : Pos) (a1 a2 : Expr) (elts : List Expr) (lp : Pos) (a4 a5 a6 : Expr) (cp sp : Pos) (env : Env) : Sem Flow := do
  standAt sp
  let v ← (do
    let ov ← attributeBase m f env (eval m env)
    standAt apos.atName
    methodCall m f apos cp env ov 6 (backTo cp [(false, eval a1 env), (false, eval a2 env), (false, do standAt lp; newList (← freshE elts [])), (false, eval a4 env), (false, eval a5 env), (false, eval a6 env)]) [])
  standAt xp
  bindName env x v
  pure .next
theorem quick_is {x : Str} {xp : Pos} {m : Expr} {f : Str} {apos : Pos} {a1 a2 : Expr} {elts : List Expr} {lp : Pos} {a4 a5 a6 : Expr} {cp sp : Pos} {env : Env} (hi : allInts elts = true)
    (hs : swapsWith (.Call (.Attribute m f apos) [a1, a2, .List elts lp, a4, a5, a6] [] cp) (some (.Name x xp)) sp.line env = pure false)
    (he : starEach [a1, a2, .List elts lp, a4, a5, a6] env = [(false, eval a1 env), (false, eval a2 env), (false, eval (.List elts lp) env), (false, eval a4 env), (false, eval a5 env), (false, eval a6 env)]) :
    exec (.Assign [.Name x xp] (.Call (.Attribute m f apos) [a1, a2, .List elts lp, a4, a5, a6] [] cp) sp) env = quick x xp m f apos a1 a2 elts lp a4 a5 a6 cp sp env := by
  rw [exec_Assign_Name _ _ _ _ _ hs, arm_eval_Call, he, arm_eval_List]
  have : freshE elts [] = spliced (backTo lp (starEach elts env)) := by
    rw [freshE_is lp env elts hi]
    simp only [List.reverse_nil, List.nil_append]
    exact Sem.bind_pure _
  unfold quick
  rw [this]
  rfl
end Mine
end
section
open PySem PySem.W PyProof.Rows
set_option Elab.async false
set_option linter.unusedVariables false
set_option maxRecDepth 100000
namespace Mine
def eqN : List Nat → List Nat → Bool
  | [], [] => true
  | a :: x, b :: y => match Nat.beq a b with
    | true => eqN x y
    | false => false
  | _, _ => false
theorem eqN_eq : ∀ {x y : List Nat}, eqN x y = true → x = y
  | [], [], _ => rfl
  | a :: x, b :: y, h => by
    unfold eqN at h
    split at h
    · rename_i e
      rw [Nat.eq_of_beq_eq_true e, eqN_eq h]
    · cases h
  | [], _ :: _, h => by cases h
  | _ :: _, [], h => by cases h
/-- a look at code words that knows one answer -/
noncomputable def wf2 (c : List Nat) (g : Nat) (words : Array Nat) (n : Nat) : Bool :=
  match eqN words.toList c with
  | true => (match Nat.beq n g with | true => true | false => PySem.W.Fast.tw3018943357349503271 words n)
  | false => PySem.W.Fast.tw3018943357349503271 words n
theorem wf_eq {c : List Nat} {g : Nat} (h : Sre.wellFormed ⟨c⟩ g = true) : wf2 c g = PySem.W.Fast.tw3018943357349503271 := by
  rw [PySem.W.Fast.te3018943357349503271] at h
  funext words n
  unfold wf2
  split
  · rename_i e
    split
    · rename_i e2
      rw [Nat.eq_of_beq_eq_true e2, ← h, ← eqN_eq e]
    · rfl
  · rfl
noncomputable def cmpT (W : Array Nat → Nat → Bool) : {f : Builtin // W = PySem.W.Fast.tw3018943357349503271 → PySem.W.Fast.tw17745834655568101797 = f} := by
  refine ⟨?f, fun hW => ?h⟩
  case h =>
    unfold PySem.W.Fast.tw17745834655568101797
    rewrite [← hW]
    exact rfl
theorem cmpT_eq {c : List Nat} {g : Nat} (h : Sre.wellFormed ⟨c⟩ g = true) : PySem.Builtin.«_sre.compile» = (cmpT (wf2 c g)).1 := PySem.W.Fast.te17745834655568101797.trans ((cmpT (wf2 c g)).2 (wf_eq h))
end Mine
end
section
open PySem PySem.W PyProof.Rows
set_option Elab.async false
set_option linter.unusedVariables false
set_option maxRecDepth 100000
set_option maxHeartbeats 0
lay_quick PySem.Challenge.pw_vu0001_01
namespace Mine
/-- the program, its texts as numbers -/
noncomputable def pq : Program := PySem.W.Fast.tw4811702567439717231
theorem pq_eq : PySem.Challenge.pw_vu0001_01 = pq := PySem.W.Fast.te4811702567439717231
noncomputable def fd (i : Nat) : Stmt := (pq.main.body[i]?).getD (.Pass ⟨0, 0, 0, 0⟩)
def eltsOf : Stmt → List Expr
  | .Assign _ (.Call _ [_, _, .List es _, _, _, _] _ _) _ => es
  | _ => []
def numOf : Expr → Nat
  | .Constant (.int i) _ _ => i.toNat
  | _ => 0
noncomputable def codeK (i : Nat) : List Nat := (eltsOf (fd i)).map numOf
def grpOf : Stmt → Nat
  | .Assign _ (.Call _ [_, _, _, e, _, _] _ _) _ => numOf e
  | _ => 0
noncomputable def grpK (i : Nat) : Nat := grpOf (fd i)
/-- the quick tree of a statement -/
noncomputable def quickOf (env : Env) : Stmt → Sem Flow
  | .Assign [.Name x xp] (.Call (.Attribute m f apos) [a1, a2, .List elts lp, a4, a5, a6] [] cp) sp => quick x xp m f apos a1 a2 elts lp a4 a5 a6 cp sp env
  | s => exec s env
noncomputable def qthread (s : Stmt) (env : Env) (c : Code) (p : Pos) (B : List PySem.Frame) : Thread := ⟨((quickOf env s).bind fun f => match f with | .next => .pure .next | f => .pure f).wrap doneF deadEnd id id, c, p, B⟩
noncomputable def tbq (c : List Nat) (g : Nat) : String → Option Builtin := fun id => match id == "_sre.compile" with
  | true => some (cmpT (wf2 c g)).1
  | false => PySem.W.Fast.tw14364793385576792824 id
theorem tbq_eq {c : List Nat} {g : Nat} (h : Sre.wellFormed ⟨c⟩ g = true) (hc : treeTable "_sre.compile" = some PySem.Builtin.«_sre.compile») : treeTable = tbq c g := by
  funext id
  unfold tbq
  split
  · rename_i e
    rw [beq_iff_eq.mp e, hc]
    exact congrArg some (cmpT_eq h)
  · exact congrFun PySem.W.Fast.te14364793385576792824 id
theorem has_compile : treeTable "_sre.compile" = some PySem.Builtin.«_sre.compile» := by kernel_rfl
def fArgs : Stmt → Arguments
  | .FunctionDef _ a _ _ _ _ _ _ _ _ => a
  | _ => ⟨[], [], none, [], [], none, []⟩
def fBody : Stmt → List Stmt
  | .FunctionDef _ _ b _ _ _ _ _ _ _ => b
  | _ => []
def fScope : Stmt → Scope
  | .FunctionDef _ _ _ _ _ _ s _ _ _ => s
  | _ => { kind := .module, names := [], isGenerator := false, isCoroutine := false }
def cBody : Stmt → List Stmt
  | .ClassDef (body := b) .. => b
  | _ => []
noncomputable def mt (i j : Nat) : Stmt := ((cBody (fd i))[j]?).getD (.Pass ⟨0, 0, 0, 0⟩)
/-- the code words as a pattern keeps them, and as the display made them -/
noncomputable def tupA (k : Nat) : Array Value := ⟨(codeK k).map fun (w : Nat) => rawInt w⟩
def litL : List Expr → Nat → List Value
  | [], _ => []
  | .Constant (.int i) _ _ :: l, t => .int i t :: litL l (t + 1)
  | _ :: _, _ => []
noncomputable def litA (k t : Nat) : Array Value := ⟨litL (eltsOf (fd k)) t⟩
def patS : Stmt → Str
  | .Assign _ (.Call _ (.Constant (.str s) _ _ :: _) _ _) _ => s
  | _ => ⟨#[]⟩
noncomputable def env : Env := { scope := pq.main.scope, locals := mainNs, globals := mainNs, cells := [], code := .ref 30, frame := some 31 }
noncomputable abbrev cq : Code := .body (behindTheImports pq) env
noncomputable abbrev Bq : List PySem.Frame := [topFrame ⟨0, 0, 0, 0⟩]
end Mine
lay_quick Mine.qthread
end
section
open PySem PySem.W PyProof.Rows
set_option Elab.async false
set_option linter.unusedVariables false
set_option maxRecDepth 100000
namespace Mine
def notStar : Expr → Bool
  | .Starred _ _ => false
  | _ => true
theorem starEach_cons {e : Expr} {rest : List Expr} {env : Env} (h : notStar e = true) : starEach (e :: rest) env = (false, eval e env) :: starEach rest env := by
  cases e <;> first | rfl | (cases h)
def okQ : Stmt → Bool
  | .Assign [.Name _ _] (.Call (.Attribute _ _ _) [a1, a2, .List elts _, a4, a5, a6] [] _) _ => allInts elts && (notStar a1 && (notStar a2 && (notStar a4 && (notStar a5 && notStar a6))))
  | _ => false
theorem quickOf_is {s : Stmt} {env : Env} (h : okQ s = true) : exec s env = quickOf env s := by
  unfold okQ at h
  split at h
  · simp only [Bool.and_eq_true] at h
    obtain ⟨h0, h1, h2, h4, h5, h6⟩ := h
    refine quick_is h0 rfl ?_
    rw [starEach_cons h1, starEach_cons h2, starEach_cons rfl, starEach_cons h4, starEach_cons h5, starEach_cons h6]
    rfl
  · cases h
theorem qthread_is {s : Stmt} {env : Env} {c : Code} {p : Pos} {B : List PySem.Frame} (h : okQ s = true) : qthread s env c p B = piecesOf [s] env c p B := by
  unfold qthread piecesOf
  rw [execs_cons, ← quickOf_is h]
  rfl
theorem heavy {s : Stmt} {c : List Nat} {g : Nat} {w : World} {n : Nat} {S : SharedT} {p : Pos} {r : Option (Flow × SharedT × Code × Pos)} (h : okQ s = true) (wf : Sre.wellFormed ⟨c⟩ g = true)
    (k : segRunT (tbq c g) pq w 28 (some (.ref 6)) 1 n S (qthread s env cq p Bq) = r) : segRunT treeTable pq w 28 (some (.ref 6)) 1 n S (piecesOf [s] env cq p Bq) = r := by
  rw [tbq_eq wf has_compile, ← qthread_is h]
  exact k
end Mine
end
section
open PySem PySem.W PyProof.Rows
set_option Elab.async false
set_option linter.unusedVariables false
set_option maxRecDepth 100000
set_option maxHeartbeats 0
namespace Mine
noncomputable def o0 (P : Params) : Obj := (Obj.mk (Value.type "dict") (Option.none) (Data.dict #[(DictEntry.mk (PyData.keyHash P (Str.ofString "__name__")) (Value.str (Str.ofString "__name__") 1) (Value.str (Str.ofString "builtins") 160)), (DictEntry.mk (PyData.keyHash P (Str.ofString "__doc__")) (Value.str (Str.ofString "__doc__") 2) (Value.builtin "builtins.__doc__:str#opaque")), (DictEntry.mk (PyData.keyHash P (Str.ofString "__package__")) (Value.str (Str.ofString "__package__") 3) (Value.builtin "builtins.__package__:str#opaque")), (DictEntry.mk (PyData.keyHash P (Str.ofString "__loader__")) (Value.str (Str.ofString "__loader__") 4) (Value.builtin "builtins.__loader__:shared#opaque")), (DictEntry.mk (PyData.keyHash P (Str.ofString "__spec__")) (Value.str (Str.ofString "__spec__") 5) (Value.builtin "builtins.__spec__#opaque")), (DictEntry.mk (PyData.keyHash P (Str.ofString "__build_class__")) (Value.str (Str.ofString "__build_class__") 6) (Value.builtin "__build_class__")), (DictEntry.mk (PyData.keyHash P (Str.ofString "__import__")) (Value.str (Str.ofString "__import__") 7) (Value.builtin "__import__")), (DictEntry.mk (PyData.keyHash P (Str.ofString "abs")) (Value.str (Str.ofString "abs") 8) (Value.builtin "abs")), (DictEntry.mk (PyData.keyHash P (Str.ofString "all")) (Value.str (Str.ofString "all") 9) (Value.builtin "all")), (DictEntry.mk (PyData.keyHash P (Str.ofString "any")) (Value.str (Str.ofString "any") 10) (Value.builtin "any")), (DictEntry.mk (PyData.keyHash P (Str.ofString "ascii")) (Value.str (Str.ofString "ascii") 11) (Value.builtin "ascii")), (DictEntry.mk (PyData.keyHash P (Str.ofString "bin")) (Value.str (Str.ofString "bin") 12) (Value.builtin "bin")), (DictEntry.mk (PyData.keyHash P (Str.ofString "breakpoint")) (Value.str (Str.ofString "breakpoint") 13) (Value.builtin "breakpoint")), (DictEntry.mk (PyData.keyHash P (Str.ofString "callable")) (Value.str (Str.ofString "callable") 14) (Value.builtin "callable")), (DictEntry.mk (PyData.keyHash P (Str.ofString "chr")) (Value.str (Str.ofString "chr") 15) (Value.builtin "chr")), (DictEntry.mk (PyData.keyHash P (Str.ofString "compile")) (Value.str (Str.ofString "compile") 16) (Value.builtin "compile")), (DictEntry.mk (PyData.keyHash P (Str.ofString "delattr")) (Value.str (Str.ofString "delattr") 17) (Value.builtin "delattr")), (DictEntry.mk (PyData.keyHash P (Str.ofString "dir")) (Value.str (Str.ofString "dir") 18) (Value.builtin "dir")), (DictEntry.mk (PyData.keyHash P (Str.ofString "divmod")) (Value.str (Str.ofString "divmod") 19) (Value.builtin "divmod")), (DictEntry.mk (PyData.keyHash P (Str.ofString "eval")) (Value.str (Str.ofString "eval") 20) (Value.builtin "eval")), (DictEntry.mk (PyData.keyHash P (Str.ofString "exec")) (Value.str (Str.ofString "exec") 21) (Value.builtin "exec")), (DictEntry.mk (PyData.keyHash P (Str.ofString "format")) (Value.str (Str.ofString "format") 22) (Value.builtin "format")), (DictEntry.mk (PyData.keyHash P (Str.ofString "getattr")) (Value.str (Str.ofString "getattr") 23) (Value.builtin "getattr")), (DictEntry.mk (PyData.keyHash P (Str.ofString "globals")) (Value.str (Str.ofString "globals") 24) (Value.builtin "globals")), (DictEntry.mk (PyData.keyHash P (Str.ofString "hasattr")) (Value.str (Str.ofString "hasattr") 25) (Value.builtin "hasattr")), (DictEntry.mk (PyData.keyHash P (Str.ofString "hash")) (Value.str (Str.ofString "hash") 26) (Value.builtin "hash")), (DictEntry.mk (PyData.keyHash P (Str.ofString "hex")) (Value.str (Str.ofString "hex") 27) (Value.builtin "hex")), (DictEntry.mk (PyData.keyHash P (Str.ofString "id")) (Value.str (Str.ofString "id") 28) (Value.builtin "id")), (DictEntry.mk (PyData.keyHash P (Str.ofString "input")) (Value.str (Str.ofString "input") 29) (Value.builtin "input")), (DictEntry.mk (PyData.keyHash P (Str.ofString "isinstance")) (Value.str (Str.ofString "isinstance") 30) (Value.builtin "isinstance")), (DictEntry.mk (PyData.keyHash P (Str.ofString "issubclass")) (Value.str (Str.ofString "issubclass") 31) (Value.builtin "issubclass")), (DictEntry.mk (PyData.keyHash P (Str.ofString "iter")) (Value.str (Str.ofString "iter") 32) (Value.builtin "iter")), (DictEntry.mk (PyData.keyHash P (Str.ofString "aiter")) (Value.str (Str.ofString "aiter") 33) (Value.builtin "aiter")), (DictEntry.mk (PyData.keyHash P (Str.ofString "len")) (Value.str (Str.ofString "len") 34) (Value.builtin "len")), (DictEntry.mk (PyData.keyHash P (Str.ofString "locals")) (Value.str (Str.ofString "locals") 35) (Value.builtin "locals")), (DictEntry.mk (PyData.keyHash P (Str.ofString "max")) (Value.str (Str.ofString "max") 36) (Value.builtin "max")), (DictEntry.mk (PyData.keyHash P (Str.ofString "min")) (Value.str (Str.ofString "min") 37) (Value.builtin "min")), (DictEntry.mk (PyData.keyHash P (Str.ofString "next")) (Value.str (Str.ofString "next") 38) (Value.builtin "next")), (DictEntry.mk (PyData.keyHash P (Str.ofString "anext")) (Value.str (Str.ofString "anext") 39) (Value.builtin "anext")), (DictEntry.mk (PyData.keyHash P (Str.ofString "oct")) (Value.str (Str.ofString "oct") 40) (Value.builtin "oct")), (DictEntry.mk (PyData.keyHash P (Str.ofString "ord")) (Value.str (Str.ofString "ord") 41) (Value.builtin "ord")), (DictEntry.mk (PyData.keyHash P (Str.ofString "pow")) (Value.str (Str.ofString "pow") 42) (Value.builtin "pow")), (DictEntry.mk (PyData.keyHash P (Str.ofString "print")) (Value.str (Str.ofString "print") 43) (Value.builtin "print")), (DictEntry.mk (PyData.keyHash P (Str.ofString "repr")) (Value.str (Str.ofString "repr") 44) (Value.builtin "repr")), (DictEntry.mk (PyData.keyHash P (Str.ofString "round")) (Value.str (Str.ofString "round") 45) (Value.builtin "round")), (DictEntry.mk (PyData.keyHash P (Str.ofString "setattr")) (Value.str (Str.ofString "setattr") 46) (Value.builtin "setattr")), (DictEntry.mk (PyData.keyHash P (Str.ofString "sorted")) (Value.str (Str.ofString "sorted") 47) (Value.builtin "sorted")), (DictEntry.mk (PyData.keyHash P (Str.ofString "sum")) (Value.str (Str.ofString "sum") 48) (Value.builtin "sum")), (DictEntry.mk (PyData.keyHash P (Str.ofString "vars")) (Value.str (Str.ofString "vars") 49) (Value.builtin "vars")), (DictEntry.mk (PyData.keyHash P (Str.ofString "None")) (Value.str (Str.ofString "None") 50) @PySem.Value.none), (DictEntry.mk (PyData.keyHash P (Str.ofString "Ellipsis")) (Value.str (Str.ofString "Ellipsis") 51) @PySem.Value.ellipsis), (DictEntry.mk (PyData.keyHash P (Str.ofString "NotImplemented")) (Value.str (Str.ofString "NotImplemented") 52) @PySem.Value.notImplemented), (DictEntry.mk (PyData.keyHash P (Str.ofString "False")) (Value.str (Str.ofString "False") 53) (Value.bool @Bool.false)), (DictEntry.mk (PyData.keyHash P (Str.ofString "True")) (Value.str (Str.ofString "True") 54) (Value.bool @Bool.true)), (DictEntry.mk (PyData.keyHash P (Str.ofString "bool")) (Value.str (Str.ofString "bool") 55) (Value.type "bool")), (DictEntry.mk (PyData.keyHash P (Str.ofString "memoryview")) (Value.str (Str.ofString "memoryview") 56) (Value.type "memoryview")), (DictEntry.mk (PyData.keyHash P (Str.ofString "bytearray")) (Value.str (Str.ofString "bytearray") 57) (Value.type "bytearray")), (DictEntry.mk (PyData.keyHash P (Str.ofString "bytes")) (Value.str (Str.ofString "bytes") 58) (Value.type "bytes")), (DictEntry.mk (PyData.keyHash P (Str.ofString "classmethod")) (Value.str (Str.ofString "classmethod") 59) (Value.type "classmethod")), (DictEntry.mk (PyData.keyHash P (Str.ofString "complex")) (Value.str (Str.ofString "complex") 60) (Value.type "complex")), (DictEntry.mk (PyData.keyHash P (Str.ofString "dict")) (Value.str (Str.ofString "dict") 61) (Value.type "dict")), (DictEntry.mk (PyData.keyHash P (Str.ofString "enumerate")) (Value.str (Str.ofString "enumerate") 62) (Value.type "enumerate")), (DictEntry.mk (PyData.keyHash P (Str.ofString "filter")) (Value.str (Str.ofString "filter") 63) (Value.type "filter")), (DictEntry.mk (PyData.keyHash P (Str.ofString "float")) (Value.str (Str.ofString "float") 64) (Value.type "float")), (DictEntry.mk (PyData.keyHash P (Str.ofString "frozenset")) (Value.str (Str.ofString "frozenset") 65) (Value.type "frozenset")), (DictEntry.mk (PyData.keyHash P (Str.ofString "property")) (Value.str (Str.ofString "property") 66) (Value.type "property")), (DictEntry.mk (PyData.keyHash P (Str.ofString "int")) (Value.str (Str.ofString "int") 67) (Value.type "int")), (DictEntry.mk (PyData.keyHash P (Str.ofString "list")) (Value.str (Str.ofString "list") 68) (Value.type "list")), (DictEntry.mk (PyData.keyHash P (Str.ofString "map")) (Value.str (Str.ofString "map") 69) (Value.type "map")), (DictEntry.mk (PyData.keyHash P (Str.ofString "object")) (Value.str (Str.ofString "object") 70) (Value.type "object")), (DictEntry.mk (PyData.keyHash P (Str.ofString "range")) (Value.str (Str.ofString "range") 71) (Value.type "range")), (DictEntry.mk (PyData.keyHash P (Str.ofString "reversed")) (Value.str (Str.ofString "reversed") 72) (Value.type "reversed")), (DictEntry.mk (PyData.keyHash P (Str.ofString "set")) (Value.str (Str.ofString "set") 73) (Value.type "set")), (DictEntry.mk (PyData.keyHash P (Str.ofString "slice")) (Value.str (Str.ofString "slice") 74) (Value.type "slice")), (DictEntry.mk (PyData.keyHash P (Str.ofString "staticmethod")) (Value.str (Str.ofString "staticmethod") 75) (Value.type "staticmethod")), (DictEntry.mk (PyData.keyHash P (Str.ofString "str")) (Value.str (Str.ofString "str") 76) (Value.type "str")), (DictEntry.mk (PyData.keyHash P (Str.ofString "super")) (Value.str (Str.ofString "super") 77) (Value.type "super")), (DictEntry.mk (PyData.keyHash P (Str.ofString "tuple")) (Value.str (Str.ofString "tuple") 78) (Value.type "tuple")), (DictEntry.mk (PyData.keyHash P (Str.ofString "type")) (Value.str (Str.ofString "type") 79) (Value.type "type")), (DictEntry.mk (PyData.keyHash P (Str.ofString "zip")) (Value.str (Str.ofString "zip") 80) (Value.type "zip")), (DictEntry.mk (PyData.keyHash P (Str.ofString "__debug__")) (Value.str (Str.ofString "__debug__") 81) (Value.bool @Bool.true)), (DictEntry.mk (PyData.keyHash P (Str.ofString "BaseException")) (Value.str (Str.ofString "BaseException") 82) (Value.type "BaseException")), (DictEntry.mk (PyData.keyHash P (Str.ofString "BaseExceptionGroup")) (Value.str (Str.ofString "BaseExceptionGroup") 83) (Value.type "BaseExceptionGroup")), (DictEntry.mk (PyData.keyHash P (Str.ofString "Exception")) (Value.str (Str.ofString "Exception") 84) (Value.type "Exception")), (DictEntry.mk (PyData.keyHash P (Str.ofString "GeneratorExit")) (Value.str (Str.ofString "GeneratorExit") 85) (Value.type "GeneratorExit")), (DictEntry.mk (PyData.keyHash P (Str.ofString "KeyboardInterrupt")) (Value.str (Str.ofString "KeyboardInterrupt") 86) (Value.type "KeyboardInterrupt")), (DictEntry.mk (PyData.keyHash P (Str.ofString "SystemExit")) (Value.str (Str.ofString "SystemExit") 87) (Value.type "SystemExit")), (DictEntry.mk (PyData.keyHash P (Str.ofString "ArithmeticError")) (Value.str (Str.ofString "ArithmeticError") 88) (Value.type "ArithmeticError")), (DictEntry.mk (PyData.keyHash P (Str.ofString "AssertionError")) (Value.str (Str.ofString "AssertionError") 89) (Value.type "AssertionError")), (DictEntry.mk (PyData.keyHash P (Str.ofString "AttributeError")) (Value.str (Str.ofString "AttributeError") 90) (Value.type "AttributeError")), (DictEntry.mk (PyData.keyHash P (Str.ofString "BufferError")) (Value.str (Str.ofString "BufferError") 91) (Value.type "BufferError")), (DictEntry.mk (PyData.keyHash P (Str.ofString "EOFError")) (Value.str (Str.ofString "EOFError") 92) (Value.type "EOFError")), (DictEntry.mk (PyData.keyHash P (Str.ofString "ImportError")) (Value.str (Str.ofString "ImportError") 93) (Value.type "ImportError")), (DictEntry.mk (PyData.keyHash P (Str.ofString "LookupError")) (Value.str (Str.ofString "LookupError") 94) (Value.type "LookupError")), (DictEntry.mk (PyData.keyHash P (Str.ofString "MemoryError")) (Value.str (Str.ofString "MemoryError") 95) (Value.type "MemoryError")), (DictEntry.mk (PyData.keyHash P (Str.ofString "NameError")) (Value.str (Str.ofString "NameError") 96) (Value.type "NameError")), (DictEntry.mk (PyData.keyHash P (Str.ofString "OSError")) (Value.str (Str.ofString "OSError") 97) (Value.type "OSError")), (DictEntry.mk (PyData.keyHash P (Str.ofString "ReferenceError")) (Value.str (Str.ofString "ReferenceError") 98) (Value.type "ReferenceError")), (DictEntry.mk (PyData.keyHash P (Str.ofString "RuntimeError")) (Value.str (Str.ofString "RuntimeError") 99) (Value.type "RuntimeError")), (DictEntry.mk (PyData.keyHash P (Str.ofString "StopAsyncIteration")) (Value.str (Str.ofString "StopAsyncIteration") 100) (Value.type "StopAsyncIteration")), (DictEntry.mk (PyData.keyHash P (Str.ofString "StopIteration")) (Value.str (Str.ofString "StopIteration") 101) (Value.type "StopIteration")), (DictEntry.mk (PyData.keyHash P (Str.ofString "SyntaxError")) (Value.str (Str.ofString "SyntaxError") 102) (Value.type "SyntaxError")), (DictEntry.mk (PyData.keyHash P (Str.ofString "SystemError")) (Value.str (Str.ofString "SystemError") 103) (Value.type "SystemError")), (DictEntry.mk (PyData.keyHash P (Str.ofString "TypeError")) (Value.str (Str.ofString "TypeError") 104) (Value.type "TypeError")), (DictEntry.mk (PyData.keyHash P (Str.ofString "ValueError")) (Value.str (Str.ofString "ValueError") 105) (Value.type "ValueError")), (DictEntry.mk (PyData.keyHash P (Str.ofString "Warning")) (Value.str (Str.ofString "Warning") 106) (Value.type "Warning")), (DictEntry.mk (PyData.keyHash P (Str.ofString "FloatingPointError")) (Value.str (Str.ofString "FloatingPointError") 107) (Value.type "FloatingPointError")), (DictEntry.mk (PyData.keyHash P (Str.ofString "OverflowError")) (Value.str (Str.ofString "OverflowError") 108) (Value.type "OverflowError")), (DictEntry.mk (PyData.keyHash P (Str.ofString "ZeroDivisionError")) (Value.str (Str.ofString "ZeroDivisionError") 109) (Value.type "ZeroDivisionError")), (DictEntry.mk (PyData.keyHash P (Str.ofString "BytesWarning")) (Value.str (Str.ofString "BytesWarning") 110) (Value.type "BytesWarning")), (DictEntry.mk (PyData.keyHash P (Str.ofString "DeprecationWarning")) (Value.str (Str.ofString "DeprecationWarning") 111) (Value.type "DeprecationWarning")), (DictEntry.mk (PyData.keyHash P (Str.ofString "EncodingWarning")) (Value.str (Str.ofString "EncodingWarning") 112) (Value.type "EncodingWarning")), (DictEntry.mk (PyData.keyHash P (Str.ofString "FutureWarning")) (Value.str (Str.ofString "FutureWarning") 113) (Value.type "FutureWarning")), (DictEntry.mk (PyData.keyHash P (Str.ofString "ImportWarning")) (Value.str (Str.ofString "ImportWarning") 114) (Value.type "ImportWarning")), (DictEntry.mk (PyData.keyHash P (Str.ofString "PendingDeprecationWarning")) (Value.str (Str.ofString "PendingDeprecationWarning") 115) (Value.type "PendingDeprecationWarning")), (DictEntry.mk (PyData.keyHash P (Str.ofString "ResourceWarning")) (Value.str (Str.ofString "ResourceWarning") 116) (Value.type "ResourceWarning")), (DictEntry.mk (PyData.keyHash P (Str.ofString "RuntimeWarning")) (Value.str (Str.ofString "RuntimeWarning") 117) (Value.type "RuntimeWarning")), (DictEntry.mk (PyData.keyHash P (Str.ofString "SyntaxWarning")) (Value.str (Str.ofString "SyntaxWarning") 118) (Value.type "SyntaxWarning")), (DictEntry.mk (PyData.keyHash P (Str.ofString "UnicodeWarning")) (Value.str (Str.ofString "UnicodeWarning") 119) (Value.type "UnicodeWarning")), (DictEntry.mk (PyData.keyHash P (Str.ofString "UserWarning")) (Value.str (Str.ofString "UserWarning") 120) (Value.type "UserWarning")), (DictEntry.mk (PyData.keyHash P (Str.ofString "BlockingIOError")) (Value.str (Str.ofString "BlockingIOError") 121) (Value.type "BlockingIOError")), (DictEntry.mk (PyData.keyHash P (Str.ofString "ChildProcessError")) (Value.str (Str.ofString "ChildProcessError") 122) (Value.type "ChildProcessError")), (DictEntry.mk (PyData.keyHash P (Str.ofString "ConnectionError")) (Value.str (Str.ofString "ConnectionError") 123) (Value.type "ConnectionError")), (DictEntry.mk (PyData.keyHash P (Str.ofString "FileExistsError")) (Value.str (Str.ofString "FileExistsError") 124) (Value.type "FileExistsError")), (DictEntry.mk (PyData.keyHash P (Str.ofString "FileNotFoundError")) (Value.str (Str.ofString "FileNotFoundError") 125) (Value.type "FileNotFoundError")), (DictEntry.mk (PyData.keyHash P (Str.ofString "InterruptedError")) (Value.str (Str.ofString "InterruptedError") 126) (Value.type "InterruptedError")), (DictEntry.mk (PyData.keyHash P (Str.ofString "IsADirectoryError")) (Value.str (Str.ofString "IsADirectoryError") 127) (Value.type "IsADirectoryError")), (DictEntry.mk (PyData.keyHash P (Str.ofString "NotADirectoryError")) (Value.str (Str.ofString "NotADirectoryError") 128) (Value.type "NotADirectoryError")), (DictEntry.mk (PyData.keyHash P (Str.ofString "PermissionError")) (Value.str (Str.ofString "PermissionError") 129) (Value.type "PermissionError")), (DictEntry.mk (PyData.keyHash P (Str.ofString "ProcessLookupError")) (Value.str (Str.ofString "ProcessLookupError") 130) (Value.type "ProcessLookupError")), (DictEntry.mk (PyData.keyHash P (Str.ofString "TimeoutError")) (Value.str (Str.ofString "TimeoutError") 131) (Value.type "TimeoutError")), (DictEntry.mk (PyData.keyHash P (Str.ofString "IndentationError")) (Value.str (Str.ofString "IndentationError") 132) (Value.type "IndentationError")), (DictEntry.mk (PyData.keyHash P (Str.ofString "_IncompleteInputError")) (Value.str (Str.ofString "_IncompleteInputError") 133) (Value.type "_IncompleteInputError")), (DictEntry.mk (PyData.keyHash P (Str.ofString "IndexError")) (Value.str (Str.ofString "IndexError") 134) (Value.type "IndexError")), (DictEntry.mk (PyData.keyHash P (Str.ofString "KeyError")) (Value.str (Str.ofString "KeyError") 135) (Value.type "KeyError")), (DictEntry.mk (PyData.keyHash P (Str.ofString "ModuleNotFoundError")) (Value.str (Str.ofString "ModuleNotFoundError") 136) (Value.type "ModuleNotFoundError")), (DictEntry.mk (PyData.keyHash P (Str.ofString "NotImplementedError")) (Value.str (Str.ofString "NotImplementedError") 137) (Value.type "NotImplementedError")), (DictEntry.mk (PyData.keyHash P (Str.ofString "PythonFinalizationError")) (Value.str (Str.ofString "PythonFinalizationError") 138) (Value.type "PythonFinalizationError")), (DictEntry.mk (PyData.keyHash P (Str.ofString "RecursionError")) (Value.str (Str.ofString "RecursionError") 139) (Value.type "RecursionError")), (DictEntry.mk (PyData.keyHash P (Str.ofString "UnboundLocalError")) (Value.str (Str.ofString "UnboundLocalError") 140) (Value.type "UnboundLocalError")), (DictEntry.mk (PyData.keyHash P (Str.ofString "UnicodeError")) (Value.str (Str.ofString "UnicodeError") 141) (Value.type "UnicodeError")), (DictEntry.mk (PyData.keyHash P (Str.ofString "BrokenPipeError")) (Value.str (Str.ofString "BrokenPipeError") 142) (Value.type "BrokenPipeError")), (DictEntry.mk (PyData.keyHash P (Str.ofString "ConnectionAbortedError")) (Value.str (Str.ofString "ConnectionAbortedError") 143) (Value.type "ConnectionAbortedError")), (DictEntry.mk (PyData.keyHash P (Str.ofString "ConnectionRefusedError")) (Value.str (Str.ofString "ConnectionRefusedError") 144) (Value.type "ConnectionRefusedError")), (DictEntry.mk (PyData.keyHash P (Str.ofString "ConnectionResetError")) (Value.str (Str.ofString "ConnectionResetError") 145) (Value.type "ConnectionResetError")), (DictEntry.mk (PyData.keyHash P (Str.ofString "TabError")) (Value.str (Str.ofString "TabError") 146) (Value.type "TabError")), (DictEntry.mk (PyData.keyHash P (Str.ofString "UnicodeDecodeError")) (Value.str (Str.ofString "UnicodeDecodeError") 147) (Value.type "UnicodeDecodeError")), (DictEntry.mk (PyData.keyHash P (Str.ofString "UnicodeEncodeError")) (Value.str (Str.ofString "UnicodeEncodeError") 148) (Value.type "UnicodeEncodeError")), (DictEntry.mk (PyData.keyHash P (Str.ofString "UnicodeTranslateError")) (Value.str (Str.ofString "UnicodeTranslateError") 149) (Value.type "UnicodeTranslateError")), (DictEntry.mk (PyData.keyHash P (Str.ofString "ExceptionGroup")) (Value.str (Str.ofString "ExceptionGroup") 150) (Value.type "ExceptionGroup")), (DictEntry.mk (PyData.keyHash P (Str.ofString "EnvironmentError")) (Value.str (Str.ofString "EnvironmentError") 151) (Value.type "OSError")), (DictEntry.mk (PyData.keyHash P (Str.ofString "IOError")) (Value.str (Str.ofString "IOError") 152) (Value.type "OSError")), (DictEntry.mk (PyData.keyHash P (Str.ofString "open")) (Value.str (Str.ofString "open") 153) (Value.builtin "open")), (DictEntry.mk (PyData.keyHash P (Str.ofString "quit")) (Value.str (Str.ofString "quit") 154) (Value.builtin "builtins.quit#opaque")), (DictEntry.mk (PyData.keyHash P (Str.ofString "exit")) (Value.str (Str.ofString "exit") 155) (Value.builtin "builtins.exit#opaque")), (DictEntry.mk (PyData.keyHash P (Str.ofString "copyright")) (Value.str (Str.ofString "copyright") 156) (Value.builtin "builtins.copyright#opaque")), (DictEntry.mk (PyData.keyHash P (Str.ofString "credits")) (Value.str (Str.ofString "credits") 157) (Value.builtin "builtins.credits#opaque")), (DictEntry.mk (PyData.keyHash P (Str.ofString "license")) (Value.str (Str.ofString "license") 158) (Value.builtin "builtins.license#opaque")), (DictEntry.mk (PyData.keyHash P (Str.ofString "help")) (Value.str (Str.ofString "help") 159) (Value.builtin "builtins.help#opaque"))] 159) #[])
noncomputable def o1 (P : Params) : Obj := (Obj.mk (Value.type "dict") (Option.none) (Data.dict #[(DictEntry.mk (PyData.keyHash P (Str.ofString "builtins")) (Value.str (Str.ofString "builtins") 162) (Value.ref 4)), (DictEntry.mk (PyData.keyHash P (Str.ofString "__main__")) (Value.str (Str.ofString "__main__") 163) (Value.ref 5)), (DictEntry.mk (PyData.keyHash P (Str.ofString "_sre")) (Value.str (Str.ofString "_sre") 244) (Value.ref 12))] 3) #[])
noncomputable def o2 (P : Params) : Obj := (Obj.mk @PySem.Value.none (Option.none) (Data.dict #[(DictEntry.mk (PyData.keyHash P (Str.ofString "\x69mport.loaded._sre")) (Value.str (Str.ofString "\x69mport.loaded._sre") 183) (Value.bool @Bool.true)), (DictEntry.mk (PyData.keyHash P (Str.ofString "class._frozen_importlib.BuiltinImporter")) (Value.str (Str.ofString "class._frozen_importlib.BuiltinImporter") 185) (Value.ref 14)), (DictEntry.mk (PyData.keyHash P (Str.ofString "watched.\x69mport")) (Value.str (Str.ofString "watched.\x69mport") 206) (Value.ref 18)), (DictEntry.mk (PyData.keyHash P (Str.ofString "class._frozen_importlib.ModuleSpec")) (Value.str (Str.ofString "class._frozen_importlib.ModuleSpec") 216) (Value.ref 22)), (DictEntry.mk (PyData.keyHash P (Str.ofString "sys.modules.booked-epoch")) (Value.str (Str.ofString "sys.modules.booked-epoch") 245) (Value.int (3 : Int) 0)), (DictEntry.mk (PyData.keyHash P (Str.ofString "\x69mport.later-laid._sre")) (Value.str (Str.ofString "\x69mport.later-laid._sre") 270) (Value.bool @Bool.true)), (DictEntry.mk (PyData.keyHash P (Str.ofString "watched.library")) (Value.str (Str.ofString "watched.library") 272) (Value.ref 27)), (DictEntry.mk (PyData.keyHash P (Str.ofString "watched.library-objects")) (Value.str (Str.ofString "watched.library-objects") 0) (Value.str (Str.ofString "\x0c") 0)), (DictEntry.mk (PyData.keyHash P (Str.ofString "watched.library-deep._sre")) (Value.str (Str.ofString "watched.library-deep._sre") 273) (Value.str (Str.ofString "\x04\x00\x00\x0b\x04\x00\x00\x0b\x04\x00\x00\x03\x04\x00\x00\x0b\x08\x04dict\x02") 0))] 9) #[])
noncomputable def o3 (P : Params) : Obj := (Obj.mk (Value.type "dict") (Option.none) (Data.dict #[(DictEntry.mk (PyData.keyHash P (Str.ofString "__name__")) (Value.str (Str.ofString "__name__") 165) (Value.str (Str.ofString "__main__") 164)), (DictEntry.mk (PyData.keyHash P (Str.ofString "__doc__")) (Value.str (Str.ofString "__doc__") 166) @PySem.Value.none), (DictEntry.mk (PyData.keyHash P (Str.ofString "__package__")) (Value.str (Str.ofString "__package__") 167) @PySem.Value.none), (DictEntry.mk (PyData.keyHash P (Str.ofString "__loader__")) (Value.str (Str.ofString "__loader__") 168) (Value.builtin "__main__.__loader__#opaque")), (DictEntry.mk (PyData.keyHash P (Str.ofString "__spec__")) (Value.str (Str.ofString "__spec__") 169) @PySem.Value.none), (DictEntry.mk (PyData.keyHash P (Str.ofString "__annotations__")) (Value.str (Str.ofString "__annotations__") 170) (Value.ref 6)), (DictEntry.mk (PyData.keyHash P (Str.ofString "__builtins__")) (Value.str (Str.ofString "__builtins__") 171) (Value.ref 4)), (DictEntry.mk (PyData.keyHash P (Str.ofString "__file__")) (Value.str (Str.ofString "__file__") 173) (Value.str (Str.ofString "/claim/cut.py") 172)), (DictEntry.mk (PyData.keyHash P (Str.ofString "__cached__")) (Value.str (Str.ofString "__cached__") 174) @PySem.Value.none), (DictEntry.mk (PyData.keyHash P (Str.ofString "_sre")) (Value.str (Str.ofString "_sre") 275) (Value.ref 12))] 10) #[])
noncomputable def o4 (P : Params) : Obj := (Obj.mk (Value.type "module") (Option.some 0) @PySem.Data.plain #[])
noncomputable def o5 (P : Params) : Obj := (Obj.mk (Value.type "module") (Option.some 3) @PySem.Data.plain #[])
noncomputable def o6 (P : Params) : Obj := (Obj.mk (Value.type "dict") (Option.none) (Data.dict #[] 0) #[])
noncomputable def o7 (P : Params) : Obj := (Obj.mk (Value.type "tuple") (Option.none) (Data.seq #[] 0) #[])
noncomputable def o8 (P : Params) : Obj := (Obj.mk @PySem.Value.none (Option.none) (Data.fields #[]) #[])
noncomputable def o9 (P : Params) : Obj := (Obj.mk (Value.type "code") (Option.none) (Data.fields #[(Value.str (Str.ofString "<module>") 176), (Value.str (Str.ofString "<module>") 177), (Value.str (Str.ofString "/claim/cut.py") 178), (Value.int (1 : Int) 0), (Value.int (0 : Int) 0), (Value.int (0 : Int) 0), (Value.int (0 : Int) 0), (Value.int (0 : Int) 0), (Value.ref 7), (Value.bool @Bool.false), (Value.int (175 : Int) 0), (Value.ref 8), @PySem.Value.none, @PySem.Value.none, @PySem.Value.none, @PySem.Value.none, (Value.int (179 : Int) 0), (Value.int (1 : Int) 0), (Value.str (Str.ofString "/claim/cut.py") 180)]) #[])
noncomputable def o10 (P : Params) : Obj := (Obj.mk (Value.type "frame") (Option.none) @PySem.Data.plain #[(Option.some (Value.ref 9)), (Option.some (Value.ref 3)), (Option.some (Value.ref 3)), (Option.none), (Option.some (Value.str (Str.ofString "__main__") 164)), (Option.none), (Option.some (Value.ref 0))])
noncomputable def o11 (P : Params) : Obj := (Obj.mk (Value.type "dict") (Option.none) (Data.dict #[(DictEntry.mk (PyData.keyHash P (Str.ofString "__name__")) (Value.str (Str.ofString "__name__") 247) (Value.str (Str.ofString "_sre") 246)), (DictEntry.mk (PyData.keyHash P (Str.ofString "__doc__")) (Value.str (Str.ofString "__doc__") 248) @PySem.Value.none), (DictEntry.mk (PyData.keyHash P (Str.ofString "__package__")) (Value.str (Str.ofString "__package__") 250) (Value.str (Str.ofString "") 249)), (DictEntry.mk (PyData.keyHash P (Str.ofString "__loader__")) (Value.str (Str.ofString "__loader__") 251) (Value.builtin "off-the-table:_sre.__loader__:shared#opaque")), (DictEntry.mk (PyData.keyHash P (Str.ofString "__spec__")) (Value.str (Str.ofString "__spec__") 252) (Value.builtin "off-the-table:_sre.__spec__:shared#opaque")), (DictEntry.mk (PyData.keyHash P (Str.ofString "compile")) (Value.str (Str.ofString "compile") 253) (Value.builtin "_sre.compile")), (DictEntry.mk (PyData.keyHash P (Str.ofString "template")) (Value.str (Str.ofString "template") 254) (Value.builtin "off-the-table:_sre.template:shared#opaque")), (DictEntry.mk (PyData.keyHash P (Str.ofString "getcodesize")) (Value.str (Str.ofString "getcodesize") 255) (Value.builtin "off-the-table:_sre.getcodesize:shared#opaque")), (DictEntry.mk (PyData.keyHash P (Str.ofString "ascii_iscased")) (Value.str (Str.ofString "ascii_iscased") 256) (Value.builtin "off-the-table:_sre.ascii_iscased:shared#opaque")), (DictEntry.mk (PyData.keyHash P (Str.ofString "unicode_iscased")) (Value.str (Str.ofString "unicode_iscased") 257) (Value.builtin "off-the-table:_sre.unicode_iscased:shared#opaque")), (DictEntry.mk (PyData.keyHash P (Str.ofString "ascii_tolower")) (Value.str (Str.ofString "ascii_tolower") 258) (Value.builtin "off-the-table:_sre.ascii_tolower:shared#opaque")), (DictEntry.mk (PyData.keyHash P (Str.ofString "unicode_tolower")) (Value.str (Str.ofString "unicode_tolower") 259) (Value.builtin "off-the-table:_sre.unicode_tolower:shared#opaque")), (DictEntry.mk (PyData.keyHash P (Str.ofString "MAGIC")) (Value.str (Str.ofString "MAGIC") 261) (Value.int (20230612 : Int) 260)), (DictEntry.mk (PyData.keyHash P (Str.ofString "CODESIZE")) (Value.str (Str.ofString "CODESIZE") 263) (Value.int (4 : Int) 262)), (DictEntry.mk (PyData.keyHash P (Str.ofString "MAXREPEAT")) (Value.str (Str.ofString "MAXREPEAT") 265) (Value.int (4294967295 : Int) 264)), (DictEntry.mk (PyData.keyHash P (Str.ofString "MAXGROUPS")) (Value.str (Str.ofString "MAXGROUPS") 267) (Value.int (1073741823 : Int) 266)), (DictEntry.mk (PyData.keyHash P (Str.ofString "copyright")) (Value.str (Str.ofString "copyright") 269) (Value.str (Str.ofString " SRE 2.2.2 Copyright (c) 1997-2002 by Secret Labs AB ") 268))] 17) #[])
noncomputable def o12 (P : Params) : Obj := (Obj.mk (Value.type "module") (Option.some 11) @PySem.Data.plain #[])
noncomputable def o13 (P : Params) : Obj := (Obj.mk (Value.type "dict") (Option.none) (Data.dict #[(DictEntry.mk (PyData.keyHash P (Str.ofString "__module__")) (Value.str (Str.ofString "__module__") 189) (Value.str (Str.ofString "_frozen_importlib") 186)), (DictEntry.mk (PyData.keyHash P (Str.ofString "__firstlineno__")) (Value.str (Str.ofString "__firstlineno__") 190) (Value.int (971 : Int) 187)), (DictEntry.mk (PyData.keyHash P (Str.ofString "__doc__")) (Value.str (Str.ofString "__doc__") 191) (Value.builtin "_frozen_importlib.BuiltinImporter.__doc__:str#opaque")), (DictEntry.mk (PyData.keyHash P (Str.ofString "_ORIGIN")) (Value.str (Str.ofString "_ORIGIN") 192) (Value.str (Str.ofString "built-in") 188)), (DictEntry.mk (PyData.keyHash P (Str.ofString "find_spec")) (Value.str (Str.ofString "find_spec") 193) (Value.builtin "_frozen_importlib.BuiltinImporter.find_spec#opaque")), (DictEntry.mk (PyData.keyHash P (Str.ofString "create_module")) (Value.str (Str.ofString "create_module") 194) (Value.builtin "_frozen_importlib.BuiltinImporter.create_module#opaque")), (DictEntry.mk (PyData.keyHash P (Str.ofString "exec_module")) (Value.str (Str.ofString "exec_module") 195) (Value.builtin "_frozen_importlib.BuiltinImporter.exec_module#opaque")), (DictEntry.mk (PyData.keyHash P (Str.ofString "get_code")) (Value.str (Str.ofString "get_code") 196) (Value.builtin "_frozen_importlib.BuiltinImporter.get_code#opaque")), (DictEntry.mk (PyData.keyHash P (Str.ofString "get_source")) (Value.str (Str.ofString "get_source") 197) (Value.builtin "_frozen_importlib.BuiltinImporter.get_source#opaque")), (DictEntry.mk (PyData.keyHash P (Str.ofString "is_package")) (Value.str (Str.ofString "is_package") 198) (Value.builtin "_frozen_importlib.BuiltinImporter.is_package#opaque")), (DictEntry.mk (PyData.keyHash P (Str.ofString "load_module")) (Value.str (Str.ofString "load_module") 199) (Value.builtin "_frozen_importlib.BuiltinImporter.load_module#opaque")), (DictEntry.mk (PyData.keyHash P (Str.ofString "__static_attributes__")) (Value.str (Str.ofString "__static_attributes__") 200) (Value.ref 15)), (DictEntry.mk (PyData.keyHash P (Str.ofString "__dict__")) (Value.str (Str.ofString "__dict__") 202) (Value.ref 16)), (DictEntry.mk (PyData.keyHash P (Str.ofString "__weakref__")) (Value.str (Str.ofString "__weakref__") 204) (Value.ref 17))] 14) #[])
noncomputable def o14 (P : Params) : Obj := (Obj.mk (Value.type "type") (Option.none) (Data.cls (ClassData.mk (Str.ofString "BuiltinImporter") [(Value.type "object")] [(Value.ref 14), (Value.type "object")] 13 (Str.ofString "BuiltinImporter") @Bool.true [] [] @Bool.false (Option.none) @Bool.false)) #[])
noncomputable def o15 (P : Params) : Obj := (Obj.mk (Value.type "tuple") (Option.none) (Data.seq #[] 0) #[])
noncomputable def o16 (P : Params) : Obj := (Obj.mk (Value.type "getset_descriptor") (Option.none) (Data.fields #[(Value.str (Str.ofString "__dict__") 201), (Value.ref 14), (Value.builtin "function.__dict__"), (Value.builtin "function.__dict__#set")]) #[])
noncomputable def o17 (P : Params) : Obj := (Obj.mk (Value.type "getset_descriptor") (Option.none) (Data.fields #[(Value.str (Str.ofString "__weakref__") 203), (Value.ref 14), (Value.builtin "ExceptionGroup.__weakref__"), @PySem.Value.none]) #[])
noncomputable def o18 (P : Params) : Obj := (Obj.mk @PySem.Value.none (Option.none) (Data.seq #[(Value.int (13 : Int) 0), (Value.str (Str.ofString "\x06½\n__module__\x06º\x11_frozen_importlib\x06¾\x0f__firstlineno__\x04»\x00ϋ\x06¿\x07__doc__\t4_frozen_importlib.BuiltinImporter.__doc__:str#opaque\x06À\x07_ORIGIN\x06¼\x08built-in\x06Á\tfind_spec\t2_frozen_importlib.BuiltinImporter.find_spec#opaque\x06Â\x0dcreate_module\t6_frozen_importlib.BuiltinImporter.create_module#opaque\x06Ã\x0bexec_module\t4_frozen_importlib.BuiltinImporter.exec_module#opaque\x06Ä\x08get_code\t1_frozen_importlib.BuiltinImporter.get_code#opaque\x06Å\nget_source\t3_frozen_importlib.BuiltinImporter.get_source#opaque\x06Æ\nis_package\t3_frozen_importlib.BuiltinImporter.is_package#opaque\x06Ç\x0bload_module\t4_frozen_importlib.BuiltinImporter.load_module#opaque\x06È\x15__static_attributes__\x04\x00\x00\x0f\x06Ê\x08__dict__\x04\x00\x00\x10\x06Ì\x0b__weakref__\x04\x00\x00\x11") 0), (Value.bool @Bool.true), (Value.bool @Bool.true), (Value.str (Str.ofString "") 205), (Value.int (21 : Int) 0), (Value.str (Str.ofString "\x06ã\n__module__\x06Ù\x11_frozen_importlib\x06ä\x0f__firstlineno__\x04Ú\x00Ȳ\x06å\x07__doc__\t/_frozen_importlib.ModuleSpec.__doc__:str#opaque\x06æ\x08__init__\t,_frozen_importlib.ModuleSpec.__init__#opaque\x06ç\x08__repr__\t,_frozen_importlib.ModuleSpec.__repr__#opaque\x06è\x06__eq__\t*_frozen_importlib.ModuleSpec.__eq__#opaque\x06é\x06cached\t*_frozen_importlib.ModuleSpec.cached#opaque\x06ê\x06parent\t*_frozen_importlib.ModuleSpec.parent#opaque\x06ë\x0chas_location\t0_frozen_importlib.ModuleSpec.has_location#opaque\x06ì\x15__static_attributes__\x04\x00\x00\x17\x06î\x08__dict__\x04\x00\x00\x18\x06ð\x0b__weakref__\x04\x00\x00\x19\x06ñ\x08__hash__\x00") 0), (Value.bool @Bool.true), (Value.bool @Bool.true), (Value.str (Str.ofString "") 242)] 1) #[])
noncomputable def o19 (P : Params) : Obj := (Obj.mk (Value.type "list") (Option.none) (Data.seq #[] 0) #[])
noncomputable def o20 (P : Params) : Obj := (Obj.mk (Value.type "dict") (Option.none) (Data.dict #[(DictEntry.mk (PyData.keyHash P (Str.ofString "name")) (Value.str (Str.ofString "name") 208) (Value.str (Str.ofString "_sre") 207)), (DictEntry.mk (PyData.keyHash P (Str.ofString "loader")) (Value.str (Str.ofString "loader") 209) (Value.ref 14)), (DictEntry.mk (PyData.keyHash P (Str.ofString "origin")) (Value.str (Str.ofString "origin") 210) (Value.str (Str.ofString "built-in") 184)), (DictEntry.mk (PyData.keyHash P (Str.ofString "loader_state")) (Value.str (Str.ofString "loader_state") 211) @PySem.Value.none), (DictEntry.mk (PyData.keyHash P (Str.ofString "submodule_search_locations")) (Value.str (Str.ofString "submodule_search_locations") 212) @PySem.Value.none), (DictEntry.mk (PyData.keyHash P (Str.ofString "_uninitialized_submodules")) (Value.str (Str.ofString "_uninitialized_submodules") 213) (Value.ref 19)), (DictEntry.mk (PyData.keyHash P (Str.ofString "_set_fileattr")) (Value.str (Str.ofString "_set_fileattr") 214) (Value.bool @Bool.false)), (DictEntry.mk (PyData.keyHash P (Str.ofString "_cached")) (Value.str (Str.ofString "_cached") 215) @PySem.Value.none), (DictEntry.mk (PyData.keyHash P (Str.ofString "_initializing")) (Value.str (Str.ofString "_initializing") 243) (Value.bool @Bool.false))] 9) #[])
noncomputable def o21 (P : Params) : Obj := (Obj.mk (Value.type "dict") (Option.none) (Data.dict #[(DictEntry.mk (PyData.keyHash P (Str.ofString "__module__")) (Value.str (Str.ofString "__module__") 227) (Value.str (Str.ofString "_frozen_importlib") 217)), (DictEntry.mk (PyData.keyHash P (Str.ofString "__firstlineno__")) (Value.str (Str.ofString "__firstlineno__") 228) (Value.int (562 : Int) 218)), (DictEntry.mk (PyData.keyHash P (Str.ofString "__doc__")) (Value.str (Str.ofString "__doc__") 229) (Value.builtin "_frozen_importlib.ModuleSpec.__doc__:str#opaque")), (DictEntry.mk (PyData.keyHash P (Str.ofString "__init__")) (Value.str (Str.ofString "__init__") 230) (Value.builtin "_frozen_importlib.ModuleSpec.__init__#opaque")), (DictEntry.mk (PyData.keyHash P (Str.ofString "__repr__")) (Value.str (Str.ofString "__repr__") 231) (Value.builtin "_frozen_importlib.ModuleSpec.__repr__#opaque")), (DictEntry.mk (PyData.keyHash P (Str.ofString "__eq__")) (Value.str (Str.ofString "__eq__") 232) (Value.builtin "_frozen_importlib.ModuleSpec.__eq__#opaque")), (DictEntry.mk (PyData.keyHash P (Str.ofString "cached")) (Value.str (Str.ofString "cached") 233) (Value.builtin "_frozen_importlib.ModuleSpec.cached#opaque")), (DictEntry.mk (PyData.keyHash P (Str.ofString "parent")) (Value.str (Str.ofString "parent") 234) (Value.builtin "_frozen_importlib.ModuleSpec.parent#opaque")), (DictEntry.mk (PyData.keyHash P (Str.ofString "has_location")) (Value.str (Str.ofString "has_location") 235) (Value.builtin "_frozen_importlib.ModuleSpec.has_location#opaque")), (DictEntry.mk (PyData.keyHash P (Str.ofString "__static_attributes__")) (Value.str (Str.ofString "__static_attributes__") 236) (Value.ref 23)), (DictEntry.mk (PyData.keyHash P (Str.ofString "__dict__")) (Value.str (Str.ofString "__dict__") 238) (Value.ref 24)), (DictEntry.mk (PyData.keyHash P (Str.ofString "__weakref__")) (Value.str (Str.ofString "__weakref__") 240) (Value.ref 25)), (DictEntry.mk (PyData.keyHash P (Str.ofString "__hash__")) (Value.str (Str.ofString "__hash__") 241) @PySem.Value.none)] 13) #[])
noncomputable def o22 (P : Params) : Obj := (Obj.mk (Value.type "type") (Option.none) (Data.cls (ClassData.mk (Str.ofString "ModuleSpec") [(Value.type "object")] [(Value.ref 22), (Value.type "object")] 21 (Str.ofString "ModuleSpec") @Bool.true [] [] @Bool.false (Option.none) @Bool.false)) #[])
noncomputable def o23 (P : Params) : Obj := (Obj.mk (Value.type "tuple") (Option.none) (Data.seq #[(Value.str (Str.ofString "_cached") 219), (Value.str (Str.ofString "_set_fileattr") 220), (Value.str (Str.ofString "_uninitialized_submodules") 221), (Value.str (Str.ofString "loader") 222), (Value.str (Str.ofString "loader_state") 223), (Value.str (Str.ofString "name") 224), (Value.str (Str.ofString "origin") 225), (Value.str (Str.ofString "submodule_search_locations") 226)] 0) #[])
noncomputable def o24 (P : Params) : Obj := (Obj.mk (Value.type "getset_descriptor") (Option.none) (Data.fields #[(Value.str (Str.ofString "__dict__") 237), (Value.ref 22), (Value.builtin "function.__dict__"), (Value.builtin "function.__dict__#set")]) #[])
noncomputable def o25 (P : Params) : Obj := (Obj.mk (Value.type "getset_descriptor") (Option.none) (Data.fields #[(Value.str (Str.ofString "__weakref__") 239), (Value.ref 22), (Value.builtin "ExceptionGroup.__weakref__"), @PySem.Value.none]) #[])
noncomputable def o26 (P : Params) : Obj := (Obj.mk (Value.ref 22) (Option.some 20) @PySem.Data.plain #[])
noncomputable def o27 (P : Params) : Obj := (Obj.mk @PySem.Value.none (Option.none) (Data.seq #[(Value.int (11 : Int) 0), (Value.str (Str.mk #[6, 247, 8, 95, 95, 110, 97, 109, 101, 95, 95, 6, 246, 4, 95, 115, 114, 101, 6, 248, 7, 95, 95, 100, 111, 99, 95, 95, 0, 6, 250, 11, 95, 95, 112, 97, 99, 107, 97, 103, 101, 95, 95, 6, 249, 0, 6, 251, 10, 95, 95, 108, 111, 97, 100, 101, 114, 95, 95, 4, 0, 0, 14, 6, 252, 8, 95, 95, 115, 112, 101, 99, 95, 95, 4, 0, 0, 26, 6, 253, 7, 99, 111, 109, 112, 105, 108, 101, 9, 12, 95, 115, 114, 101, 46, 99, 111, 109, 112, 105, 108, 101, 6, 254, 8, 116, 101, 109, 112, 108, 97, 116, 101, 9, 13, 95, 115, 114, 101, 46, 116, 101, 109, 112, 108, 97, 116, 101, 6, 255, 11, 103, 101, 116, 99, 111, 100, 101, 115, 105, 122, 101, 9, 16, 95, 115, 114, 101, 46, 103, 101, 116, 99, 111, 100, 101, 115, 105, 122, 101, 6, 256, 13, 97, 115, 99, 105, 105, 95, 105, 115, 99, 97, 115, 101, 100, 9, 18, 95, 115, 114, 101, 46, 97, 115, 99, 105, 105, 95, 105, 115, 99, 97, 115, 101, 100, 6, 257, 15, 117, 110, 105, 99, 111, 100, 101, 95, 105, 115, 99, 97, 115, 101, 100, 9, 20, 95, 115, 114, 101, 46, 117, 110, 105, 99, 111, 100, 101, 95, 105, 115, 99, 97, 115, 101, 100, 6, 258, 13, 97, 115, 99, 105, 105, 95, 116, 111, 108, 111, 119, 101, 114, 9, 18, 95, 115, 114, 101, 46, 97, 115, 99, 105, 105, 95, 116, 111, 108, 111, 119, 101, 114, 6, 259, 15, 117, 110, 105, 99, 111, 100, 101, 95, 116, 111, 108, 111, 119, 101, 114, 9, 20, 95, 115, 114, 101, 46, 117, 110, 105, 99, 111, 100, 101, 95, 116, 111, 108, 111, 119, 101, 114, 6, 261, 5, 77, 65, 71, 73, 67, 4, 260, 0, 20230612, 6, 263, 8, 67, 79, 68, 69, 83, 73, 90, 69, 4, 262, 0, 4, 6, 265, 9, 77, 65, 88, 82, 69, 80, 69, 65, 84, 4, 264, 0, 4294967295, 6, 267, 9, 77, 65, 88, 71, 82, 79, 85, 80, 83, 4, 266, 0, 1073741823, 6, 269, 9, 99, 111, 112, 121, 114, 105, 103, 104, 116, 6, 268, 53, 32, 83, 82, 69, 32, 50, 46, 50, 46, 50, 32, 67, 111, 112, 121, 114, 105, 103, 104, 116, 32, 40, 99, 41, 32, 49, 57, 57, 55, 45, 50, 48, 48, 50, 32, 98, 121, 32, 83, 101, 99, 114, 101, 116, 32, 76, 97, 98, 115, 32, 65, 66, 32]) 0), (Value.bool @Bool.true), (Value.bool @Bool.false), (Value.str (Str.ofString "_sre") 271)] 0) #[])
noncomputable def hZ (P : Params) : Heap := ⟨#[o0 P, o1 P, o2 P, o3 P, o4 P, o5 P, o6 P, o7 P, o8 P, o9 P, o10 P, o11 P, o12 P, o13 P, o14 P, o15 P, o16 P, o17 P, o18 P, o19 P, o20 P, o21 P, o22 P, o23 P, o24 P, o25 P, o26 P, o27 P], (Life.mk [] [] [] 0 [] [] @Bool.false #[] [] 0 @Bool.false @Bool.false @Bool.false (0 : Int) [(2000 : Int), (10 : Int), (10 : Int)] @Bool.false 0 @Bool.true [] [] 0 @Bool.false)⟩
noncomputable def sZ (w : World) (os : OsState) : Shared := ⟨hZ w.params, #[], ⟨0, 0, 0, 0⟩, 276, os⟩
noncomputable def o28 (P : Params) : Obj := (Obj.mk (Value.type "tuple") (Option.none) (Data.seq #[] 0) #[])
noncomputable def o29 (P : Params) : Obj := (Obj.mk @PySem.Value.none (Option.none) (Data.fields #[]) #[])
noncomputable def o30 (P : Params) : Obj := (Obj.mk (Value.type "code") (Option.none) (Data.fields #[(Value.str (Str.ofString "<module>") 277), (Value.str (Str.ofString "<module>") 278), (Value.str (Str.ofString "/claim/cut.py") 279), (Value.int (1 : Int) 0), (Value.int (0 : Int) 0), (Value.int (0 : Int) 0), (Value.int (0 : Int) 0), (Value.int (0 : Int) 0), (Value.ref 28), (Value.bool @Bool.false), (Value.int (276 : Int) 0), (Value.ref 29), @PySem.Value.none, @PySem.Value.none, @PySem.Value.none, @PySem.Value.none, (Value.int (280 : Int) 0), (Value.int (1 : Int) 0), (Value.str (Str.ofString "/claim/cut.py") 281)]) #[])
noncomputable def o31 (P : Params) : Obj := (Obj.mk (Value.type "frame") (Option.none) @PySem.Data.plain #[(Option.some (Value.ref 30)), (Option.some (Value.ref 3)), (Option.some (Value.ref 3)), (Option.none), (Option.some (Value.str (Str.ofString "__main__") 164)), (Option.none), (Option.some (Value.ref 0))])
noncomputable def hA (P : Params) : Heap := ⟨#[o0 P, o1 P, o2 P, o3 P, o4 P, o5 P, o6 P, o7 P, o8 P, o9 P, o10 P, o11 P, o12 P, o13 P, o14 P, o15 P, o16 P, o17 P, o18 P, o19 P, o20 P, o21 P, o22 P, o23 P, o24 P, o25 P, o26 P, o27 P, o28 P, o29 P, o30 P, o31 P], (Life.mk [] [] [] 0 [] [] @Bool.false #[] [] 0 @Bool.false @Bool.false @Bool.false (0 : Int) [(2000 : Int), (10 : Int), (10 : Int)] @Bool.false 0 @Bool.true [] [] 0 @Bool.false)⟩
noncomputable def sA (w : World) (os : OsState) : Shared := ⟨hA w.params, #[], ⟨0, 0, 0, 0⟩, 282, os⟩
noncomputable def tB (P : Params) : BT := (.node (o0 P) (.node (o1 P) (.node (o3 P) (.node (o7 P) (.node (o15 P) (.node (o31 P) .nil .nil) .nil) (.node (o23 P) .nil .nil)) (.node (o11 P) (.node (o19 P) .nil .nil) (.node (o27 P) .nil .nil))) (.node (o5 P) (.node (o9 P) (.node (o17 P) .nil .nil) (.node (o25 P) .nil .nil)) (.node (o13 P) (.node (o21 P) .nil .nil) (.node (o29 P) .nil .nil)))) (.node (o2 P) (.node (o4 P) (.node (o8 P) (.node (o16 P) .nil .nil) (.node (o24 P) .nil .nil)) (.node (o12 P) (.node (o20 P) .nil .nil) (.node (o28 P) .nil .nil))) (.node (o6 P) (.node (o10 P) (.node (o18 P) .nil .nil) (.node (o26 P) .nil .nil)) (.node (o14 P) (.node (o22 P) .nil .nil) (.node (o30 P) .nil .nil)))))
noncomputable def sB (w : World) (os : OsState) : SharedT := ⟨tB w.params, 32, (Life.mk [] [] [] 0 [] [] @Bool.false #[] [] 0 @Bool.false @Bool.false @Bool.false (0 : Int) [(2000 : Int), (10 : Int), (10 : Int)] @Bool.false 0 @Bool.true [] [] 0 @Bool.false), #[], ⟨0, 0, 0, 0⟩, 282, os⟩
noncomputable def o32 (P : Params) : Obj := (Obj.mk (Value.type "dict") (Option.none) (Data.dict #[(DictEntry.mk (PyData.keyHash P (Str.ofString "__name__")) (Value.str (Str.ofString "__name__") 165) (Value.str (Str.ofString "cssselect.parser") 289)), (DictEntry.mk (PyData.keyHash P (Str.ofString "__doc__")) (Value.str (Str.ofString "__doc__") 166) @PySem.Value.none), (DictEntry.mk (PyData.keyHash P (Str.ofString "__package__")) (Value.str (Str.ofString "__package__") 167) @PySem.Value.none), (DictEntry.mk (PyData.keyHash P (Str.ofString "__loader__")) (Value.str (Str.ofString "__loader__") 168) (Value.builtin "__main__.__loader__#opaque")), (DictEntry.mk (PyData.keyHash P (Str.ofString "__spec__")) (Value.str (Str.ofString "__spec__") 169) @PySem.Value.none), (DictEntry.mk (PyData.keyHash P (Str.ofString "__annotations__")) (Value.str (Str.ofString "__annotations__") 170) (Value.ref 6)), (DictEntry.mk (PyData.keyHash P (Str.ofString "__builtins__")) (Value.str (Str.ofString "__builtins__") 171) (Value.ref 4)), (DictEntry.mk (PyData.keyHash P (Str.ofString "__file__")) (Value.str (Str.ofString "__file__") 173) (Value.str (Str.ofString "/claim/cut.py") 172)), (DictEntry.mk (PyData.keyHash P (Str.ofString "__cached__")) (Value.str (Str.ofString "__cached__") 174) @PySem.Value.none), (DictEntry.mk (PyData.keyHash P (Str.ofString "_sre")) (Value.str (Str.ofString "_sre") 275) (Value.ref 12)), (DictEntry.mk (PyData.keyHash P (Str.ofString "_wall")) (Value.str (Str.ofString "_wall") 288) (Value.ref 38))] 11) #[])
noncomputable def o33 (P : Params) : Obj := (Obj.mk @PySem.Value.none (Option.none) (Data.fields #[(Value.int (2 : Int) 0), (Value.int (0 : Int) 0), (Value.ref 37)]) #[])
noncomputable def o34 (P : Params) : Obj := (Obj.mk (Value.type "tuple") (Option.none) (Data.seq #[] 0) #[])
noncomputable def o35 (P : Params) : Obj := (Obj.mk @PySem.Value.none (Option.none) (Data.fields #[]) #[])
noncomputable def o36 (P : Params) : Obj := (Obj.mk (Value.type "tuple") (Option.none) (Data.seq #[(Value.str (Str.ofString "k") 285)] 0) #[])
noncomputable def o37 (P : Params) : Obj := (Obj.mk (Value.type "tuple") (Option.none) (Data.seq #[] 0) #[])
noncomputable def o38 (P : Params) : Obj := (Obj.mk @PySem.Value.none (Option.none) (Data.func (FuncData.mk (Str.ofString "_wall") (Str.ofString "_wall") (fArgs (fd 1)) (FuncBody.stmts (fBody (fd 1))) (fScope (fd 1)) 0 [] @PySem.Value.none @PySem.Value.none @PySem.Value.none @PySem.Value.none (Option.none) @PySem.Value.none @PySem.Value.none 0)) #[])
noncomputable def o39 (P : Params) : Obj := (Obj.mk (Value.type "code") (Option.none) (Data.fields #[(Value.str (Str.ofString "_wall") 282), (Value.str (Str.ofString "_wall") 283), (Value.str (Str.ofString "/claim/cut.py") 284), (Value.int (2 : Int) 0), (Value.int (1 : Int) 0), (Value.int (0 : Int) 0), (Value.int (0 : Int) 0), (Value.int (3 : Int) 0), (Value.ref 32), (Value.bool @Bool.true), (Value.int (276 : Int) 0), (Value.ref 33), @PySem.Value.none, (Value.ref 34), (Value.ref 35), (Value.ref 36), (Value.int (286 : Int) 0), (Value.int (2 : Int) 0), (Value.str (Str.ofString "/claim/cut.py") 287)]) #[])
noncomputable def o40 (P : Params) : Obj := (Obj.mk (Value.type "function") (Option.none) (Data.func (FuncData.mk (Str.ofString "_wall") (Str.ofString "_wall") (fArgs (fd 1)) (FuncBody.stmts (fBody (fd 1))) (fScope (fd 1)) 3 [] @PySem.Value.none @PySem.Value.none @PySem.Value.none (Value.str (Str.ofString "__main__") 164) (Option.none) (Value.ref 37) @PySem.Value.none 0)) #[])
noncomputable def t0 (P : Params) : BT := (.node (o0 P) (.node (o1 P) (.node (o32 P) (.node (o7 P) (.node (o15 P) (.node (o31 P) .nil .nil) .nil) (.node (o23 P) .nil .nil)) (.node (o11 P) (.node (o19 P) (.node (o37 P) .nil .nil) .nil) (.node (o27 P) .nil .nil))) (.node (o5 P) (.node (o9 P) (.node (o17 P) (.node (o35 P) .nil .nil) .nil) (.node (o25 P) .nil .nil)) (.node (o13 P) (.node (o21 P) (.node (o39 P) .nil .nil) .nil) (.node (o33 P) .nil .nil)))) (.node (o2 P) (.node (o4 P) (.node (o8 P) (.node (o16 P) (.node (o34 P) .nil .nil) .nil) (.node (o24 P) .nil .nil)) (.node (o12 P) (.node (o20 P) (.node (o38 P) .nil .nil) .nil) (.node (o28 P) .nil .nil))) (.node (o6 P) (.node (o10 P) (.node (o18 P) (.node (o36 P) .nil .nil) .nil) (.node (o26 P) .nil .nil)) (.node (o14 P) (.node (o22 P) (.node (o40 P) .nil .nil) .nil) (.node (o30 P) .nil .nil)))))
noncomputable def s0 (w : World) (os : OsState) : SharedT := ⟨t0 w.params, 39, (Life.mk [] [] [] 0 [] [] @Bool.false #[] [] 0 @Bool.false @Bool.false @Bool.false (0 : Int) [(2000 : Int), (10 : Int), (10 : Int)] @Bool.false 0 @Bool.true [] [] 0 @Bool.false), #[], ⟨0, 0, 0, 0⟩, 291, os⟩
noncomputable def o41 (P : Params) : Obj := (Obj.mk (Value.type "dict") (Option.none) (Data.dict #[(DictEntry.mk (PyData.keyHash P (Str.ofString "__name__")) (Value.str (Str.ofString "__name__") 165) (Value.str (Str.ofString "cssselect.parser") 289)), (DictEntry.mk (PyData.keyHash P (Str.ofString "__doc__")) (Value.str (Str.ofString "__doc__") 166) @PySem.Value.none), (DictEntry.mk (PyData.keyHash P (Str.ofString "__package__")) (Value.str (Str.ofString "__package__") 167) @PySem.Value.none), (DictEntry.mk (PyData.keyHash P (Str.ofString "__loader__")) (Value.str (Str.ofString "__loader__") 168) (Value.builtin "__main__.__loader__#opaque")), (DictEntry.mk (PyData.keyHash P (Str.ofString "__spec__")) (Value.str (Str.ofString "__spec__") 169) @PySem.Value.none), (DictEntry.mk (PyData.keyHash P (Str.ofString "__annotations__")) (Value.str (Str.ofString "__annotations__") 170) (Value.ref 6)), (DictEntry.mk (PyData.keyHash P (Str.ofString "__builtins__")) (Value.str (Str.ofString "__builtins__") 171) (Value.ref 4)), (DictEntry.mk (PyData.keyHash P (Str.ofString "__file__")) (Value.str (Str.ofString "__file__") 173) (Value.str (Str.ofString "/claim/cut.py") 172)), (DictEntry.mk (PyData.keyHash P (Str.ofString "__cached__")) (Value.str (Str.ofString "__cached__") 174) @PySem.Value.none), (DictEntry.mk (PyData.keyHash P (Str.ofString "_sre")) (Value.str (Str.ofString "_sre") 275) (Value.ref 12)), (DictEntry.mk (PyData.keyHash P (Str.ofString "_wall")) (Value.str (Str.ofString "_wall") 288) (Value.ref 38)), (DictEntry.mk (PyData.keyHash P (Str.ofString "_twin_re_7")) (Value.str (Str.ofString "_twin_re_7") 428) (Value.ref 43))] 12) #[])
noncomputable def o42 (P : Params) : Obj := (Obj.mk (Value.type "list") (Option.none) (Data.seq (litA 3 294) 0) #[])
noncomputable def o43 (P : Params) : Obj := (Obj.mk (Value.type "dict") (Option.none) (Data.dict #[] 0) #[])
noncomputable def o44 (P : Params) : Obj := (Obj.mk (Value.type "tuple") (Option.none) (Data.seq #[@PySem.Value.none, @PySem.Value.none, @PySem.Value.none] 0) #[])
noncomputable def o45 (P : Params) : Obj := (Obj.mk (Value.type "tuple") (Option.none) (Data.seq (tupA 3) 0) #[])
noncomputable def o46 (P : Params) : Obj := (Obj.mk (Value.type "re.Pattern") (Option.none) (Data.fields #[(Value.str (patS (fd 3)) 292), (Value.int (34 : Int) 427), (Value.int (2 : Int) 0), @PySem.Value.none, @PySem.Value.none, (Value.ref 42), (Value.int (0 : Int) 0)]) #[])
noncomputable def t1 (P : Params) : BT := (.node (o0 P) (.node (o1 P) (.node (o41 P) (.node (o7 P) (.node (o15 P) (.node (o31 P) .nil .nil) .nil) (.node (o23 P) (.node (o42 P) .nil .nil) .nil)) (.node (o11 P) (.node (o19 P) (.node (o37 P) .nil .nil) .nil) (.node (o27 P) (.node (o46 P) .nil .nil) .nil))) (.node (o5 P) (.node (o9 P) (.node (o17 P) (.node (o35 P) .nil .nil) .nil) (.node (o25 P) (.node (o44 P) .nil .nil) .nil)) (.node (o13 P) (.node (o21 P) (.node (o39 P) .nil .nil) .nil) (.node (o33 P) .nil .nil)))) (.node (o2 P) (.node (o4 P) (.node (o8 P) (.node (o16 P) (.node (o34 P) .nil .nil) .nil) (.node (o24 P) (.node (o43 P) .nil .nil) .nil)) (.node (o12 P) (.node (o20 P) (.node (o38 P) .nil .nil) .nil) (.node (o28 P) .nil .nil))) (.node (o6 P) (.node (o10 P) (.node (o18 P) (.node (o36 P) .nil .nil) .nil) (.node (o26 P) (.node (o45 P) .nil .nil) .nil)) (.node (o14 P) (.node (o22 P) (.node (o40 P) .nil .nil) .nil) (.node (o30 P) .nil .nil)))))
noncomputable def s1 (w : World) (os : OsState) : SharedT := ⟨t1 w.params, 44, (Life.mk [] [] [] 0 [] [] @Bool.false #[] [] 0 @Bool.false @Bool.false @Bool.false (0 : Int) [(2000 : Int), (10 : Int), (10 : Int)] @Bool.false 0 @Bool.true [] [] 0 @Bool.false), #[], ⟨0, 0, 0, 0⟩, 429, os⟩
noncomputable def o47 (P : Params) : Obj := (Obj.mk (Value.type "dict") (Option.none) (Data.dict #[(DictEntry.mk (PyData.keyHash P (Str.ofString "__name__")) (Value.str (Str.ofString "__name__") 165) (Value.str (Str.ofString "cssselect.parser") 289)), (DictEntry.mk (PyData.keyHash P (Str.ofString "__doc__")) (Value.str (Str.ofString "__doc__") 166) @PySem.Value.none), (DictEntry.mk (PyData.keyHash P (Str.ofString "__package__")) (Value.str (Str.ofString "__package__") 167) @PySem.Value.none), (DictEntry.mk (PyData.keyHash P (Str.ofString "__loader__")) (Value.str (Str.ofString "__loader__") 168) (Value.builtin "__main__.__loader__#opaque")), (DictEntry.mk (PyData.keyHash P (Str.ofString "__spec__")) (Value.str (Str.ofString "__spec__") 169) @PySem.Value.none), (DictEntry.mk (PyData.keyHash P (Str.ofString "__annotations__")) (Value.str (Str.ofString "__annotations__") 170) (Value.ref 6)), (DictEntry.mk (PyData.keyHash P (Str.ofString "__builtins__")) (Value.str (Str.ofString "__builtins__") 171) (Value.ref 4)), (DictEntry.mk (PyData.keyHash P (Str.ofString "__file__")) (Value.str (Str.ofString "__file__") 173) (Value.str (Str.ofString "/claim/cut.py") 172)), (DictEntry.mk (PyData.keyHash P (Str.ofString "__cached__")) (Value.str (Str.ofString "__cached__") 174) @PySem.Value.none), (DictEntry.mk (PyData.keyHash P (Str.ofString "_sre")) (Value.str (Str.ofString "_sre") 275) (Value.ref 12)), (DictEntry.mk (PyData.keyHash P (Str.ofString "_wall")) (Value.str (Str.ofString "_wall") 288) (Value.ref 38)), (DictEntry.mk (PyData.keyHash P (Str.ofString "_twin_re_7")) (Value.str (Str.ofString "_twin_re_7") 428) (Value.ref 43)), (DictEntry.mk (PyData.keyHash P (Str.ofString "_twin_re_8")) (Value.str (Str.ofString "_twin_re_8") 566) (Value.ref 48))] 13) #[])
noncomputable def o48 (P : Params) : Obj := (Obj.mk (Value.type "list") (Option.none) (Data.seq (litA 4 432) 0) #[])
noncomputable def o49 (P : Params) : Obj := (Obj.mk (Value.type "dict") (Option.none) (Data.dict #[] 0) #[])
noncomputable def o50 (P : Params) : Obj := (Obj.mk (Value.type "tuple") (Option.none) (Data.seq #[@PySem.Value.none, @PySem.Value.none, @PySem.Value.none] 0) #[])
noncomputable def o51 (P : Params) : Obj := (Obj.mk (Value.type "tuple") (Option.none) (Data.seq (tupA 4) 0) #[])
noncomputable def o52 (P : Params) : Obj := (Obj.mk (Value.type "re.Pattern") (Option.none) (Data.fields #[(Value.str (patS (fd 4)) 430), (Value.int (34 : Int) 565), (Value.int (2 : Int) 0), @PySem.Value.none, @PySem.Value.none, (Value.ref 47), (Value.int (0 : Int) 0)]) #[])
noncomputable def t2 (P : Params) : BT := (.node (o0 P) (.node (o1 P) (.node (o47 P) (.node (o7 P) (.node (o15 P) (.node (o31 P) .nil .nil) (.node (o51 P) .nil .nil)) (.node (o23 P) (.node (o42 P) .nil .nil) .nil)) (.node (o11 P) (.node (o19 P) (.node (o37 P) .nil .nil) .nil) (.node (o27 P) (.node (o46 P) .nil .nil) .nil))) (.node (o5 P) (.node (o9 P) (.node (o17 P) (.node (o35 P) .nil .nil) .nil) (.node (o25 P) (.node (o44 P) .nil .nil) .nil)) (.node (o13 P) (.node (o21 P) (.node (o39 P) .nil .nil) .nil) (.node (o33 P) (.node (o49 P) .nil .nil) .nil)))) (.node (o2 P) (.node (o4 P) (.node (o8 P) (.node (o16 P) (.node (o34 P) .nil .nil) (.node (o52 P) .nil .nil)) (.node (o24 P) (.node (o43 P) .nil .nil) .nil)) (.node (o12 P) (.node (o20 P) (.node (o38 P) .nil .nil) .nil) (.node (o28 P) (.node (o48 P) .nil .nil) .nil))) (.node (o6 P) (.node (o10 P) (.node (o18 P) (.node (o36 P) .nil .nil) .nil) (.node (o26 P) (.node (o45 P) .nil .nil) .nil)) (.node (o14 P) (.node (o22 P) (.node (o40 P) .nil .nil) .nil) (.node (o30 P) (.node (o50 P) .nil .nil) .nil)))))
noncomputable def s2 (w : World) (os : OsState) : SharedT := ⟨t2 w.params, 49, (Life.mk [] [] [] 0 [] [] @Bool.false #[] [] 0 @Bool.false @Bool.false @Bool.false (0 : Int) [(2000 : Int), (10 : Int), (10 : Int)] @Bool.false 0 @Bool.true [] [] 0 @Bool.false), #[], ⟨0, 0, 0, 0⟩, 567, os⟩
noncomputable def o53 (P : Params) : Obj := (Obj.mk @PySem.Value.none (Option.none) (Data.dict #[(DictEntry.mk (PyData.keyHash P (Str.ofString "\x69mport.loaded._sre")) (Value.str (Str.ofString "\x69mport.loaded._sre") 183) (Value.bool @Bool.true)), (DictEntry.mk (PyData.keyHash P (Str.ofString "class._frozen_importlib.BuiltinImporter")) (Value.str (Str.ofString "class._frozen_importlib.BuiltinImporter") 185) (Value.ref 14)), (DictEntry.mk (PyData.keyHash P (Str.ofString "watched.\x69mport")) (Value.str (Str.ofString "watched.\x69mport") 206) (Value.ref 18)), (DictEntry.mk (PyData.keyHash P (Str.ofString "class._frozen_importlib.ModuleSpec")) (Value.str (Str.ofString "class._frozen_importlib.ModuleSpec") 216) (Value.ref 22)), (DictEntry.mk (PyData.keyHash P (Str.ofString "sys.modules.booked-epoch")) (Value.str (Str.ofString "sys.modules.booked-epoch") 245) (Value.int (3 : Int) 0)), (DictEntry.mk (PyData.keyHash P (Str.ofString "\x69mport.later-laid._sre")) (Value.str (Str.ofString "\x69mport.later-laid._sre") 270) (Value.bool @Bool.true)), (DictEntry.mk (PyData.keyHash P (Str.ofString "watched.library")) (Value.str (Str.ofString "watched.library") 272) (Value.ref 27)), (DictEntry.mk (PyData.keyHash P (Str.ofString "watched.library-objects")) (Value.str (Str.ofString "watched.library-objects") 0) (Value.str (Str.ofString "\x0c") 0)), (DictEntry.mk (PyData.keyHash P (Str.ofString "watched.library-deep._sre")) (Value.str (Str.ofString "watched.library-deep._sre") 273) (Value.str (Str.ofString "\x04\x00\x00\x0b\x04\x00\x00\x0b\x04\x00\x00\x03\x04\x00\x00\x0b\x08\x04dict\x02") 0)), (DictEntry.mk (PyData.keyHash P (Str.ofString "type.__subclasses__.Exception.0")) (Value.str (Str.ofString "type.__subclasses__.Exception.0") 583) (Value.int (58 : Int) 0)), (DictEntry.mk (PyData.keyHash P (Str.ofString "type.__subclasses__.Exception.n")) (Value.str (Str.ofString "type.__subclasses__.Exception.n") 584) (Value.int (1 : Int) 0))] 11) #[])
noncomputable def o54 (P : Params) : Obj := (Obj.mk (Value.type "dict") (Option.none) (Data.dict #[(DictEntry.mk (PyData.keyHash P (Str.ofString "__name__")) (Value.str (Str.ofString "__name__") 165) (Value.str (Str.ofString "cssselect.parser") 289)), (DictEntry.mk (PyData.keyHash P (Str.ofString "__doc__")) (Value.str (Str.ofString "__doc__") 166) @PySem.Value.none), (DictEntry.mk (PyData.keyHash P (Str.ofString "__package__")) (Value.str (Str.ofString "__package__") 167) @PySem.Value.none), (DictEntry.mk (PyData.keyHash P (Str.ofString "__loader__")) (Value.str (Str.ofString "__loader__") 168) (Value.builtin "__main__.__loader__#opaque")), (DictEntry.mk (PyData.keyHash P (Str.ofString "__spec__")) (Value.str (Str.ofString "__spec__") 169) @PySem.Value.none), (DictEntry.mk (PyData.keyHash P (Str.ofString "__annotations__")) (Value.str (Str.ofString "__annotations__") 170) (Value.ref 6)), (DictEntry.mk (PyData.keyHash P (Str.ofString "__builtins__")) (Value.str (Str.ofString "__builtins__") 171) (Value.ref 4)), (DictEntry.mk (PyData.keyHash P (Str.ofString "__file__")) (Value.str (Str.ofString "__file__") 173) (Value.str (Str.ofString "/claim/cut.py") 172)), (DictEntry.mk (PyData.keyHash P (Str.ofString "__cached__")) (Value.str (Str.ofString "__cached__") 174) @PySem.Value.none), (DictEntry.mk (PyData.keyHash P (Str.ofString "_sre")) (Value.str (Str.ofString "_sre") 275) (Value.ref 12)), (DictEntry.mk (PyData.keyHash P (Str.ofString "_wall")) (Value.str (Str.ofString "_wall") 288) (Value.ref 38)), (DictEntry.mk (PyData.keyHash P (Str.ofString "_twin_re_7")) (Value.str (Str.ofString "_twin_re_7") 428) (Value.ref 43)), (DictEntry.mk (PyData.keyHash P (Str.ofString "_twin_re_8")) (Value.str (Str.ofString "_twin_re_8") 566) (Value.ref 48)), (DictEntry.mk (PyData.keyHash P (Str.ofString "SelectorError")) (Value.str (Str.ofString "SelectorError") 586) (Value.ref 58))] 14) #[])
noncomputable def o55 (P : Params) : Obj := (Obj.mk @PySem.Value.none (Option.none) (Data.fields #[(Value.int (2 : Int) 0), (Value.int (0 : Int) 0), (Value.ref 37), (Value.int (8 : Int) 0), (Value.int (0 : Int) 0), (Value.ref 54)]) #[])
noncomputable def o56 (P : Params) : Obj := (Obj.mk (Value.type "tuple") (Option.none) (Data.seq #[(Value.type "Exception")] 0) #[])
noncomputable def o57 (P : Params) : Obj := (Obj.mk (Value.type "builtin_function_or_method") (Option.none) (Data.fields #[(Value.builtin "type.__prepare__"), (Value.type "type")]) #[])
noncomputable def o58 (P : Params) : Obj := (Obj.mk (Value.type "dict") (Option.none) (Data.dict #[(DictEntry.mk (PyData.keyHash P (Str.ofString "__module__")) (Value.str (Str.ofString "__module__") 574) (Value.str (Str.ofString "cssselect.parser") 289)), (DictEntry.mk (PyData.keyHash P (Str.ofString "__qualname__")) (Value.str (Str.ofString "__qualname__") 576) (Value.str (Str.ofString "SelectorError") 575)), (DictEntry.mk (PyData.keyHash P (Str.ofString "__firstlineno__")) (Value.str (Str.ofString "__firstlineno__") 578) (Value.int (8 : Int) 577)), (DictEntry.mk (PyData.keyHash P (Str.ofString "__static_attributes__")) (Value.str (Str.ofString "__static_attributes__") 579) (Value.ref 56))] 4) #[])
noncomputable def o59 (P : Params) : Obj := (Obj.mk (Value.type "tuple") (Option.none) (Data.seq #[] 0) #[])
noncomputable def o60 (P : Params) : Obj := (Obj.mk @PySem.Value.none (Option.none) (Data.fields #[]) #[])
noncomputable def o61 (P : Params) : Obj := (Obj.mk (Value.type "code") (Option.none) (Data.fields #[(Value.str (Str.ofString "SelectorError") 569), (Value.str (Str.ofString "SelectorError") 570), (Value.str (Str.ofString "/claim/cut.py") 571), (Value.int (8 : Int) 0), (Value.int (0 : Int) 0), (Value.int (0 : Int) 0), (Value.int (0 : Int) 0), (Value.int (0 : Int) 0), (Value.ref 52), (Value.bool @Bool.false), (Value.int (276 : Int) 0), (Value.ref 53), @PySem.Value.none, @PySem.Value.none, @PySem.Value.none, @PySem.Value.none, (Value.int (572 : Int) 0), (Value.int (8 : Int) 0), (Value.str (Str.ofString "/claim/cut.py") 573)]) #[])
noncomputable def o62 (P : Params) : Obj := (Obj.mk (Value.type "frame") (Option.none) @PySem.Data.plain #[(Option.some (Value.ref 54)), (Option.some (Value.ref 3)), (Option.some (Value.ref 51)), (Option.none), (Option.some (Value.str (Str.ofString "cssselect.parser") 289)), (Option.none), (Option.some (Value.ref 0))])
noncomputable def o63 (P : Params) : Obj := (Obj.mk (Value.type "tuple") (Option.none) (Data.seq #[] 0) #[])
noncomputable def o64 (P : Params) : Obj := (Obj.mk (Value.type "dict") (Option.none) (Data.dict #[(DictEntry.mk (PyData.keyHash P (Str.ofString "__module__")) (Value.str (Str.ofString "__module__") 574) (Value.str (Str.ofString "cssselect.parser") 289)), (DictEntry.mk (PyData.keyHash P (Str.ofString "__firstlineno__")) (Value.str (Str.ofString "__firstlineno__") 578) (Value.int (8 : Int) 577)), (DictEntry.mk (PyData.keyHash P (Str.ofString "__static_attributes__")) (Value.str (Str.ofString "__static_attributes__") 579) (Value.ref 56)), (DictEntry.mk (PyData.keyHash P (Str.ofString "__weakref__")) (Value.str (Str.ofString "__weakref__") 581) (Value.ref 59)), (DictEntry.mk (PyData.keyHash P (Str.ofString "__doc__")) (Value.str (Str.ofString "__doc__") 582) @PySem.Value.none)] 3) #[])
noncomputable def o65 (P : Params) : Obj := (Obj.mk (Value.type "type") (Option.none) (Data.cls (ClassData.mk (Str.ofString "SelectorError") [(Value.type "Exception")] [(Value.ref 58), (Value.type "Exception"), (Value.type "BaseException"), (Value.type "object")] 57 (Str.ofString "SelectorError") @Bool.true [] [] @Bool.false (Option.none) @Bool.false)) #[(Option.some (Value.ref 49)), (Option.none), (Option.some (Value.str (Str.ofString "SelectorError") 567)), (Option.some (Value.str (Str.ofString "SelectorError") 575)), (Option.some (Value.builtin "Exception.__new__")), (Option.some (Value.bool @Bool.true))])
noncomputable def o66 (P : Params) : Obj := (Obj.mk (Value.type "getset_descriptor") (Option.none) (Data.fields #[(Value.str (Str.ofString "__weakref__") 580), (Value.ref 58), (Value.builtin "ExceptionGroup.__weakref__"), @PySem.Value.none]) #[])
noncomputable def o67 (P : Params) : Obj := (Obj.mk (Value.type "super") (Option.none) (Data.fields #[(Value.ref 58), (Value.ref 58), (Value.ref 58)]) #[])
noncomputable def o68 (P : Params) : Obj := (Obj.mk (Value.type "builtin_function_or_method") (Option.none) (Data.fields #[(Value.builtin "object.__init_subclass__"), (Value.ref 58)]) #[])
noncomputable def t3 (P : Params) : BT := (.node (o0 P) (.node (o1 P) (.node (o54 P) (.node (o7 P) (.node (o15 P) (.node (o31 P) .nil .nil) (.node (o51 P) .nil .nil)) (.node (o23 P) (.node (o42 P) .nil .nil) (.node (o62 P) .nil .nil))) (.node (o11 P) (.node (o19 P) (.node (o37 P) .nil .nil) (.node (o58 P) .nil .nil)) (.node (o27 P) (.node (o46 P) .nil .nil) (.node (o66 P) .nil .nil)))) (.node (o5 P) (.node (o9 P) (.node (o17 P) (.node (o35 P) .nil .nil) (.node (o56 P) .nil .nil)) (.node (o25 P) (.node (o44 P) .nil .nil) (.node (o64 P) .nil .nil))) (.node (o13 P) (.node (o21 P) (.node (o39 P) .nil .nil) (.node (o60 P) .nil .nil)) (.node (o55 P) (.node (o49 P) .nil .nil) (.node (o68 P) .nil .nil))))) (.node (o53 P) (.node (o4 P) (.node (o8 P) (.node (o16 P) (.node (o34 P) .nil .nil) (.node (o52 P) .nil .nil)) (.node (o24 P) (.node (o43 P) .nil .nil) (.node (o63 P) .nil .nil))) (.node (o12 P) (.node (o20 P) (.node (o38 P) .nil .nil) (.node (o59 P) .nil .nil)) (.node (o28 P) (.node (o48 P) .nil .nil) (.node (o67 P) .nil .nil)))) (.node (o6 P) (.node (o10 P) (.node (o18 P) (.node (o36 P) .nil .nil) (.node (o57 P) .nil .nil)) (.node (o26 P) (.node (o45 P) .nil .nil) (.node (o65 P) .nil .nil))) (.node (o14 P) (.node (o22 P) (.node (o40 P) .nil .nil) (.node (o61 P) .nil .nil)) (.node (o30 P) (.node (o50 P) .nil .nil) .nil)))))
noncomputable def s3 (w : World) (os : OsState) : SharedT := ⟨t3 w.params, 62, (Life.mk [] [] [] 0 [] [] @Bool.false #[] [] 0 @Bool.false @Bool.false @Bool.false (0 : Int) [(2000 : Int), (10 : Int), (10 : Int)] @Bool.false 0 @Bool.true [] [] 0 @Bool.false), #[], ⟨0, 0, 0, 0⟩, 587, os⟩
noncomputable def o69 (P : Params) : Obj := (Obj.mk (Value.type "dict") (Option.none) (Data.dict #[(DictEntry.mk (PyData.keyHash P (Str.ofString "__name__")) (Value.str (Str.ofString "__name__") 165) (Value.str (Str.ofString "cssselect.parser") 289)), (DictEntry.mk (PyData.keyHash P (Str.ofString "__doc__")) (Value.str (Str.ofString "__doc__") 166) @PySem.Value.none), (DictEntry.mk (PyData.keyHash P (Str.ofString "__package__")) (Value.str (Str.ofString "__package__") 167) @PySem.Value.none), (DictEntry.mk (PyData.keyHash P (Str.ofString "__loader__")) (Value.str (Str.ofString "__loader__") 168) (Value.builtin "__main__.__loader__#opaque")), (DictEntry.mk (PyData.keyHash P (Str.ofString "__spec__")) (Value.str (Str.ofString "__spec__") 169) @PySem.Value.none), (DictEntry.mk (PyData.keyHash P (Str.ofString "__annotations__")) (Value.str (Str.ofString "__annotations__") 170) (Value.ref 6)), (DictEntry.mk (PyData.keyHash P (Str.ofString "__builtins__")) (Value.str (Str.ofString "__builtins__") 171) (Value.ref 4)), (DictEntry.mk (PyData.keyHash P (Str.ofString "__file__")) (Value.str (Str.ofString "__file__") 173) (Value.str (Str.ofString "/claim/cut.py") 172)), (DictEntry.mk (PyData.keyHash P (Str.ofString "__cached__")) (Value.str (Str.ofString "__cached__") 174) @PySem.Value.none), (DictEntry.mk (PyData.keyHash P (Str.ofString "_sre")) (Value.str (Str.ofString "_sre") 275) (Value.ref 12)), (DictEntry.mk (PyData.keyHash P (Str.ofString "_wall")) (Value.str (Str.ofString "_wall") 288) (Value.ref 38)), (DictEntry.mk (PyData.keyHash P (Str.ofString "_twin_re_7")) (Value.str (Str.ofString "_twin_re_7") 428) (Value.ref 43)), (DictEntry.mk (PyData.keyHash P (Str.ofString "_twin_re_8")) (Value.str (Str.ofString "_twin_re_8") 566) (Value.ref 48)), (DictEntry.mk (PyData.keyHash P (Str.ofString "SelectorError")) (Value.str (Str.ofString "SelectorError") 586) (Value.ref 58)), (DictEntry.mk (PyData.keyHash P (Str.ofString "SelectorSyntaxError")) (Value.str (Str.ofString "SelectorSyntaxError") 602) (Value.ref 71))] 15) #[])
noncomputable def o70 (P : Params) : Obj := (Obj.mk @PySem.Value.none (Option.none) (Data.fields #[(Value.int (2 : Int) 0), (Value.int (0 : Int) 0), (Value.ref 37), (Value.int (8 : Int) 0), (Value.int (0 : Int) 0), (Value.ref 54), (Value.int (10 : Int) 0), (Value.int (0 : Int) 0), (Value.ref 67)]) #[])
noncomputable def o71 (P : Params) : Obj := (Obj.mk (Value.type "type") (Option.none) (Data.cls (ClassData.mk (Str.ofString "SelectorError") [(Value.type "Exception")] [(Value.ref 58), (Value.type "Exception"), (Value.type "BaseException"), (Value.type "object")] 57 (Str.ofString "SelectorError") @Bool.true [] [(Value.ref 71)] @Bool.false (Option.none) @Bool.false)) #[(Option.some (Value.ref 49)), (Option.none), (Option.some (Value.str (Str.ofString "SelectorError") 567)), (Option.some (Value.str (Str.ofString "SelectorError") 575)), (Option.some (Value.builtin "Exception.__new__")), (Option.some (Value.bool @Bool.true))])
noncomputable def o72 (P : Params) : Obj := (Obj.mk (Value.type "tuple") (Option.none) (Data.seq #[(Value.ref 58)] 0) #[])
noncomputable def o73 (P : Params) : Obj := (Obj.mk (Value.type "builtin_function_or_method") (Option.none) (Data.fields #[(Value.builtin "type.__prepare__"), (Value.type "type")]) #[])
noncomputable def o74 (P : Params) : Obj := (Obj.mk (Value.type "dict") (Option.none) (Data.dict #[(DictEntry.mk (PyData.keyHash P (Str.ofString "__module__")) (Value.str (Str.ofString "__module__") 594) (Value.str (Str.ofString "cssselect.parser") 289)), (DictEntry.mk (PyData.keyHash P (Str.ofString "__qualname__")) (Value.str (Str.ofString "__qualname__") 596) (Value.str (Str.ofString "SelectorSyntaxError") 595)), (DictEntry.mk (PyData.keyHash P (Str.ofString "__firstlineno__")) (Value.str (Str.ofString "__firstlineno__") 598) (Value.int (10 : Int) 597)), (DictEntry.mk (PyData.keyHash P (Str.ofString "__static_attributes__")) (Value.str (Str.ofString "__static_attributes__") 599) (Value.ref 69))] 4) #[])
noncomputable def o75 (P : Params) : Obj := (Obj.mk (Value.type "tuple") (Option.none) (Data.seq #[] 0) #[])
noncomputable def o76 (P : Params) : Obj := (Obj.mk @PySem.Value.none (Option.none) (Data.fields #[]) #[])
noncomputable def o77 (P : Params) : Obj := (Obj.mk (Value.type "code") (Option.none) (Data.fields #[(Value.str (Str.ofString "SelectorSyntaxError") 589), (Value.str (Str.ofString "SelectorSyntaxError") 590), (Value.str (Str.ofString "/claim/cut.py") 591), (Value.int (10 : Int) 0), (Value.int (0 : Int) 0), (Value.int (0 : Int) 0), (Value.int (0 : Int) 0), (Value.int (0 : Int) 0), (Value.ref 65), (Value.bool @Bool.false), (Value.int (276 : Int) 0), (Value.ref 66), @PySem.Value.none, @PySem.Value.none, @PySem.Value.none, @PySem.Value.none, (Value.int (592 : Int) 0), (Value.int (10 : Int) 0), (Value.str (Str.ofString "/claim/cut.py") 593)]) #[])
noncomputable def o78 (P : Params) : Obj := (Obj.mk (Value.type "frame") (Option.none) @PySem.Data.plain #[(Option.some (Value.ref 67)), (Option.some (Value.ref 3)), (Option.some (Value.ref 64)), (Option.none), (Option.some (Value.str (Str.ofString "cssselect.parser") 289)), (Option.none), (Option.some (Value.ref 0))])
noncomputable def o79 (P : Params) : Obj := (Obj.mk (Value.type "tuple") (Option.none) (Data.seq #[] 0) #[])
noncomputable def o80 (P : Params) : Obj := (Obj.mk (Value.type "dict") (Option.none) (Data.dict #[(DictEntry.mk (PyData.keyHash P (Str.ofString "__module__")) (Value.str (Str.ofString "__module__") 594) (Value.str (Str.ofString "cssselect.parser") 289)), (DictEntry.mk (PyData.keyHash P (Str.ofString "__firstlineno__")) (Value.str (Str.ofString "__firstlineno__") 598) (Value.int (10 : Int) 597)), (DictEntry.mk (PyData.keyHash P (Str.ofString "__static_attributes__")) (Value.str (Str.ofString "__static_attributes__") 599) (Value.ref 69)), (DictEntry.mk (PyData.keyHash P (Str.ofString "__doc__")) (Value.str (Str.ofString "__doc__") 600) @PySem.Value.none)] 2) #[])
noncomputable def o81 (P : Params) : Obj := (Obj.mk (Value.type "type") (Option.none) (Data.cls (ClassData.mk (Str.ofString "SelectorSyntaxError") [(Value.ref 58)] [(Value.ref 71), (Value.ref 58), (Value.type "Exception"), (Value.type "BaseException"), (Value.type "object")] 70 (Str.ofString "SelectorSyntaxError") @Bool.true [] [] @Bool.false (Option.none) @Bool.false)) #[(Option.some (Value.ref 62)), (Option.none), (Option.some (Value.str (Str.ofString "SelectorSyntaxError") 587)), (Option.some (Value.str (Str.ofString "SelectorSyntaxError") 595)), (Option.some (Value.builtin "Exception.__new__")), (Option.some (Value.bool @Bool.true))])
noncomputable def o82 (P : Params) : Obj := (Obj.mk (Value.type "super") (Option.none) (Data.fields #[(Value.ref 71), (Value.ref 71), (Value.ref 71)]) #[])
noncomputable def o83 (P : Params) : Obj := (Obj.mk (Value.type "builtin_function_or_method") (Option.none) (Data.fields #[(Value.builtin "object.__init_subclass__"), (Value.ref 71)]) #[])
noncomputable def t4 (P : Params) : BT := (.node (o0 P) (.node (o1 P) (.node (o69 P) (.node (o7 P) (.node (o15 P) (.node (o31 P) (.node (o73 P) .nil .nil) .nil) (.node (o51 P) .nil .nil)) (.node (o23 P) (.node (o42 P) (.node (o81 P) .nil .nil) .nil) (.node (o62 P) .nil .nil))) (.node (o11 P) (.node (o19 P) (.node (o37 P) (.node (o77 P) .nil .nil) .nil) (.node (o58 P) .nil .nil)) (.node (o27 P) (.node (o46 P) .nil .nil) (.node (o66 P) .nil .nil)))) (.node (o5 P) (.node (o9 P) (.node (o17 P) (.node (o35 P) (.node (o75 P) .nil .nil) .nil) (.node (o56 P) .nil .nil)) (.node (o25 P) (.node (o44 P) (.node (o83 P) .nil .nil) .nil) (.node (o64 P) .nil .nil))) (.node (o13 P) (.node (o21 P) (.node (o39 P) (.node (o79 P) .nil .nil) .nil) (.node (o60 P) .nil .nil)) (.node (o70 P) (.node (o49 P) .nil .nil) (.node (o68 P) .nil .nil))))) (.node (o53 P) (.node (o4 P) (.node (o8 P) (.node (o16 P) (.node (o34 P) (.node (o74 P) .nil .nil) .nil) (.node (o52 P) .nil .nil)) (.node (o24 P) (.node (o43 P) (.node (o82 P) .nil .nil) .nil) (.node (o63 P) .nil .nil))) (.node (o12 P) (.node (o20 P) (.node (o38 P) (.node (o78 P) .nil .nil) .nil) (.node (o59 P) .nil .nil)) (.node (o28 P) (.node (o48 P) .nil .nil) (.node (o67 P) .nil .nil)))) (.node (o6 P) (.node (o10 P) (.node (o18 P) (.node (o36 P) (.node (o76 P) .nil .nil) .nil) (.node (o57 P) .nil .nil)) (.node (o26 P) (.node (o45 P) .nil .nil) (.node (o71 P) .nil .nil))) (.node (o14 P) (.node (o22 P) (.node (o40 P) (.node (o80 P) .nil .nil) .nil) (.node (o61 P) .nil .nil)) (.node (o30 P) (.node (o50 P) .nil .nil) (.node (o72 P) .nil .nil))))))
noncomputable def s4 (w : World) (os : OsState) : SharedT := ⟨t4 w.params, 74, (Life.mk [] [] [] 0 [] [] @Bool.false #[] [] 0 @Bool.false @Bool.false @Bool.false (0 : Int) [(2000 : Int), (10 : Int), (10 : Int)] @Bool.false 0 @Bool.true [] [] 0 @Bool.false), #[], ⟨0, 0, 0, 0⟩, 603, os⟩
noncomputable def o84 (P : Params) : Obj := (Obj.mk (Value.type "dict") (Option.none) (Data.dict #[(DictEntry.mk (PyData.keyHash P (Str.ofString "__name__")) (Value.str (Str.ofString "__name__") 165) (Value.str (Str.ofString "cssselect.parser") 289)), (DictEntry.mk (PyData.keyHash P (Str.ofString "__doc__")) (Value.str (Str.ofString "__doc__") 166) @PySem.Value.none), (DictEntry.mk (PyData.keyHash P (Str.ofString "__package__")) (Value.str (Str.ofString "__package__") 167) @PySem.Value.none), (DictEntry.mk (PyData.keyHash P (Str.ofString "__loader__")) (Value.str (Str.ofString "__loader__") 168) (Value.builtin "__main__.__loader__#opaque")), (DictEntry.mk (PyData.keyHash P (Str.ofString "__spec__")) (Value.str (Str.ofString "__spec__") 169) @PySem.Value.none), (DictEntry.mk (PyData.keyHash P (Str.ofString "__annotations__")) (Value.str (Str.ofString "__annotations__") 170) (Value.ref 6)), (DictEntry.mk (PyData.keyHash P (Str.ofString "__builtins__")) (Value.str (Str.ofString "__builtins__") 171) (Value.ref 4)), (DictEntry.mk (PyData.keyHash P (Str.ofString "__file__")) (Value.str (Str.ofString "__file__") 173) (Value.str (Str.ofString "/claim/cut.py") 172)), (DictEntry.mk (PyData.keyHash P (Str.ofString "__cached__")) (Value.str (Str.ofString "__cached__") 174) @PySem.Value.none), (DictEntry.mk (PyData.keyHash P (Str.ofString "_sre")) (Value.str (Str.ofString "_sre") 275) (Value.ref 12)), (DictEntry.mk (PyData.keyHash P (Str.ofString "_wall")) (Value.str (Str.ofString "_wall") 288) (Value.ref 38)), (DictEntry.mk (PyData.keyHash P (Str.ofString "_twin_re_7")) (Value.str (Str.ofString "_twin_re_7") 428) (Value.ref 43)), (DictEntry.mk (PyData.keyHash P (Str.ofString "_twin_re_8")) (Value.str (Str.ofString "_twin_re_8") 566) (Value.ref 48)), (DictEntry.mk (PyData.keyHash P (Str.ofString "SelectorError")) (Value.str (Str.ofString "SelectorError") 586) (Value.ref 58)), (DictEntry.mk (PyData.keyHash P (Str.ofString "SelectorSyntaxError")) (Value.str (Str.ofString "SelectorSyntaxError") 602) (Value.ref 71)), (DictEntry.mk (PyData.keyHash P (Str.ofString "Token")) (Value.str (Str.ofString "Token") 670) (Value.ref 127))] 16) #[])
noncomputable def o85 (P : Params) : Obj := (Obj.mk @PySem.Value.none (Option.none) (Data.fields #[(Value.int (2 : Int) 0), (Value.int (0 : Int) 0), (Value.ref 37), (Value.int (8 : Int) 0), (Value.int (0 : Int) 0), (Value.ref 54), (Value.int (10 : Int) 0), (Value.int (0 : Int) 0), (Value.ref 67), (Value.int (12 : Int) 0), (Value.int (0 : Int) 0), (Value.ref 79)]) #[])
noncomputable def o86 (P : Params) : Obj := (Obj.mk (Value.type "tuple") (Option.none) (Data.seq #[(Value.type "tuple")] 0) #[])
noncomputable def o87 (P : Params) : Obj := (Obj.mk (Value.type "builtin_function_or_method") (Option.none) (Data.fields #[(Value.builtin "type.__prepare__"), (Value.type "type")]) #[])
noncomputable def o88 (P : Params) : Obj := (Obj.mk (Value.type "dict") (Option.none) (Data.dict #[(DictEntry.mk (PyData.keyHash P (Str.ofString "__module__")) (Value.str (Str.ofString "__module__") 610) (Value.str (Str.ofString "cssselect.parser") 289)), (DictEntry.mk (PyData.keyHash P (Str.ofString "__qualname__")) (Value.str (Str.ofString "__qualname__") 612) (Value.str (Str.ofString "Token") 611)), (DictEntry.mk (PyData.keyHash P (Str.ofString "__firstlineno__")) (Value.str (Str.ofString "__firstlineno__") 614) (Value.int (12 : Int) 613)), (DictEntry.mk (PyData.keyHash P (Str.ofString "__new__")) (Value.str (Str.ofString "__new__") 625) (Value.ref 87)), (DictEntry.mk (PyData.keyHash P (Str.ofString "__repr__")) (Value.str (Str.ofString "__repr__") 632) (Value.ref 94)), (DictEntry.mk (PyData.keyHash P (Str.ofString "is_delim")) (Value.str (Str.ofString "is_delim") 640) (Value.ref 101)), (DictEntry.mk (PyData.keyHash P (Str.ofString "type")) (Value.str (Str.ofString "type") 648) (Value.ref 109)), (DictEntry.mk (PyData.keyHash P (Str.ofString "value")) (Value.str (Str.ofString "value") 656) (Value.ref 117)), (DictEntry.mk (PyData.keyHash P (Str.ofString "css")) (Value.str (Str.ofString "css") 663) (Value.ref 124)), (DictEntry.mk (PyData.keyHash P (Str.ofString "__static_attributes__")) (Value.str (Str.ofString "__static_attributes__") 664) (Value.ref 125))] 10) #[])
noncomputable def o89 (P : Params) : Obj := (Obj.mk (Value.type "tuple") (Option.none) (Data.seq #[] 0) #[])
noncomputable def o90 (P : Params) : Obj := (Obj.mk @PySem.Value.none (Option.none) (Data.fields #[(Value.int (14 : Int) 0), (Value.int (4 : Int) 0), (Value.ref 86), (Value.int (19 : Int) 0), (Value.int (4 : Int) 0), (Value.ref 93), (Value.int (22 : Int) 0), (Value.int (4 : Int) 0), (Value.ref 100), (Value.int (26 : Int) 0), (Value.int (4 : Int) 0), (Value.ref 107), (Value.int (30 : Int) 0), (Value.int (4 : Int) 0), (Value.ref 115), (Value.int (33 : Int) 0), (Value.int (4 : Int) 0), (Value.ref 123)]) #[])
noncomputable def o91 (P : Params) : Obj := (Obj.mk (Value.type "code") (Option.none) (Data.fields #[(Value.str (Str.ofString "Token") 605), (Value.str (Str.ofString "Token") 606), (Value.str (Str.ofString "/claim/cut.py") 607), (Value.int (12 : Int) 0), (Value.int (0 : Int) 0), (Value.int (0 : Int) 0), (Value.int (0 : Int) 0), (Value.int (0 : Int) 0), (Value.ref 77), (Value.bool @Bool.false), (Value.int (276 : Int) 0), (Value.ref 78), @PySem.Value.none, @PySem.Value.none, @PySem.Value.none, @PySem.Value.none, (Value.int (608 : Int) 0), (Value.int (12 : Int) 0), (Value.str (Str.ofString "/claim/cut.py") 609)]) #[])
noncomputable def o92 (P : Params) : Obj := (Obj.mk (Value.type "frame") (Option.none) @PySem.Data.plain #[(Option.some (Value.ref 79)), (Option.some (Value.ref 3)), (Option.some (Value.ref 76)), (Option.none), (Option.some (Value.str (Str.ofString "cssselect.parser") 289)), (Option.none), (Option.some (Value.ref 0))])
noncomputable def o93 (P : Params) : Obj := (Obj.mk (Value.type "tuple") (Option.none) (Data.seq #[] 0) #[])
noncomputable def o94 (P : Params) : Obj := (Obj.mk @PySem.Value.none (Option.none) (Data.fields #[]) #[])
noncomputable def o95 (P : Params) : Obj := (Obj.mk (Value.type "tuple") (Option.none) (Data.seq #[(Value.str (Str.ofString "cls") 618), (Value.str (Str.ofString "type_") 619), (Value.str (Str.ofString "value") 620), (Value.str (Str.ofString "pos") 621), (Value.str (Str.ofString "obj") 622)] 0) #[])
noncomputable def o96 (P : Params) : Obj := (Obj.mk (Value.type "tuple") (Option.none) (Data.seq #[] 0) #[])
noncomputable def o97 (P : Params) : Obj := (Obj.mk @PySem.Value.none (Option.none) (Data.func (FuncData.mk (Str.ofString "__new__") (Str.ofString "Token.__new__") (fArgs (mt 7 0)) (FuncBody.stmts (fBody (mt 7 0))) (fScope (mt 7 0)) 0 [] @PySem.Value.none @PySem.Value.none @PySem.Value.none @PySem.Value.none (Option.none) @PySem.Value.none @PySem.Value.none 0)) #[])
noncomputable def o98 (P : Params) : Obj := (Obj.mk (Value.type "code") (Option.none) (Data.fields #[(Value.str (Str.ofString "__new__") 615), (Value.str (Str.ofString "Token.__new__") 616), (Value.str (Str.ofString "/claim/cut.py") 617), (Value.int (14 : Int) 0), (Value.int (4 : Int) 0), (Value.int (0 : Int) 0), (Value.int (0 : Int) 0), (Value.int (3 : Int) 0), (Value.ref 81), (Value.bool @Bool.true), (Value.int (276 : Int) 0), (Value.ref 82), @PySem.Value.none, (Value.ref 83), (Value.ref 84), (Value.ref 85), (Value.int (623 : Int) 0), (Value.int (14 : Int) 0), (Value.str (Str.ofString "/claim/cut.py") 624)]) #[])
noncomputable def o99 (P : Params) : Obj := (Obj.mk (Value.type "function") (Option.none) (Data.func (FuncData.mk (Str.ofString "__new__") (Str.ofString "Token.__new__") (fArgs (mt 7 0)) (FuncBody.stmts (fBody (mt 7 0))) (fScope (mt 7 0)) 3 [] @PySem.Value.none @PySem.Value.none @PySem.Value.none (Value.str (Str.ofString "cssselect.parser") 289) (Option.none) (Value.ref 86) @PySem.Value.none 0)) #[])
noncomputable def o100 (P : Params) : Obj := (Obj.mk (Value.type "tuple") (Option.none) (Data.seq #[] 0) #[])
noncomputable def o101 (P : Params) : Obj := (Obj.mk @PySem.Value.none (Option.none) (Data.fields #[]) #[])
noncomputable def o102 (P : Params) : Obj := (Obj.mk (Value.type "tuple") (Option.none) (Data.seq #[(Value.str (Str.ofString "self") 629)] 0) #[])
noncomputable def o103 (P : Params) : Obj := (Obj.mk (Value.type "tuple") (Option.none) (Data.seq #[] 0) #[])
noncomputable def o104 (P : Params) : Obj := (Obj.mk @PySem.Value.none (Option.none) (Data.func (FuncData.mk (Str.ofString "__repr__") (Str.ofString "Token.__repr__") (fArgs (mt 7 1)) (FuncBody.stmts (fBody (mt 7 1))) (fScope (mt 8 1)) 0 [] @PySem.Value.none @PySem.Value.none @PySem.Value.none @PySem.Value.none (Option.none) @PySem.Value.none @PySem.Value.none 0)) #[])
noncomputable def o105 (P : Params) : Obj := (Obj.mk (Value.type "code") (Option.none) (Data.fields #[(Value.str (Str.ofString "__repr__") 626), (Value.str (Str.ofString "Token.__repr__") 627), (Value.str (Str.ofString "/claim/cut.py") 628), (Value.int (19 : Int) 0), (Value.int (1 : Int) 0), (Value.int (0 : Int) 0), (Value.int (0 : Int) 0), (Value.int (3 : Int) 0), (Value.ref 88), (Value.bool @Bool.true), (Value.int (276 : Int) 0), (Value.ref 89), @PySem.Value.none, (Value.ref 90), (Value.ref 91), (Value.ref 92), (Value.int (630 : Int) 0), (Value.int (19 : Int) 0), (Value.str (Str.ofString "/claim/cut.py") 631)]) #[])
noncomputable def o106 (P : Params) : Obj := (Obj.mk (Value.type "function") (Option.none) (Data.func (FuncData.mk (Str.ofString "__repr__") (Str.ofString "Token.__repr__") (fArgs (mt 7 1)) (FuncBody.stmts (fBody (mt 7 1))) (fScope (mt 8 1)) 3 [] @PySem.Value.none @PySem.Value.none @PySem.Value.none (Value.str (Str.ofString "cssselect.parser") 289) (Option.none) (Value.ref 93) @PySem.Value.none 0)) #[])
noncomputable def o107 (P : Params) : Obj := (Obj.mk (Value.type "tuple") (Option.none) (Data.seq #[] 0) #[])
noncomputable def o108 (P : Params) : Obj := (Obj.mk @PySem.Value.none (Option.none) (Data.fields #[]) #[])
noncomputable def o109 (P : Params) : Obj := (Obj.mk (Value.type "tuple") (Option.none) (Data.seq #[(Value.str (Str.ofString "self") 636), (Value.str (Str.ofString "values") 637)] 0) #[])
noncomputable def o110 (P : Params) : Obj := (Obj.mk (Value.type "tuple") (Option.none) (Data.seq #[] 0) #[])
noncomputable def o111 (P : Params) : Obj := (Obj.mk @PySem.Value.none (Option.none) (Data.func (FuncData.mk (Str.ofString "is_delim") (Str.ofString "Token.is_delim") (fArgs (mt 7 2)) (FuncBody.stmts (fBody (mt 7 2))) (fScope (mt 7 2)) 0 [] @PySem.Value.none @PySem.Value.none @PySem.Value.none @PySem.Value.none (Option.none) @PySem.Value.none @PySem.Value.none 0)) #[])
noncomputable def o112 (P : Params) : Obj := (Obj.mk (Value.type "code") (Option.none) (Data.fields #[(Value.str (Str.ofString "is_delim") 633), (Value.str (Str.ofString "Token.is_delim") 634), (Value.str (Str.ofString "/claim/cut.py") 635), (Value.int (22 : Int) 0), (Value.int (1 : Int) 0), (Value.int (0 : Int) 0), (Value.int (0 : Int) 0), (Value.int (7 : Int) 0), (Value.ref 95), (Value.bool @Bool.true), (Value.int (276 : Int) 0), (Value.ref 96), @PySem.Value.none, (Value.ref 97), (Value.ref 98), (Value.ref 99), (Value.int (638 : Int) 0), (Value.int (22 : Int) 0), (Value.str (Str.ofString "/claim/cut.py") 639)]) #[])
noncomputable def o113 (P : Params) : Obj := (Obj.mk (Value.type "function") (Option.none) (Data.func (FuncData.mk (Str.ofString "is_delim") (Str.ofString "Token.is_delim") (fArgs (mt 7 2)) (FuncBody.stmts (fBody (mt 7 2))) (fScope (mt 7 2)) 3 [] @PySem.Value.none @PySem.Value.none @PySem.Value.none (Value.str (Str.ofString "cssselect.parser") 289) (Option.none) (Value.ref 100) @PySem.Value.none 0)) #[])
noncomputable def o114 (P : Params) : Obj := (Obj.mk (Value.type "tuple") (Option.none) (Data.seq #[] 0) #[])
noncomputable def o115 (P : Params) : Obj := (Obj.mk @PySem.Value.none (Option.none) (Data.fields #[]) #[])
noncomputable def o116 (P : Params) : Obj := (Obj.mk (Value.type "tuple") (Option.none) (Data.seq #[(Value.str (Str.ofString "self") 644)] 0) #[])
noncomputable def o117 (P : Params) : Obj := (Obj.mk (Value.type "tuple") (Option.none) (Data.seq #[] 0) #[])
noncomputable def o118 (P : Params) : Obj := (Obj.mk @PySem.Value.none (Option.none) (Data.func (FuncData.mk (Str.ofString "type") (Str.ofString "Token.type") (fArgs (mt 7 3)) (FuncBody.stmts (fBody (mt 7 3))) (fScope (mt 8 1)) 0 [] @PySem.Value.none @PySem.Value.none @PySem.Value.none @PySem.Value.none (Option.none) @PySem.Value.none @PySem.Value.none 0)) #[])
noncomputable def o119 (P : Params) : Obj := (Obj.mk (Value.type "code") (Option.none) (Data.fields #[(Value.str (Str.ofString "type") 641), (Value.str (Str.ofString "Token.type") 642), (Value.str (Str.ofString "/claim/cut.py") 643), (Value.int (25 : Int) 0), (Value.int (1 : Int) 0), (Value.int (0 : Int) 0), (Value.int (0 : Int) 0), (Value.int (3 : Int) 0), (Value.ref 102), (Value.bool @Bool.true), (Value.int (276 : Int) 0), (Value.ref 103), @PySem.Value.none, (Value.ref 104), (Value.ref 105), (Value.ref 106), (Value.int (645 : Int) 0), (Value.int (25 : Int) 0), (Value.str (Str.ofString "/claim/cut.py") 646)]) #[])
noncomputable def o120 (P : Params) : Obj := (Obj.mk (Value.type "function") (Option.none) (Data.func (FuncData.mk (Str.ofString "type") (Str.ofString "Token.type") (fArgs (mt 7 3)) (FuncBody.stmts (fBody (mt 7 3))) (fScope (mt 8 1)) 3 [] @PySem.Value.none @PySem.Value.none @PySem.Value.none (Value.str (Str.ofString "cssselect.parser") 289) (Option.none) (Value.ref 107) @PySem.Value.none 0)) #[])
noncomputable def o121 (P : Params) : Obj := (Obj.mk (Value.type "property") (Option.none) (Data.fields #[(Value.ref 108), @PySem.Value.none, @PySem.Value.none, @PySem.Value.none, (Value.str (Str.ofString "type") 648), (Value.bool @Bool.false)]) #[])
noncomputable def o122 (P : Params) : Obj := (Obj.mk (Value.type "tuple") (Option.none) (Data.seq #[] 0) #[])
noncomputable def o123 (P : Params) : Obj := (Obj.mk @PySem.Value.none (Option.none) (Data.fields #[]) #[])
noncomputable def o124 (P : Params) : Obj := (Obj.mk (Value.type "tuple") (Option.none) (Data.seq #[(Value.str (Str.ofString "self") 652)] 0) #[])
noncomputable def o125 (P : Params) : Obj := (Obj.mk (Value.type "tuple") (Option.none) (Data.seq #[] 0) #[])
noncomputable def o126 (P : Params) : Obj := (Obj.mk @PySem.Value.none (Option.none) (Data.func (FuncData.mk (Str.ofString "value") (Str.ofString "Token.value") (fArgs (mt 7 4)) (FuncBody.stmts (fBody (mt 7 4))) (fScope (mt 8 1)) 0 [] @PySem.Value.none @PySem.Value.none @PySem.Value.none @PySem.Value.none (Option.none) @PySem.Value.none @PySem.Value.none 0)) #[])
noncomputable def o127 (P : Params) : Obj := (Obj.mk (Value.type "code") (Option.none) (Data.fields #[(Value.str (Str.ofString "value") 649), (Value.str (Str.ofString "Token.value") 650), (Value.str (Str.ofString "/claim/cut.py") 651), (Value.int (29 : Int) 0), (Value.int (1 : Int) 0), (Value.int (0 : Int) 0), (Value.int (0 : Int) 0), (Value.int (3 : Int) 0), (Value.ref 110), (Value.bool @Bool.true), (Value.int (276 : Int) 0), (Value.ref 111), @PySem.Value.none, (Value.ref 112), (Value.ref 113), (Value.ref 114), (Value.int (653 : Int) 0), (Value.int (29 : Int) 0), (Value.str (Str.ofString "/claim/cut.py") 654)]) #[])
noncomputable def o128 (P : Params) : Obj := (Obj.mk (Value.type "function") (Option.none) (Data.func (FuncData.mk (Str.ofString "value") (Str.ofString "Token.value") (fArgs (mt 7 4)) (FuncBody.stmts (fBody (mt 7 4))) (fScope (mt 8 1)) 3 [] @PySem.Value.none @PySem.Value.none @PySem.Value.none (Value.str (Str.ofString "cssselect.parser") 289) (Option.none) (Value.ref 115) @PySem.Value.none 0)) #[])
noncomputable def o129 (P : Params) : Obj := (Obj.mk (Value.type "property") (Option.none) (Data.fields #[(Value.ref 116), @PySem.Value.none, @PySem.Value.none, @PySem.Value.none, (Value.str (Str.ofString "value") 656), (Value.bool @Bool.false)]) #[])
noncomputable def o130 (P : Params) : Obj := (Obj.mk (Value.type "tuple") (Option.none) (Data.seq #[] 0) #[])
noncomputable def o131 (P : Params) : Obj := (Obj.mk @PySem.Value.none (Option.none) (Data.fields #[]) #[])
noncomputable def o132 (P : Params) : Obj := (Obj.mk (Value.type "tuple") (Option.none) (Data.seq #[(Value.str (Str.ofString "self") 660)] 0) #[])
noncomputable def o133 (P : Params) : Obj := (Obj.mk (Value.type "tuple") (Option.none) (Data.seq #[] 0) #[])
noncomputable def o134 (P : Params) : Obj := (Obj.mk @PySem.Value.none (Option.none) (Data.func (FuncData.mk (Str.ofString "css") (Str.ofString "Token.css") (fArgs (mt 7 5)) (FuncBody.stmts (fBody (mt 7 5))) (fScope (mt 7 5)) 0 [] @PySem.Value.none @PySem.Value.none @PySem.Value.none @PySem.Value.none (Option.none) @PySem.Value.none @PySem.Value.none 0)) #[])
noncomputable def o135 (P : Params) : Obj := (Obj.mk (Value.type "code") (Option.none) (Data.fields #[(Value.str (Str.ofString "css") 657), (Value.str (Str.ofString "Token.css") 658), (Value.str (Str.ofString "/claim/cut.py") 659), (Value.int (33 : Int) 0), (Value.int (1 : Int) 0), (Value.int (0 : Int) 0), (Value.int (0 : Int) 0), (Value.int (3 : Int) 0), (Value.ref 118), (Value.bool @Bool.true), (Value.int (276 : Int) 0), (Value.ref 119), @PySem.Value.none, (Value.ref 120), (Value.ref 121), (Value.ref 122), (Value.int (661 : Int) 0), (Value.int (33 : Int) 0), (Value.str (Str.ofString "/claim/cut.py") 662)]) #[])
noncomputable def o136 (P : Params) : Obj := (Obj.mk (Value.type "function") (Option.none) (Data.func (FuncData.mk (Str.ofString "css") (Str.ofString "Token.css") (fArgs (mt 7 5)) (FuncBody.stmts (fBody (mt 7 5))) (fScope (mt 7 5)) 3 [] @PySem.Value.none @PySem.Value.none @PySem.Value.none (Value.str (Str.ofString "cssselect.parser") 289) (Option.none) (Value.ref 123) @PySem.Value.none 0)) #[])
noncomputable def o137 (P : Params) : Obj := (Obj.mk (Value.type "tuple") (Option.none) (Data.seq #[] 0) #[])
noncomputable def o138 (P : Params) : Obj := (Obj.mk (Value.type "dict") (Option.none) (Data.dict #[(DictEntry.mk (PyData.keyHash P (Str.ofString "__module__")) (Value.str (Str.ofString "__module__") 610) (Value.str (Str.ofString "cssselect.parser") 289)), (DictEntry.mk (PyData.keyHash P (Str.ofString "__firstlineno__")) (Value.str (Str.ofString "__firstlineno__") 614) (Value.int (12 : Int) 613)), (DictEntry.mk (PyData.keyHash P (Str.ofString "__new__")) (Value.str (Str.ofString "__new__") 625) (Value.ref 128)), (DictEntry.mk (PyData.keyHash P (Str.ofString "__repr__")) (Value.str (Str.ofString "__repr__") 632) (Value.ref 94)), (DictEntry.mk (PyData.keyHash P (Str.ofString "is_delim")) (Value.str (Str.ofString "is_delim") 640) (Value.ref 101)), (DictEntry.mk (PyData.keyHash P (Str.ofString "type")) (Value.str (Str.ofString "type") 648) (Value.ref 109)), (DictEntry.mk (PyData.keyHash P (Str.ofString "value")) (Value.str (Str.ofString "value") 656) (Value.ref 117)), (DictEntry.mk (PyData.keyHash P (Str.ofString "css")) (Value.str (Str.ofString "css") 663) (Value.ref 124)), (DictEntry.mk (PyData.keyHash P (Str.ofString "__static_attributes__")) (Value.str (Str.ofString "__static_attributes__") 664) (Value.ref 125)), (DictEntry.mk (PyData.keyHash P (Str.ofString "__dict__")) (Value.str (Str.ofString "__dict__") 667) (Value.ref 129)), (DictEntry.mk (PyData.keyHash P (Str.ofString "__doc__")) (Value.str (Str.ofString "__doc__") 668) @PySem.Value.none)] 3) #[])
noncomputable def o139 (P : Params) : Obj := (Obj.mk (Value.type "type") (Option.none) (Data.cls (ClassData.mk (Str.ofString "Token") [(Value.type "tuple")] [(Value.ref 127), (Value.type "tuple"), (Value.type "object")] 126 (Str.ofString "Token") @Bool.true [] [] @Bool.false (Option.none) @Bool.false)) #[(Option.some (Value.ref 74)), (Option.none), (Option.some (Value.str (Str.ofString "Token") 603)), (Option.some (Value.str (Str.ofString "Token") 611)), (Option.some @PySem.Value.none), (Option.some (Value.bool @Bool.false))])
noncomputable def o140 (P : Params) : Obj := (Obj.mk (Value.type "staticmethod") (Option.none) (Data.fields #[(Value.ref 87)]) #[])
noncomputable def o141 (P : Params) : Obj := (Obj.mk (Value.type "getset_descriptor") (Option.none) (Data.fields #[(Value.str (Str.ofString "__dict__") 666), (Value.ref 127), (Value.builtin "function.__dict__"), (Value.builtin "function.__dict__#set")]) #[])
noncomputable def o142 (P : Params) : Obj := (Obj.mk (Value.type "super") (Option.none) (Data.fields #[(Value.ref 127), (Value.ref 127), (Value.ref 127)]) #[])
noncomputable def o143 (P : Params) : Obj := (Obj.mk (Value.type "builtin_function_or_method") (Option.none) (Data.fields #[(Value.builtin "object.__init_subclass__"), (Value.ref 127)]) #[])
noncomputable def t5 (P : Params) : BT := (.node (o0 P) (.node (o1 P) (.node (o84 P) (.node (o7 P) (.node (o15 P) (.node (o31 P) (.node (o73 P) (.node (o139 P) .nil .nil) .nil) (.node (o107 P) .nil .nil)) (.node (o51 P) (.node (o91 P) .nil .nil) (.node (o123 P) .nil .nil))) (.node (o23 P) (.node (o42 P) (.node (o81 P) .nil .nil) (.node (o115 P) .nil .nil)) (.node (o62 P) (.node (o99 P) .nil .nil) (.node (o131 P) .nil .nil)))) (.node (o11 P) (.node (o19 P) (.node (o37 P) (.node (o77 P) (.node (o143 P) .nil .nil) .nil) (.node (o111 P) .nil .nil)) (.node (o58 P) (.node (o95 P) .nil .nil) (.node (o127 P) .nil .nil))) (.node (o27 P) (.node (o46 P) (.node (o87 P) .nil .nil) (.node (o119 P) .nil .nil)) (.node (o66 P) (.node (o103 P) .nil .nil) (.node (o135 P) .nil .nil))))) (.node (o5 P) (.node (o9 P) (.node (o17 P) (.node (o35 P) (.node (o75 P) (.node (o141 P) .nil .nil) .nil) (.node (o109 P) .nil .nil)) (.node (o56 P) (.node (o93 P) .nil .nil) (.node (o125 P) .nil .nil))) (.node (o25 P) (.node (o44 P) (.node (o83 P) .nil .nil) (.node (o117 P) .nil .nil)) (.node (o64 P) (.node (o101 P) .nil .nil) (.node (o133 P) .nil .nil)))) (.node (o13 P) (.node (o21 P) (.node (o39 P) (.node (o79 P) .nil .nil) (.node (o113 P) .nil .nil)) (.node (o60 P) (.node (o97 P) .nil .nil) (.node (o129 P) .nil .nil))) (.node (o85 P) (.node (o49 P) (.node (o89 P) .nil .nil) (.node (o121 P) .nil .nil)) (.node (o68 P) (.node (o105 P) .nil .nil) (.node (o137 P) .nil .nil)))))) (.node (o53 P) (.node (o4 P) (.node (o8 P) (.node (o16 P) (.node (o34 P) (.node (o74 P) (.node (o140 P) .nil .nil) .nil) (.node (o108 P) .nil .nil)) (.node (o52 P) (.node (o92 P) .nil .nil) (.node (o124 P) .nil .nil))) (.node (o24 P) (.node (o43 P) (.node (o82 P) .nil .nil) (.node (o116 P) .nil .nil)) (.node (o63 P) (.node (o100 P) .nil .nil) (.node (o132 P) .nil .nil)))) (.node (o12 P) (.node (o20 P) (.node (o38 P) (.node (o78 P) .nil .nil) (.node (o112 P) .nil .nil)) (.node (o59 P) (.node (o96 P) .nil .nil) (.node (o128 P) .nil .nil))) (.node (o28 P) (.node (o48 P) (.node (o88 P) .nil .nil) (.node (o120 P) .nil .nil)) (.node (o67 P) (.node (o104 P) .nil .nil) (.node (o136 P) .nil .nil))))) (.node (o6 P) (.node (o10 P) (.node (o18 P) (.node (o36 P) (.node (o76 P) (.node (o142 P) .nil .nil) .nil) (.node (o110 P) .nil .nil)) (.node (o57 P) (.node (o94 P) .nil .nil) (.node (o126 P) .nil .nil))) (.node (o26 P) (.node (o45 P) (.node (o86 P) .nil .nil) (.node (o118 P) .nil .nil)) (.node (o71 P) (.node (o102 P) .nil .nil) (.node (o134 P) .nil .nil)))) (.node (o14 P) (.node (o22 P) (.node (o40 P) (.node (o80 P) .nil .nil) (.node (o114 P) .nil .nil)) (.node (o61 P) (.node (o98 P) .nil .nil) (.node (o130 P) .nil .nil))) (.node (o30 P) (.node (o50 P) (.node (o90 P) .nil .nil) (.node (o122 P) .nil .nil)) (.node (o72 P) (.node (o106 P) .nil .nil) (.node (o138 P) .nil .nil)))))))
noncomputable def s5 (w : World) (os : OsState) : SharedT := ⟨t5 w.params, 132, (Life.mk [] [] [] 0 [] [] @Bool.false #[] [] 0 @Bool.false @Bool.false @Bool.false (0 : Int) [(2000 : Int), (10 : Int), (10 : Int)] @Bool.false 0 @Bool.true [] [] 0 @Bool.false), #[], ⟨0, 0, 0, 0⟩, 671, os⟩
noncomputable def o144 (P : Params) : Obj := (Obj.mk (Value.type "dict") (Option.none) (Data.dict #[(DictEntry.mk (PyData.keyHash P (Str.ofString "__name__")) (Value.str (Str.ofString "__name__") 165) (Value.str (Str.ofString "cssselect.parser") 289)), (DictEntry.mk (PyData.keyHash P (Str.ofString "__doc__")) (Value.str (Str.ofString "__doc__") 166) @PySem.Value.none), (DictEntry.mk (PyData.keyHash P (Str.ofString "__package__")) (Value.str (Str.ofString "__package__") 167) @PySem.Value.none), (DictEntry.mk (PyData.keyHash P (Str.ofString "__loader__")) (Value.str (Str.ofString "__loader__") 168) (Value.builtin "__main__.__loader__#opaque")), (DictEntry.mk (PyData.keyHash P (Str.ofString "__spec__")) (Value.str (Str.ofString "__spec__") 169) @PySem.Value.none), (DictEntry.mk (PyData.keyHash P (Str.ofString "__annotations__")) (Value.str (Str.ofString "__annotations__") 170) (Value.ref 6)), (DictEntry.mk (PyData.keyHash P (Str.ofString "__builtins__")) (Value.str (Str.ofString "__builtins__") 171) (Value.ref 4)), (DictEntry.mk (PyData.keyHash P (Str.ofString "__file__")) (Value.str (Str.ofString "__file__") 173) (Value.str (Str.ofString "/claim/cut.py") 172)), (DictEntry.mk (PyData.keyHash P (Str.ofString "__cached__")) (Value.str (Str.ofString "__cached__") 174) @PySem.Value.none), (DictEntry.mk (PyData.keyHash P (Str.ofString "_sre")) (Value.str (Str.ofString "_sre") 275) (Value.ref 12)), (DictEntry.mk (PyData.keyHash P (Str.ofString "_wall")) (Value.str (Str.ofString "_wall") 288) (Value.ref 38)), (DictEntry.mk (PyData.keyHash P (Str.ofString "_twin_re_7")) (Value.str (Str.ofString "_twin_re_7") 428) (Value.ref 43)), (DictEntry.mk (PyData.keyHash P (Str.ofString "_twin_re_8")) (Value.str (Str.ofString "_twin_re_8") 566) (Value.ref 48)), (DictEntry.mk (PyData.keyHash P (Str.ofString "SelectorError")) (Value.str (Str.ofString "SelectorError") 586) (Value.ref 58)), (DictEntry.mk (PyData.keyHash P (Str.ofString "SelectorSyntaxError")) (Value.str (Str.ofString "SelectorSyntaxError") 602) (Value.ref 71)), (DictEntry.mk (PyData.keyHash P (Str.ofString "Token")) (Value.str (Str.ofString "Token") 670) (Value.ref 127)), (DictEntry.mk (PyData.keyHash P (Str.ofString "EOFToken")) (Value.str (Str.ofString "EOFToken") 702) (Value.ref 155))] 17) #[])
noncomputable def o145 (P : Params) : Obj := (Obj.mk @PySem.Value.none (Option.none) (Data.fields #[(Value.int (2 : Int) 0), (Value.int (0 : Int) 0), (Value.ref 37), (Value.int (8 : Int) 0), (Value.int (0 : Int) 0), (Value.ref 54), (Value.int (10 : Int) 0), (Value.int (0 : Int) 0), (Value.ref 67), (Value.int (12 : Int) 0), (Value.int (0 : Int) 0), (Value.ref 79), (Value.int (35 : Int) 0), (Value.int (0 : Int) 0), (Value.ref 137)]) #[])
noncomputable def o146 (P : Params) : Obj := (Obj.mk (Value.type "type") (Option.none) (Data.cls (ClassData.mk (Str.ofString "Token") [(Value.type "tuple")] [(Value.ref 127), (Value.type "tuple"), (Value.type "object")] 126 (Str.ofString "Token") @Bool.true [] [(Value.ref 155)] @Bool.false (Option.none) @Bool.false)) #[(Option.some (Value.ref 74)), (Option.none), (Option.some (Value.str (Str.ofString "Token") 603)), (Option.some (Value.str (Str.ofString "Token") 611)), (Option.some @PySem.Value.none), (Option.some (Value.bool @Bool.false))])
noncomputable def o147 (P : Params) : Obj := (Obj.mk (Value.type "tuple") (Option.none) (Data.seq #[(Value.ref 127)] 0) #[])
noncomputable def o148 (P : Params) : Obj := (Obj.mk (Value.type "builtin_function_or_method") (Option.none) (Data.fields #[(Value.builtin "type.__prepare__"), (Value.type "type")]) #[])
noncomputable def o149 (P : Params) : Obj := (Obj.mk (Value.type "dict") (Option.none) (Data.dict #[(DictEntry.mk (PyData.keyHash P (Str.ofString "__module__")) (Value.str (Str.ofString "__module__") 678) (Value.str (Str.ofString "cssselect.parser") 289)), (DictEntry.mk (PyData.keyHash P (Str.ofString "__qualname__")) (Value.str (Str.ofString "__qualname__") 680) (Value.str (Str.ofString "EOFToken") 679)), (DictEntry.mk (PyData.keyHash P (Str.ofString "__firstlineno__")) (Value.str (Str.ofString "__firstlineno__") 682) (Value.int (35 : Int) 681)), (DictEntry.mk (PyData.keyHash P (Str.ofString "__new__")) (Value.str (Str.ofString "__new__") 690) (Value.ref 145)), (DictEntry.mk (PyData.keyHash P (Str.ofString "__repr__")) (Value.str (Str.ofString "__repr__") 697) (Value.ref 152)), (DictEntry.mk (PyData.keyHash P (Str.ofString "__static_attributes__")) (Value.str (Str.ofString "__static_attributes__") 698) (Value.ref 153))] 6) #[])
noncomputable def o150 (P : Params) : Obj := (Obj.mk (Value.type "tuple") (Option.none) (Data.seq #[] 0) #[])
noncomputable def o151 (P : Params) : Obj := (Obj.mk @PySem.Value.none (Option.none) (Data.fields #[(Value.int (37 : Int) 0), (Value.int (4 : Int) 0), (Value.ref 144), (Value.int (40 : Int) 0), (Value.int (4 : Int) 0), (Value.ref 151)]) #[])
noncomputable def o152 (P : Params) : Obj := (Obj.mk (Value.type "code") (Option.none) (Data.fields #[(Value.str (Str.ofString "EOFToken") 673), (Value.str (Str.ofString "EOFToken") 674), (Value.str (Str.ofString "/claim/cut.py") 675), (Value.int (35 : Int) 0), (Value.int (0 : Int) 0), (Value.int (0 : Int) 0), (Value.int (0 : Int) 0), (Value.int (0 : Int) 0), (Value.ref 135), (Value.bool @Bool.false), (Value.int (276 : Int) 0), (Value.ref 136), @PySem.Value.none, @PySem.Value.none, @PySem.Value.none, @PySem.Value.none, (Value.int (676 : Int) 0), (Value.int (35 : Int) 0), (Value.str (Str.ofString "/claim/cut.py") 677)]) #[])
noncomputable def o153 (P : Params) : Obj := (Obj.mk (Value.type "frame") (Option.none) @PySem.Data.plain #[(Option.some (Value.ref 137)), (Option.some (Value.ref 3)), (Option.some (Value.ref 134)), (Option.none), (Option.some (Value.str (Str.ofString "cssselect.parser") 289)), (Option.none), (Option.some (Value.ref 0))])
noncomputable def o154 (P : Params) : Obj := (Obj.mk (Value.type "tuple") (Option.none) (Data.seq #[] 0) #[])
noncomputable def o155 (P : Params) : Obj := (Obj.mk @PySem.Value.none (Option.none) (Data.fields #[]) #[])
noncomputable def o156 (P : Params) : Obj := (Obj.mk (Value.type "tuple") (Option.none) (Data.seq #[(Value.str (Str.ofString "cls") 686), (Value.str (Str.ofString "pos") 687)] 0) #[])
noncomputable def o157 (P : Params) : Obj := (Obj.mk (Value.type "tuple") (Option.none) (Data.seq #[] 0) #[])
noncomputable def o158 (P : Params) : Obj := (Obj.mk @PySem.Value.none (Option.none) (Data.func (FuncData.mk (Str.ofString "__new__") (Str.ofString "EOFToken.__new__") (fArgs (mt 8 0)) (FuncBody.stmts (fBody (mt 8 0))) (fScope (mt 8 0)) 0 [] @PySem.Value.none @PySem.Value.none @PySem.Value.none @PySem.Value.none (Option.none) @PySem.Value.none @PySem.Value.none 0)) #[])
noncomputable def o159 (P : Params) : Obj := (Obj.mk (Value.type "code") (Option.none) (Data.fields #[(Value.str (Str.ofString "__new__") 683), (Value.str (Str.ofString "EOFToken.__new__") 684), (Value.str (Str.ofString "/claim/cut.py") 685), (Value.int (37 : Int) 0), (Value.int (2 : Int) 0), (Value.int (0 : Int) 0), (Value.int (0 : Int) 0), (Value.int (3 : Int) 0), (Value.ref 139), (Value.bool @Bool.true), (Value.int (276 : Int) 0), (Value.ref 140), @PySem.Value.none, (Value.ref 141), (Value.ref 142), (Value.ref 143), (Value.int (688 : Int) 0), (Value.int (37 : Int) 0), (Value.str (Str.ofString "/claim/cut.py") 689)]) #[])
noncomputable def o160 (P : Params) : Obj := (Obj.mk (Value.type "function") (Option.none) (Data.func (FuncData.mk (Str.ofString "__new__") (Str.ofString "EOFToken.__new__") (fArgs (mt 8 0)) (FuncBody.stmts (fBody (mt 8 0))) (fScope (mt 8 0)) 3 [] @PySem.Value.none @PySem.Value.none @PySem.Value.none (Value.str (Str.ofString "cssselect.parser") 289) (Option.none) (Value.ref 144) @PySem.Value.none 0)) #[])
noncomputable def o161 (P : Params) : Obj := (Obj.mk (Value.type "tuple") (Option.none) (Data.seq #[] 0) #[])
noncomputable def o162 (P : Params) : Obj := (Obj.mk @PySem.Value.none (Option.none) (Data.fields #[]) #[])
noncomputable def o163 (P : Params) : Obj := (Obj.mk (Value.type "tuple") (Option.none) (Data.seq #[(Value.str (Str.ofString "self") 694)] 0) #[])
noncomputable def o164 (P : Params) : Obj := (Obj.mk (Value.type "tuple") (Option.none) (Data.seq #[] 0) #[])
noncomputable def o165 (P : Params) : Obj := (Obj.mk @PySem.Value.none (Option.none) (Data.func (FuncData.mk (Str.ofString "__repr__") (Str.ofString "EOFToken.__repr__") (fArgs (mt 8 1)) (FuncBody.stmts (fBody (mt 8 1))) (fScope (mt 8 1)) 0 [] @PySem.Value.none @PySem.Value.none @PySem.Value.none @PySem.Value.none (Option.none) @PySem.Value.none @PySem.Value.none 0)) #[])
noncomputable def o166 (P : Params) : Obj := (Obj.mk (Value.type "code") (Option.none) (Data.fields #[(Value.str (Str.ofString "__repr__") 691), (Value.str (Str.ofString "EOFToken.__repr__") 692), (Value.str (Str.ofString "/claim/cut.py") 693), (Value.int (40 : Int) 0), (Value.int (1 : Int) 0), (Value.int (0 : Int) 0), (Value.int (0 : Int) 0), (Value.int (3 : Int) 0), (Value.ref 146), (Value.bool @Bool.true), (Value.int (276 : Int) 0), (Value.ref 147), @PySem.Value.none, (Value.ref 148), (Value.ref 149), (Value.ref 150), (Value.int (695 : Int) 0), (Value.int (40 : Int) 0), (Value.str (Str.ofString "/claim/cut.py") 696)]) #[])
noncomputable def o167 (P : Params) : Obj := (Obj.mk (Value.type "function") (Option.none) (Data.func (FuncData.mk (Str.ofString "__repr__") (Str.ofString "EOFToken.__repr__") (fArgs (mt 8 1)) (FuncBody.stmts (fBody (mt 8 1))) (fScope (mt 8 1)) 3 [] @PySem.Value.none @PySem.Value.none @PySem.Value.none (Value.str (Str.ofString "cssselect.parser") 289) (Option.none) (Value.ref 151) @PySem.Value.none 0)) #[])
noncomputable def o168 (P : Params) : Obj := (Obj.mk (Value.type "tuple") (Option.none) (Data.seq #[] 0) #[])
noncomputable def o169 (P : Params) : Obj := (Obj.mk (Value.type "dict") (Option.none) (Data.dict #[(DictEntry.mk (PyData.keyHash P (Str.ofString "__module__")) (Value.str (Str.ofString "__module__") 678) (Value.str (Str.ofString "cssselect.parser") 289)), (DictEntry.mk (PyData.keyHash P (Str.ofString "__firstlineno__")) (Value.str (Str.ofString "__firstlineno__") 682) (Value.int (35 : Int) 681)), (DictEntry.mk (PyData.keyHash P (Str.ofString "__new__")) (Value.str (Str.ofString "__new__") 690) (Value.ref 156)), (DictEntry.mk (PyData.keyHash P (Str.ofString "__repr__")) (Value.str (Str.ofString "__repr__") 697) (Value.ref 152)), (DictEntry.mk (PyData.keyHash P (Str.ofString "__static_attributes__")) (Value.str (Str.ofString "__static_attributes__") 698) (Value.ref 153)), (DictEntry.mk (PyData.keyHash P (Str.ofString "__doc__")) (Value.str (Str.ofString "__doc__") 700) @PySem.Value.none)] 2) #[])
noncomputable def o170 (P : Params) : Obj := (Obj.mk (Value.type "type") (Option.none) (Data.cls (ClassData.mk (Str.ofString "EOFToken") [(Value.ref 127)] [(Value.ref 155), (Value.ref 127), (Value.type "tuple"), (Value.type "object")] 154 (Str.ofString "EOFToken") @Bool.true [] [] @Bool.false (Option.none) @Bool.false)) #[(Option.some (Value.ref 132)), (Option.none), (Option.some (Value.str (Str.ofString "EOFToken") 671)), (Option.some (Value.str (Str.ofString "EOFToken") 679)), (Option.some @PySem.Value.none), (Option.some (Value.bool @Bool.false))])
noncomputable def o171 (P : Params) : Obj := (Obj.mk (Value.type "staticmethod") (Option.none) (Data.fields #[(Value.ref 145)]) #[])
noncomputable def o172 (P : Params) : Obj := (Obj.mk (Value.type "super") (Option.none) (Data.fields #[(Value.ref 155), (Value.ref 155), (Value.ref 155)]) #[])
noncomputable def o173 (P : Params) : Obj := (Obj.mk (Value.type "builtin_function_or_method") (Option.none) (Data.fields #[(Value.builtin "object.__init_subclass__"), (Value.ref 155)]) #[])
noncomputable def t6 (P : Params) : BT := (.node (o0 P) (.node (o1 P) (.node (o144 P) (.node (o7 P) (.node (o15 P) (.node (o31 P) (.node (o73 P) (.node (o146 P) .nil .nil) .nil) (.node (o107 P) .nil .nil)) (.node (o51 P) (.node (o91 P) (.node (o158 P) .nil .nil) .nil) (.node (o123 P) .nil .nil))) (.node (o23 P) (.node (o42 P) (.node (o81 P) (.node (o150 P) .nil .nil) .nil) (.node (o115 P) .nil .nil)) (.node (o62 P) (.node (o99 P) (.node (o166 P) .nil .nil) .nil) (.node (o131 P) .nil .nil)))) (.node (o11 P) (.node (o19 P) (.node (o37 P) (.node (o77 P) (.node (o143 P) .nil .nil) .nil) (.node (o111 P) .nil .nil)) (.node (o58 P) (.node (o95 P) (.node (o162 P) .nil .nil) .nil) (.node (o127 P) .nil .nil))) (.node (o27 P) (.node (o46 P) (.node (o87 P) (.node (o154 P) .nil .nil) .nil) (.node (o119 P) .nil .nil)) (.node (o66 P) (.node (o103 P) (.node (o170 P) .nil .nil) .nil) (.node (o135 P) .nil .nil))))) (.node (o5 P) (.node (o9 P) (.node (o17 P) (.node (o35 P) (.node (o75 P) (.node (o141 P) .nil .nil) .nil) (.node (o109 P) .nil .nil)) (.node (o56 P) (.node (o93 P) (.node (o160 P) .nil .nil) .nil) (.node (o125 P) .nil .nil))) (.node (o25 P) (.node (o44 P) (.node (o83 P) (.node (o152 P) .nil .nil) .nil) (.node (o117 P) .nil .nil)) (.node (o64 P) (.node (o101 P) (.node (o168 P) .nil .nil) .nil) (.node (o133 P) .nil .nil)))) (.node (o13 P) (.node (o21 P) (.node (o39 P) (.node (o79 P) (.node (o148 P) .nil .nil) .nil) (.node (o113 P) .nil .nil)) (.node (o60 P) (.node (o97 P) (.node (o164 P) .nil .nil) .nil) (.node (o129 P) .nil .nil))) (.node (o145 P) (.node (o49 P) (.node (o89 P) (.node (o156 P) .nil .nil) .nil) (.node (o121 P) .nil .nil)) (.node (o68 P) (.node (o105 P) (.node (o172 P) .nil .nil) .nil) (.node (o137 P) .nil .nil)))))) (.node (o53 P) (.node (o4 P) (.node (o8 P) (.node (o16 P) (.node (o34 P) (.node (o74 P) (.node (o140 P) .nil .nil) .nil) (.node (o108 P) .nil .nil)) (.node (o52 P) (.node (o92 P) (.node (o159 P) .nil .nil) .nil) (.node (o124 P) .nil .nil))) (.node (o24 P) (.node (o43 P) (.node (o82 P) (.node (o151 P) .nil .nil) .nil) (.node (o116 P) .nil .nil)) (.node (o63 P) (.node (o100 P) (.node (o167 P) .nil .nil) .nil) (.node (o132 P) .nil .nil)))) (.node (o12 P) (.node (o20 P) (.node (o38 P) (.node (o78 P) (.node (o147 P) .nil .nil) .nil) (.node (o112 P) .nil .nil)) (.node (o59 P) (.node (o96 P) (.node (o163 P) .nil .nil) .nil) (.node (o128 P) .nil .nil))) (.node (o28 P) (.node (o48 P) (.node (o88 P) (.node (o155 P) .nil .nil) .nil) (.node (o120 P) .nil .nil)) (.node (o67 P) (.node (o104 P) (.node (o171 P) .nil .nil) .nil) (.node (o136 P) .nil .nil))))) (.node (o6 P) (.node (o10 P) (.node (o18 P) (.node (o36 P) (.node (o76 P) (.node (o142 P) .nil .nil) .nil) (.node (o110 P) .nil .nil)) (.node (o57 P) (.node (o94 P) (.node (o161 P) .nil .nil) .nil) (.node (o126 P) .nil .nil))) (.node (o26 P) (.node (o45 P) (.node (o86 P) (.node (o153 P) .nil .nil) .nil) (.node (o118 P) .nil .nil)) (.node (o71 P) (.node (o102 P) (.node (o169 P) .nil .nil) .nil) (.node (o134 P) .nil .nil)))) (.node (o14 P) (.node (o22 P) (.node (o40 P) (.node (o80 P) (.node (o149 P) .nil .nil) .nil) (.node (o114 P) .nil .nil)) (.node (o61 P) (.node (o98 P) (.node (o165 P) .nil .nil) .nil) (.node (o130 P) .nil .nil))) (.node (o30 P) (.node (o50 P) (.node (o90 P) (.node (o157 P) .nil .nil) .nil) (.node (o122 P) .nil .nil)) (.node (o72 P) (.node (o106 P) (.node (o173 P) .nil .nil) .nil) (.node (o138 P) .nil .nil)))))))
noncomputable def s6 (w : World) (os : OsState) : SharedT := ⟨t6 w.params, 159, (Life.mk [] [] [] 0 [] [] @Bool.false #[] [] 0 @Bool.false @Bool.false @Bool.false (0 : Int) [(2000 : Int), (10 : Int), (10 : Int)] @Bool.false 0 @Bool.true [] [] 0 @Bool.false), #[], ⟨0, 0, 0, 0⟩, 703, os⟩
noncomputable def o174 (P : Params) : Obj := (Obj.mk (Value.type "dict") (Option.none) (Data.dict #[(DictEntry.mk (PyData.keyHash P (Str.ofString "__name__")) (Value.str (Str.ofString "__name__") 165) (Value.str (Str.ofString "cssselect.parser") 289)), (DictEntry.mk (PyData.keyHash P (Str.ofString "__doc__")) (Value.str (Str.ofString "__doc__") 166) @PySem.Value.none), (DictEntry.mk (PyData.keyHash P (Str.ofString "__package__")) (Value.str (Str.ofString "__package__") 167) @PySem.Value.none), (DictEntry.mk (PyData.keyHash P (Str.ofString "__loader__")) (Value.str (Str.ofString "__loader__") 168) (Value.builtin "__main__.__loader__#opaque")), (DictEntry.mk (PyData.keyHash P (Str.ofString "__spec__")) (Value.str (Str.ofString "__spec__") 169) @PySem.Value.none), (DictEntry.mk (PyData.keyHash P (Str.ofString "__annotations__")) (Value.str (Str.ofString "__annotations__") 170) (Value.ref 6)), (DictEntry.mk (PyData.keyHash P (Str.ofString "__builtins__")) (Value.str (Str.ofString "__builtins__") 171) (Value.ref 4)), (DictEntry.mk (PyData.keyHash P (Str.ofString "__file__")) (Value.str (Str.ofString "__file__") 173) (Value.str (Str.ofString "/claim/cut.py") 172)), (DictEntry.mk (PyData.keyHash P (Str.ofString "__cached__")) (Value.str (Str.ofString "__cached__") 174) @PySem.Value.none), (DictEntry.mk (PyData.keyHash P (Str.ofString "_sre")) (Value.str (Str.ofString "_sre") 275) (Value.ref 12)), (DictEntry.mk (PyData.keyHash P (Str.ofString "_wall")) (Value.str (Str.ofString "_wall") 288) (Value.ref 38)), (DictEntry.mk (PyData.keyHash P (Str.ofString "_twin_re_7")) (Value.str (Str.ofString "_twin_re_7") 428) (Value.ref 43)), (DictEntry.mk (PyData.keyHash P (Str.ofString "_twin_re_8")) (Value.str (Str.ofString "_twin_re_8") 566) (Value.ref 48)), (DictEntry.mk (PyData.keyHash P (Str.ofString "SelectorError")) (Value.str (Str.ofString "SelectorError") 586) (Value.ref 58)), (DictEntry.mk (PyData.keyHash P (Str.ofString "SelectorSyntaxError")) (Value.str (Str.ofString "SelectorSyntaxError") 602) (Value.ref 71)), (DictEntry.mk (PyData.keyHash P (Str.ofString "Token")) (Value.str (Str.ofString "Token") 670) (Value.ref 127)), (DictEntry.mk (PyData.keyHash P (Str.ofString "EOFToken")) (Value.str (Str.ofString "EOFToken") 702) (Value.ref 155)), (DictEntry.mk (PyData.keyHash P (Str.ofString "_match_whitespace")) (Value.str (Str.ofString "_match_whitespace") 731) (Value.ref 163))] 18) #[])
noncomputable def o175 (P : Params) : Obj := (Obj.mk (Value.type "list") (Option.none) (Data.seq (litA 9 706) 0) #[])
noncomputable def o176 (P : Params) : Obj := (Obj.mk (Value.type "dict") (Option.none) (Data.dict #[] 0) #[])
noncomputable def o177 (P : Params) : Obj := (Obj.mk (Value.type "tuple") (Option.none) (Data.seq #[@PySem.Value.none] 0) #[])
noncomputable def o178 (P : Params) : Obj := (Obj.mk (Value.type "tuple") (Option.none) (Data.seq (tupA 9) 0) #[])
noncomputable def o179 (P : Params) : Obj := (Obj.mk (Value.type "re.Pattern") (Option.none) (Data.fields #[(Value.str (patS (fd 9)) 704), (Value.int (32 : Int) 730), (Value.int (0 : Int) 0), @PySem.Value.none, @PySem.Value.none, (Value.ref 162), (Value.int (0 : Int) 0)]) #[])
noncomputable def t7 (P : Params) : BT := (.node (o0 P) (.node (o1 P) (.node (o174 P) (.node (o7 P) (.node (o15 P) (.node (o31 P) (.node (o73 P) (.node (o146 P) .nil .nil) .nil) (.node (o107 P) (.node (o175 P) .nil .nil) .nil)) (.node (o51 P) (.node (o91 P) (.node (o158 P) .nil .nil) .nil) (.node (o123 P) .nil .nil))) (.node (o23 P) (.node (o42 P) (.node (o81 P) (.node (o150 P) .nil .nil) .nil) (.node (o115 P) .nil .nil)) (.node (o62 P) (.node (o99 P) (.node (o166 P) .nil .nil) .nil) (.node (o131 P) .nil .nil)))) (.node (o11 P) (.node (o19 P) (.node (o37 P) (.node (o77 P) (.node (o143 P) .nil .nil) .nil) (.node (o111 P) (.node (o179 P) .nil .nil) .nil)) (.node (o58 P) (.node (o95 P) (.node (o162 P) .nil .nil) .nil) (.node (o127 P) .nil .nil))) (.node (o27 P) (.node (o46 P) (.node (o87 P) (.node (o154 P) .nil .nil) .nil) (.node (o119 P) .nil .nil)) (.node (o66 P) (.node (o103 P) (.node (o170 P) .nil .nil) .nil) (.node (o135 P) .nil .nil))))) (.node (o5 P) (.node (o9 P) (.node (o17 P) (.node (o35 P) (.node (o75 P) (.node (o141 P) .nil .nil) .nil) (.node (o109 P) (.node (o177 P) .nil .nil) .nil)) (.node (o56 P) (.node (o93 P) (.node (o160 P) .nil .nil) .nil) (.node (o125 P) .nil .nil))) (.node (o25 P) (.node (o44 P) (.node (o83 P) (.node (o152 P) .nil .nil) .nil) (.node (o117 P) .nil .nil)) (.node (o64 P) (.node (o101 P) (.node (o168 P) .nil .nil) .nil) (.node (o133 P) .nil .nil)))) (.node (o13 P) (.node (o21 P) (.node (o39 P) (.node (o79 P) (.node (o148 P) .nil .nil) .nil) (.node (o113 P) .nil .nil)) (.node (o60 P) (.node (o97 P) (.node (o164 P) .nil .nil) .nil) (.node (o129 P) .nil .nil))) (.node (o145 P) (.node (o49 P) (.node (o89 P) (.node (o156 P) .nil .nil) .nil) (.node (o121 P) .nil .nil)) (.node (o68 P) (.node (o105 P) (.node (o172 P) .nil .nil) .nil) (.node (o137 P) .nil .nil)))))) (.node (o53 P) (.node (o4 P) (.node (o8 P) (.node (o16 P) (.node (o34 P) (.node (o74 P) (.node (o140 P) .nil .nil) .nil) (.node (o108 P) (.node (o176 P) .nil .nil) .nil)) (.node (o52 P) (.node (o92 P) (.node (o159 P) .nil .nil) .nil) (.node (o124 P) .nil .nil))) (.node (o24 P) (.node (o43 P) (.node (o82 P) (.node (o151 P) .nil .nil) .nil) (.node (o116 P) .nil .nil)) (.node (o63 P) (.node (o100 P) (.node (o167 P) .nil .nil) .nil) (.node (o132 P) .nil .nil)))) (.node (o12 P) (.node (o20 P) (.node (o38 P) (.node (o78 P) (.node (o147 P) .nil .nil) .nil) (.node (o112 P) .nil .nil)) (.node (o59 P) (.node (o96 P) (.node (o163 P) .nil .nil) .nil) (.node (o128 P) .nil .nil))) (.node (o28 P) (.node (o48 P) (.node (o88 P) (.node (o155 P) .nil .nil) .nil) (.node (o120 P) .nil .nil)) (.node (o67 P) (.node (o104 P) (.node (o171 P) .nil .nil) .nil) (.node (o136 P) .nil .nil))))) (.node (o6 P) (.node (o10 P) (.node (o18 P) (.node (o36 P) (.node (o76 P) (.node (o142 P) .nil .nil) .nil) (.node (o110 P) (.node (o178 P) .nil .nil) .nil)) (.node (o57 P) (.node (o94 P) (.node (o161 P) .nil .nil) .nil) (.node (o126 P) .nil .nil))) (.node (o26 P) (.node (o45 P) (.node (o86 P) (.node (o153 P) .nil .nil) .nil) (.node (o118 P) .nil .nil)) (.node (o71 P) (.node (o102 P) (.node (o169 P) .nil .nil) .nil) (.node (o134 P) .nil .nil)))) (.node (o14 P) (.node (o22 P) (.node (o40 P) (.node (o80 P) (.node (o149 P) .nil .nil) .nil) (.node (o114 P) .nil .nil)) (.node (o61 P) (.node (o98 P) (.node (o165 P) .nil .nil) .nil) (.node (o130 P) .nil .nil))) (.node (o30 P) (.node (o50 P) (.node (o90 P) (.node (o157 P) .nil .nil) .nil) (.node (o122 P) .nil .nil)) (.node (o72 P) (.node (o106 P) (.node (o173 P) .nil .nil) .nil) (.node (o138 P) .nil .nil)))))))
noncomputable def s7 (w : World) (os : OsState) : SharedT := ⟨t7 w.params, 164, (Life.mk [] [] [] 0 [] [] @Bool.false #[] [] 0 @Bool.false @Bool.false @Bool.false (0 : Int) [(2000 : Int), (10 : Int), (10 : Int)] @Bool.false 0 @Bool.true [] [] 0 @Bool.false), #[], ⟨0, 0, 0, 0⟩, 732, os⟩
noncomputable def o180 (P : Params) : Obj := (Obj.mk (Value.type "dict") (Option.none) (Data.dict #[(DictEntry.mk (PyData.keyHash P (Str.ofString "__name__")) (Value.str (Str.ofString "__name__") 165) (Value.str (Str.ofString "cssselect.parser") 289)), (DictEntry.mk (PyData.keyHash P (Str.ofString "__doc__")) (Value.str (Str.ofString "__doc__") 166) @PySem.Value.none), (DictEntry.mk (PyData.keyHash P (Str.ofString "__package__")) (Value.str (Str.ofString "__package__") 167) @PySem.Value.none), (DictEntry.mk (PyData.keyHash P (Str.ofString "__loader__")) (Value.str (Str.ofString "__loader__") 168) (Value.builtin "__main__.__loader__#opaque")), (DictEntry.mk (PyData.keyHash P (Str.ofString "__spec__")) (Value.str (Str.ofString "__spec__") 169) @PySem.Value.none), (DictEntry.mk (PyData.keyHash P (Str.ofString "__annotations__")) (Value.str (Str.ofString "__annotations__") 170) (Value.ref 6)), (DictEntry.mk (PyData.keyHash P (Str.ofString "__builtins__")) (Value.str (Str.ofString "__builtins__") 171) (Value.ref 4)), (DictEntry.mk (PyData.keyHash P (Str.ofString "__file__")) (Value.str (Str.ofString "__file__") 173) (Value.str (Str.ofString "/claim/cut.py") 172)), (DictEntry.mk (PyData.keyHash P (Str.ofString "__cached__")) (Value.str (Str.ofString "__cached__") 174) @PySem.Value.none), (DictEntry.mk (PyData.keyHash P (Str.ofString "_sre")) (Value.str (Str.ofString "_sre") 275) (Value.ref 12)), (DictEntry.mk (PyData.keyHash P (Str.ofString "_wall")) (Value.str (Str.ofString "_wall") 288) (Value.ref 38)), (DictEntry.mk (PyData.keyHash P (Str.ofString "_twin_re_7")) (Value.str (Str.ofString "_twin_re_7") 428) (Value.ref 43)), (DictEntry.mk (PyData.keyHash P (Str.ofString "_twin_re_8")) (Value.str (Str.ofString "_twin_re_8") 566) (Value.ref 48)), (DictEntry.mk (PyData.keyHash P (Str.ofString "SelectorError")) (Value.str (Str.ofString "SelectorError") 586) (Value.ref 58)), (DictEntry.mk (PyData.keyHash P (Str.ofString "SelectorSyntaxError")) (Value.str (Str.ofString "SelectorSyntaxError") 602) (Value.ref 71)), (DictEntry.mk (PyData.keyHash P (Str.ofString "Token")) (Value.str (Str.ofString "Token") 670) (Value.ref 127)), (DictEntry.mk (PyData.keyHash P (Str.ofString "EOFToken")) (Value.str (Str.ofString "EOFToken") 702) (Value.ref 155)), (DictEntry.mk (PyData.keyHash P (Str.ofString "_match_whitespace")) (Value.str (Str.ofString "_match_whitespace") 731) (Value.ref 163)), (DictEntry.mk (PyData.keyHash P (Str.ofString "_match_number")) (Value.str (Str.ofString "_match_number") 798) (Value.ref 168))] 19) #[])
noncomputable def o181 (P : Params) : Obj := (Obj.mk (Value.type "list") (Option.none) (Data.seq (litA 10 735) 0) #[])
noncomputable def o182 (P : Params) : Obj := (Obj.mk (Value.type "dict") (Option.none) (Data.dict #[] 0) #[])
noncomputable def o183 (P : Params) : Obj := (Obj.mk (Value.type "tuple") (Option.none) (Data.seq #[@PySem.Value.none] 0) #[])
noncomputable def o184 (P : Params) : Obj := (Obj.mk (Value.type "tuple") (Option.none) (Data.seq (tupA 10) 0) #[])
noncomputable def o185 (P : Params) : Obj := (Obj.mk (Value.type "re.Pattern") (Option.none) (Data.fields #[(Value.str (patS (fd 10)) 733), (Value.int (32 : Int) 797), (Value.int (0 : Int) 0), @PySem.Value.none, @PySem.Value.none, (Value.ref 167), (Value.int (0 : Int) 0)]) #[])
noncomputable def t8 (P : Params) : BT := (.node (o0 P) (.node (o1 P) (.node (o180 P) (.node (o7 P) (.node (o15 P) (.node (o31 P) (.node (o73 P) (.node (o146 P) .nil .nil) .nil) (.node (o107 P) (.node (o175 P) .nil .nil) .nil)) (.node (o51 P) (.node (o91 P) (.node (o158 P) .nil .nil) .nil) (.node (o123 P) .nil .nil))) (.node (o23 P) (.node (o42 P) (.node (o81 P) (.node (o150 P) .nil .nil) .nil) (.node (o115 P) (.node (o184 P) .nil .nil) .nil)) (.node (o62 P) (.node (o99 P) (.node (o166 P) .nil .nil) .nil) (.node (o131 P) .nil .nil)))) (.node (o11 P) (.node (o19 P) (.node (o37 P) (.node (o77 P) (.node (o143 P) .nil .nil) .nil) (.node (o111 P) (.node (o179 P) .nil .nil) .nil)) (.node (o58 P) (.node (o95 P) (.node (o162 P) .nil .nil) .nil) (.node (o127 P) .nil .nil))) (.node (o27 P) (.node (o46 P) (.node (o87 P) (.node (o154 P) .nil .nil) .nil) (.node (o119 P) .nil .nil)) (.node (o66 P) (.node (o103 P) (.node (o170 P) .nil .nil) .nil) (.node (o135 P) .nil .nil))))) (.node (o5 P) (.node (o9 P) (.node (o17 P) (.node (o35 P) (.node (o75 P) (.node (o141 P) .nil .nil) .nil) (.node (o109 P) (.node (o177 P) .nil .nil) .nil)) (.node (o56 P) (.node (o93 P) (.node (o160 P) .nil .nil) .nil) (.node (o125 P) .nil .nil))) (.node (o25 P) (.node (o44 P) (.node (o83 P) (.node (o152 P) .nil .nil) .nil) (.node (o117 P) .nil .nil)) (.node (o64 P) (.node (o101 P) (.node (o168 P) .nil .nil) .nil) (.node (o133 P) .nil .nil)))) (.node (o13 P) (.node (o21 P) (.node (o39 P) (.node (o79 P) (.node (o148 P) .nil .nil) .nil) (.node (o113 P) (.node (o182 P) .nil .nil) .nil)) (.node (o60 P) (.node (o97 P) (.node (o164 P) .nil .nil) .nil) (.node (o129 P) .nil .nil))) (.node (o145 P) (.node (o49 P) (.node (o89 P) (.node (o156 P) .nil .nil) .nil) (.node (o121 P) .nil .nil)) (.node (o68 P) (.node (o105 P) (.node (o172 P) .nil .nil) .nil) (.node (o137 P) .nil .nil)))))) (.node (o53 P) (.node (o4 P) (.node (o8 P) (.node (o16 P) (.node (o34 P) (.node (o74 P) (.node (o140 P) .nil .nil) .nil) (.node (o108 P) (.node (o176 P) .nil .nil) .nil)) (.node (o52 P) (.node (o92 P) (.node (o159 P) .nil .nil) .nil) (.node (o124 P) .nil .nil))) (.node (o24 P) (.node (o43 P) (.node (o82 P) (.node (o151 P) .nil .nil) .nil) (.node (o116 P) (.node (o185 P) .nil .nil) .nil)) (.node (o63 P) (.node (o100 P) (.node (o167 P) .nil .nil) .nil) (.node (o132 P) .nil .nil)))) (.node (o12 P) (.node (o20 P) (.node (o38 P) (.node (o78 P) (.node (o147 P) .nil .nil) .nil) (.node (o112 P) (.node (o181 P) .nil .nil) .nil)) (.node (o59 P) (.node (o96 P) (.node (o163 P) .nil .nil) .nil) (.node (o128 P) .nil .nil))) (.node (o28 P) (.node (o48 P) (.node (o88 P) (.node (o155 P) .nil .nil) .nil) (.node (o120 P) .nil .nil)) (.node (o67 P) (.node (o104 P) (.node (o171 P) .nil .nil) .nil) (.node (o136 P) .nil .nil))))) (.node (o6 P) (.node (o10 P) (.node (o18 P) (.node (o36 P) (.node (o76 P) (.node (o142 P) .nil .nil) .nil) (.node (o110 P) (.node (o178 P) .nil .nil) .nil)) (.node (o57 P) (.node (o94 P) (.node (o161 P) .nil .nil) .nil) (.node (o126 P) .nil .nil))) (.node (o26 P) (.node (o45 P) (.node (o86 P) (.node (o153 P) .nil .nil) .nil) (.node (o118 P) .nil .nil)) (.node (o71 P) (.node (o102 P) (.node (o169 P) .nil .nil) .nil) (.node (o134 P) .nil .nil)))) (.node (o14 P) (.node (o22 P) (.node (o40 P) (.node (o80 P) (.node (o149 P) .nil .nil) .nil) (.node (o114 P) (.node (o183 P) .nil .nil) .nil)) (.node (o61 P) (.node (o98 P) (.node (o165 P) .nil .nil) .nil) (.node (o130 P) .nil .nil))) (.node (o30 P) (.node (o50 P) (.node (o90 P) (.node (o157 P) .nil .nil) .nil) (.node (o122 P) .nil .nil)) (.node (o72 P) (.node (o106 P) (.node (o173 P) .nil .nil) .nil) (.node (o138 P) .nil .nil)))))))
noncomputable def s8 (w : World) (os : OsState) : SharedT := ⟨t8 w.params, 169, (Life.mk [] [] [] 0 [] [] @Bool.false #[] [] 0 @Bool.false @Bool.false @Bool.false (0 : Int) [(2000 : Int), (10 : Int), (10 : Int)] @Bool.false 0 @Bool.true [] [] 0 @Bool.false), #[], ⟨0, 0, 0, 0⟩, 799, os⟩
noncomputable def o186 (P : Params) : Obj := (Obj.mk (Value.type "dict") (Option.none) (Data.dict #[(DictEntry.mk (PyData.keyHash P (Str.ofString "__name__")) (Value.str (Str.ofString "__name__") 165) (Value.str (Str.ofString "cssselect.parser") 289)), (DictEntry.mk (PyData.keyHash P (Str.ofString "__doc__")) (Value.str (Str.ofString "__doc__") 166) @PySem.Value.none), (DictEntry.mk (PyData.keyHash P (Str.ofString "__package__")) (Value.str (Str.ofString "__package__") 167) @PySem.Value.none), (DictEntry.mk (PyData.keyHash P (Str.ofString "__loader__")) (Value.str (Str.ofString "__loader__") 168) (Value.builtin "__main__.__loader__#opaque")), (DictEntry.mk (PyData.keyHash P (Str.ofString "__spec__")) (Value.str (Str.ofString "__spec__") 169) @PySem.Value.none), (DictEntry.mk (PyData.keyHash P (Str.ofString "__annotations__")) (Value.str (Str.ofString "__annotations__") 170) (Value.ref 6)), (DictEntry.mk (PyData.keyHash P (Str.ofString "__builtins__")) (Value.str (Str.ofString "__builtins__") 171) (Value.ref 4)), (DictEntry.mk (PyData.keyHash P (Str.ofString "__file__")) (Value.str (Str.ofString "__file__") 173) (Value.str (Str.ofString "/claim/cut.py") 172)), (DictEntry.mk (PyData.keyHash P (Str.ofString "__cached__")) (Value.str (Str.ofString "__cached__") 174) @PySem.Value.none), (DictEntry.mk (PyData.keyHash P (Str.ofString "_sre")) (Value.str (Str.ofString "_sre") 275) (Value.ref 12)), (DictEntry.mk (PyData.keyHash P (Str.ofString "_wall")) (Value.str (Str.ofString "_wall") 288) (Value.ref 38)), (DictEntry.mk (PyData.keyHash P (Str.ofString "_twin_re_7")) (Value.str (Str.ofString "_twin_re_7") 428) (Value.ref 43)), (DictEntry.mk (PyData.keyHash P (Str.ofString "_twin_re_8")) (Value.str (Str.ofString "_twin_re_8") 566) (Value.ref 48)), (DictEntry.mk (PyData.keyHash P (Str.ofString "SelectorError")) (Value.str (Str.ofString "SelectorError") 586) (Value.ref 58)), (DictEntry.mk (PyData.keyHash P (Str.ofString "SelectorSyntaxError")) (Value.str (Str.ofString "SelectorSyntaxError") 602) (Value.ref 71)), (DictEntry.mk (PyData.keyHash P (Str.ofString "Token")) (Value.str (Str.ofString "Token") 670) (Value.ref 127)), (DictEntry.mk (PyData.keyHash P (Str.ofString "EOFToken")) (Value.str (Str.ofString "EOFToken") 702) (Value.ref 155)), (DictEntry.mk (PyData.keyHash P (Str.ofString "_match_whitespace")) (Value.str (Str.ofString "_match_whitespace") 731) (Value.ref 163)), (DictEntry.mk (PyData.keyHash P (Str.ofString "_match_number")) (Value.str (Str.ofString "_match_number") 798) (Value.ref 168)), (DictEntry.mk (PyData.keyHash P (Str.ofString "_match_hash")) (Value.str (Str.ofString "_match_hash") 1086) (Value.ref 173))] 20) #[])
noncomputable def o187 (P : Params) : Obj := (Obj.mk (Value.type "list") (Option.none) (Data.seq (litA 11 802) 0) #[])
noncomputable def o188 (P : Params) : Obj := (Obj.mk (Value.type "dict") (Option.none) (Data.dict #[] 0) #[])
noncomputable def o189 (P : Params) : Obj := (Obj.mk (Value.type "tuple") (Option.none) (Data.seq #[@PySem.Value.none, @PySem.Value.none] 0) #[])
noncomputable def o190 (P : Params) : Obj := (Obj.mk (Value.type "tuple") (Option.none) (Data.seq (tupA 11) 0) #[])
noncomputable def o191 (P : Params) : Obj := (Obj.mk (Value.type "re.Pattern") (Option.none) (Data.fields #[(Value.str (patS (fd 11)) 800), (Value.int (34 : Int) 1085), (Value.int (1 : Int) 0), @PySem.Value.none, @PySem.Value.none, (Value.ref 172), (Value.int (0 : Int) 0)]) #[])
noncomputable def t9 (P : Params) : BT := (.node (o0 P) (.node (o1 P) (.node (o186 P) (.node (o7 P) (.node (o15 P) (.node (o31 P) (.node (o73 P) (.node (o146 P) .nil .nil) .nil) (.node (o107 P) (.node (o175 P) .nil .nil) .nil)) (.node (o51 P) (.node (o91 P) (.node (o158 P) .nil .nil) .nil) (.node (o123 P) .nil .nil))) (.node (o23 P) (.node (o42 P) (.node (o81 P) (.node (o150 P) .nil .nil) .nil) (.node (o115 P) (.node (o184 P) .nil .nil) .nil)) (.node (o62 P) (.node (o99 P) (.node (o166 P) .nil .nil) .nil) (.node (o131 P) .nil .nil)))) (.node (o11 P) (.node (o19 P) (.node (o37 P) (.node (o77 P) (.node (o143 P) .nil .nil) .nil) (.node (o111 P) (.node (o179 P) .nil .nil) .nil)) (.node (o58 P) (.node (o95 P) (.node (o162 P) .nil .nil) .nil) (.node (o127 P) .nil .nil))) (.node (o27 P) (.node (o46 P) (.node (o87 P) (.node (o154 P) .nil .nil) .nil) (.node (o119 P) (.node (o189 P) .nil .nil) .nil)) (.node (o66 P) (.node (o103 P) (.node (o170 P) .nil .nil) .nil) (.node (o135 P) .nil .nil))))) (.node (o5 P) (.node (o9 P) (.node (o17 P) (.node (o35 P) (.node (o75 P) (.node (o141 P) .nil .nil) .nil) (.node (o109 P) (.node (o177 P) .nil .nil) .nil)) (.node (o56 P) (.node (o93 P) (.node (o160 P) .nil .nil) .nil) (.node (o125 P) .nil .nil))) (.node (o25 P) (.node (o44 P) (.node (o83 P) (.node (o152 P) .nil .nil) .nil) (.node (o117 P) (.node (o187 P) .nil .nil) .nil)) (.node (o64 P) (.node (o101 P) (.node (o168 P) .nil .nil) .nil) (.node (o133 P) .nil .nil)))) (.node (o13 P) (.node (o21 P) (.node (o39 P) (.node (o79 P) (.node (o148 P) .nil .nil) .nil) (.node (o113 P) (.node (o182 P) .nil .nil) .nil)) (.node (o60 P) (.node (o97 P) (.node (o164 P) .nil .nil) .nil) (.node (o129 P) .nil .nil))) (.node (o145 P) (.node (o49 P) (.node (o89 P) (.node (o156 P) .nil .nil) .nil) (.node (o121 P) (.node (o191 P) .nil .nil) .nil)) (.node (o68 P) (.node (o105 P) (.node (o172 P) .nil .nil) .nil) (.node (o137 P) .nil .nil)))))) (.node (o53 P) (.node (o4 P) (.node (o8 P) (.node (o16 P) (.node (o34 P) (.node (o74 P) (.node (o140 P) .nil .nil) .nil) (.node (o108 P) (.node (o176 P) .nil .nil) .nil)) (.node (o52 P) (.node (o92 P) (.node (o159 P) .nil .nil) .nil) (.node (o124 P) .nil .nil))) (.node (o24 P) (.node (o43 P) (.node (o82 P) (.node (o151 P) .nil .nil) .nil) (.node (o116 P) (.node (o185 P) .nil .nil) .nil)) (.node (o63 P) (.node (o100 P) (.node (o167 P) .nil .nil) .nil) (.node (o132 P) .nil .nil)))) (.node (o12 P) (.node (o20 P) (.node (o38 P) (.node (o78 P) (.node (o147 P) .nil .nil) .nil) (.node (o112 P) (.node (o181 P) .nil .nil) .nil)) (.node (o59 P) (.node (o96 P) (.node (o163 P) .nil .nil) .nil) (.node (o128 P) .nil .nil))) (.node (o28 P) (.node (o48 P) (.node (o88 P) (.node (o155 P) .nil .nil) .nil) (.node (o120 P) (.node (o190 P) .nil .nil) .nil)) (.node (o67 P) (.node (o104 P) (.node (o171 P) .nil .nil) .nil) (.node (o136 P) .nil .nil))))) (.node (o6 P) (.node (o10 P) (.node (o18 P) (.node (o36 P) (.node (o76 P) (.node (o142 P) .nil .nil) .nil) (.node (o110 P) (.node (o178 P) .nil .nil) .nil)) (.node (o57 P) (.node (o94 P) (.node (o161 P) .nil .nil) .nil) (.node (o126 P) .nil .nil))) (.node (o26 P) (.node (o45 P) (.node (o86 P) (.node (o153 P) .nil .nil) .nil) (.node (o118 P) (.node (o188 P) .nil .nil) .nil)) (.node (o71 P) (.node (o102 P) (.node (o169 P) .nil .nil) .nil) (.node (o134 P) .nil .nil)))) (.node (o14 P) (.node (o22 P) (.node (o40 P) (.node (o80 P) (.node (o149 P) .nil .nil) .nil) (.node (o114 P) (.node (o183 P) .nil .nil) .nil)) (.node (o61 P) (.node (o98 P) (.node (o165 P) .nil .nil) .nil) (.node (o130 P) .nil .nil))) (.node (o30 P) (.node (o50 P) (.node (o90 P) (.node (o157 P) .nil .nil) .nil) (.node (o122 P) .nil .nil)) (.node (o72 P) (.node (o106 P) (.node (o173 P) .nil .nil) .nil) (.node (o138 P) .nil .nil)))))))
noncomputable def s9 (w : World) (os : OsState) : SharedT := ⟨t9 w.params, 174, (Life.mk [] [] [] 0 [] [] @Bool.false #[] [] 0 @Bool.false @Bool.false @Bool.false (0 : Int) [(2000 : Int), (10 : Int), (10 : Int)] @Bool.false 0 @Bool.true [] [] 0 @Bool.false), #[], ⟨0, 0, 0, 0⟩, 1087, os⟩
noncomputable def o192 (P : Params) : Obj := (Obj.mk (Value.type "dict") (Option.none) (Data.dict #[(DictEntry.mk (PyData.keyHash P (Str.ofString "__name__")) (Value.str (Str.ofString "__name__") 165) (Value.str (Str.ofString "cssselect.parser") 289)), (DictEntry.mk (PyData.keyHash P (Str.ofString "__doc__")) (Value.str (Str.ofString "__doc__") 166) @PySem.Value.none), (DictEntry.mk (PyData.keyHash P (Str.ofString "__package__")) (Value.str (Str.ofString "__package__") 167) @PySem.Value.none), (DictEntry.mk (PyData.keyHash P (Str.ofString "__loader__")) (Value.str (Str.ofString "__loader__") 168) (Value.builtin "__main__.__loader__#opaque")), (DictEntry.mk (PyData.keyHash P (Str.ofString "__spec__")) (Value.str (Str.ofString "__spec__") 169) @PySem.Value.none), (DictEntry.mk (PyData.keyHash P (Str.ofString "__annotations__")) (Value.str (Str.ofString "__annotations__") 170) (Value.ref 6)), (DictEntry.mk (PyData.keyHash P (Str.ofString "__builtins__")) (Value.str (Str.ofString "__builtins__") 171) (Value.ref 4)), (DictEntry.mk (PyData.keyHash P (Str.ofString "__file__")) (Value.str (Str.ofString "__file__") 173) (Value.str (Str.ofString "/claim/cut.py") 172)), (DictEntry.mk (PyData.keyHash P (Str.ofString "__cached__")) (Value.str (Str.ofString "__cached__") 174) @PySem.Value.none), (DictEntry.mk (PyData.keyHash P (Str.ofString "_sre")) (Value.str (Str.ofString "_sre") 275) (Value.ref 12)), (DictEntry.mk (PyData.keyHash P (Str.ofString "_wall")) (Value.str (Str.ofString "_wall") 288) (Value.ref 38)), (DictEntry.mk (PyData.keyHash P (Str.ofString "_twin_re_7")) (Value.str (Str.ofString "_twin_re_7") 428) (Value.ref 43)), (DictEntry.mk (PyData.keyHash P (Str.ofString "_twin_re_8")) (Value.str (Str.ofString "_twin_re_8") 566) (Value.ref 48)), (DictEntry.mk (PyData.keyHash P (Str.ofString "SelectorError")) (Value.str (Str.ofString "SelectorError") 586) (Value.ref 58)), (DictEntry.mk (PyData.keyHash P (Str.ofString "SelectorSyntaxError")) (Value.str (Str.ofString "SelectorSyntaxError") 602) (Value.ref 71)), (DictEntry.mk (PyData.keyHash P (Str.ofString "Token")) (Value.str (Str.ofString "Token") 670) (Value.ref 127)), (DictEntry.mk (PyData.keyHash P (Str.ofString "EOFToken")) (Value.str (Str.ofString "EOFToken") 702) (Value.ref 155)), (DictEntry.mk (PyData.keyHash P (Str.ofString "_match_whitespace")) (Value.str (Str.ofString "_match_whitespace") 731) (Value.ref 163)), (DictEntry.mk (PyData.keyHash P (Str.ofString "_match_number")) (Value.str (Str.ofString "_match_number") 798) (Value.ref 168)), (DictEntry.mk (PyData.keyHash P (Str.ofString "_match_hash")) (Value.str (Str.ofString "_match_hash") 1086) (Value.ref 173)), (DictEntry.mk (PyData.keyHash P (Str.ofString "_match_ident")) (Value.str (Str.ofString "_match_ident") 1640) (Value.ref 178))] 21) #[])
noncomputable def o193 (P : Params) : Obj := (Obj.mk (Value.type "list") (Option.none) (Data.seq (litA 12 1090) 0) #[])
noncomputable def o194 (P : Params) : Obj := (Obj.mk (Value.type "dict") (Option.none) (Data.dict #[] 0) #[])
noncomputable def o195 (P : Params) : Obj := (Obj.mk (Value.type "tuple") (Option.none) (Data.seq #[@PySem.Value.none, @PySem.Value.none, @PySem.Value.none] 0) #[])
noncomputable def o196 (P : Params) : Obj := (Obj.mk (Value.type "tuple") (Option.none) (Data.seq (tupA 12) 0) #[])
noncomputable def o197 (P : Params) : Obj := (Obj.mk (Value.type "re.Pattern") (Option.none) (Data.fields #[(Value.str (patS (fd 12)) 1088), (Value.int (34 : Int) 1639), (Value.int (2 : Int) 0), @PySem.Value.none, @PySem.Value.none, (Value.ref 177), (Value.int (0 : Int) 0)]) #[])
noncomputable def t10 (P : Params) : BT := (.node (o0 P) (.node (o1 P) (.node (o192 P) (.node (o7 P) (.node (o15 P) (.node (o31 P) (.node (o73 P) (.node (o146 P) .nil .nil) .nil) (.node (o107 P) (.node (o175 P) .nil .nil) .nil)) (.node (o51 P) (.node (o91 P) (.node (o158 P) .nil .nil) .nil) (.node (o123 P) (.node (o194 P) .nil .nil) .nil))) (.node (o23 P) (.node (o42 P) (.node (o81 P) (.node (o150 P) .nil .nil) .nil) (.node (o115 P) (.node (o184 P) .nil .nil) .nil)) (.node (o62 P) (.node (o99 P) (.node (o166 P) .nil .nil) .nil) (.node (o131 P) .nil .nil)))) (.node (o11 P) (.node (o19 P) (.node (o37 P) (.node (o77 P) (.node (o143 P) .nil .nil) .nil) (.node (o111 P) (.node (o179 P) .nil .nil) .nil)) (.node (o58 P) (.node (o95 P) (.node (o162 P) .nil .nil) .nil) (.node (o127 P) .nil .nil))) (.node (o27 P) (.node (o46 P) (.node (o87 P) (.node (o154 P) .nil .nil) .nil) (.node (o119 P) (.node (o189 P) .nil .nil) .nil)) (.node (o66 P) (.node (o103 P) (.node (o170 P) .nil .nil) .nil) (.node (o135 P) .nil .nil))))) (.node (o5 P) (.node (o9 P) (.node (o17 P) (.node (o35 P) (.node (o75 P) (.node (o141 P) .nil .nil) .nil) (.node (o109 P) (.node (o177 P) .nil .nil) .nil)) (.node (o56 P) (.node (o93 P) (.node (o160 P) .nil .nil) .nil) (.node (o125 P) (.node (o196 P) .nil .nil) .nil))) (.node (o25 P) (.node (o44 P) (.node (o83 P) (.node (o152 P) .nil .nil) .nil) (.node (o117 P) (.node (o187 P) .nil .nil) .nil)) (.node (o64 P) (.node (o101 P) (.node (o168 P) .nil .nil) .nil) (.node (o133 P) .nil .nil)))) (.node (o13 P) (.node (o21 P) (.node (o39 P) (.node (o79 P) (.node (o148 P) .nil .nil) .nil) (.node (o113 P) (.node (o182 P) .nil .nil) .nil)) (.node (o60 P) (.node (o97 P) (.node (o164 P) .nil .nil) .nil) (.node (o129 P) .nil .nil))) (.node (o145 P) (.node (o49 P) (.node (o89 P) (.node (o156 P) .nil .nil) .nil) (.node (o121 P) (.node (o191 P) .nil .nil) .nil)) (.node (o68 P) (.node (o105 P) (.node (o172 P) .nil .nil) .nil) (.node (o137 P) .nil .nil)))))) (.node (o53 P) (.node (o4 P) (.node (o8 P) (.node (o16 P) (.node (o34 P) (.node (o74 P) (.node (o140 P) .nil .nil) .nil) (.node (o108 P) (.node (o176 P) .nil .nil) .nil)) (.node (o52 P) (.node (o92 P) (.node (o159 P) .nil .nil) .nil) (.node (o124 P) (.node (o195 P) .nil .nil) .nil))) (.node (o24 P) (.node (o43 P) (.node (o82 P) (.node (o151 P) .nil .nil) .nil) (.node (o116 P) (.node (o185 P) .nil .nil) .nil)) (.node (o63 P) (.node (o100 P) (.node (o167 P) .nil .nil) .nil) (.node (o132 P) .nil .nil)))) (.node (o12 P) (.node (o20 P) (.node (o38 P) (.node (o78 P) (.node (o147 P) .nil .nil) .nil) (.node (o112 P) (.node (o181 P) .nil .nil) .nil)) (.node (o59 P) (.node (o96 P) (.node (o163 P) .nil .nil) .nil) (.node (o128 P) .nil .nil))) (.node (o28 P) (.node (o48 P) (.node (o88 P) (.node (o155 P) .nil .nil) .nil) (.node (o120 P) (.node (o190 P) .nil .nil) .nil)) (.node (o67 P) (.node (o104 P) (.node (o171 P) .nil .nil) .nil) (.node (o136 P) .nil .nil))))) (.node (o6 P) (.node (o10 P) (.node (o18 P) (.node (o36 P) (.node (o76 P) (.node (o142 P) .nil .nil) .nil) (.node (o110 P) (.node (o178 P) .nil .nil) .nil)) (.node (o57 P) (.node (o94 P) (.node (o161 P) .nil .nil) .nil) (.node (o126 P) (.node (o197 P) .nil .nil) .nil))) (.node (o26 P) (.node (o45 P) (.node (o86 P) (.node (o153 P) .nil .nil) .nil) (.node (o118 P) (.node (o188 P) .nil .nil) .nil)) (.node (o71 P) (.node (o102 P) (.node (o169 P) .nil .nil) .nil) (.node (o134 P) .nil .nil)))) (.node (o14 P) (.node (o22 P) (.node (o40 P) (.node (o80 P) (.node (o149 P) .nil .nil) .nil) (.node (o114 P) (.node (o183 P) .nil .nil) .nil)) (.node (o61 P) (.node (o98 P) (.node (o165 P) .nil .nil) .nil) (.node (o130 P) .nil .nil))) (.node (o30 P) (.node (o50 P) (.node (o90 P) (.node (o157 P) .nil .nil) .nil) (.node (o122 P) (.node (o193 P) .nil .nil) .nil)) (.node (o72 P) (.node (o106 P) (.node (o173 P) .nil .nil) .nil) (.node (o138 P) .nil .nil)))))))
noncomputable def s10 (w : World) (os : OsState) : SharedT := ⟨t10 w.params, 179, (Life.mk [] [] [] 0 [] [] @Bool.false #[] [] 0 @Bool.false @Bool.false @Bool.false (0 : Int) [(2000 : Int), (10 : Int), (10 : Int)] @Bool.false 0 @Bool.true [] [] 0 @Bool.false), #[], ⟨0, 0, 0, 0⟩, 1641, os⟩
noncomputable def o198 (P : Params) : Obj := (Obj.mk (Value.type "dict") (Option.none) (Data.dict #[(DictEntry.mk (PyData.keyHash P (Str.ofString "__name__")) (Value.str (Str.ofString "__name__") 165) (Value.str (Str.ofString "cssselect.parser") 289)), (DictEntry.mk (PyData.keyHash P (Str.ofString "__doc__")) (Value.str (Str.ofString "__doc__") 166) @PySem.Value.none), (DictEntry.mk (PyData.keyHash P (Str.ofString "__package__")) (Value.str (Str.ofString "__package__") 167) @PySem.Value.none), (DictEntry.mk (PyData.keyHash P (Str.ofString "__loader__")) (Value.str (Str.ofString "__loader__") 168) (Value.builtin "__main__.__loader__#opaque")), (DictEntry.mk (PyData.keyHash P (Str.ofString "__spec__")) (Value.str (Str.ofString "__spec__") 169) @PySem.Value.none), (DictEntry.mk (PyData.keyHash P (Str.ofString "__annotations__")) (Value.str (Str.ofString "__annotations__") 170) (Value.ref 6)), (DictEntry.mk (PyData.keyHash P (Str.ofString "__builtins__")) (Value.str (Str.ofString "__builtins__") 171) (Value.ref 4)), (DictEntry.mk (PyData.keyHash P (Str.ofString "__file__")) (Value.str (Str.ofString "__file__") 173) (Value.str (Str.ofString "/claim/cut.py") 172)), (DictEntry.mk (PyData.keyHash P (Str.ofString "__cached__")) (Value.str (Str.ofString "__cached__") 174) @PySem.Value.none), (DictEntry.mk (PyData.keyHash P (Str.ofString "_sre")) (Value.str (Str.ofString "_sre") 275) (Value.ref 12)), (DictEntry.mk (PyData.keyHash P (Str.ofString "_wall")) (Value.str (Str.ofString "_wall") 288) (Value.ref 38)), (DictEntry.mk (PyData.keyHash P (Str.ofString "_twin_re_7")) (Value.str (Str.ofString "_twin_re_7") 428) (Value.ref 43)), (DictEntry.mk (PyData.keyHash P (Str.ofString "_twin_re_8")) (Value.str (Str.ofString "_twin_re_8") 566) (Value.ref 48)), (DictEntry.mk (PyData.keyHash P (Str.ofString "SelectorError")) (Value.str (Str.ofString "SelectorError") 586) (Value.ref 58)), (DictEntry.mk (PyData.keyHash P (Str.ofString "SelectorSyntaxError")) (Value.str (Str.ofString "SelectorSyntaxError") 602) (Value.ref 71)), (DictEntry.mk (PyData.keyHash P (Str.ofString "Token")) (Value.str (Str.ofString "Token") 670) (Value.ref 127)), (DictEntry.mk (PyData.keyHash P (Str.ofString "EOFToken")) (Value.str (Str.ofString "EOFToken") 702) (Value.ref 155)), (DictEntry.mk (PyData.keyHash P (Str.ofString "_match_whitespace")) (Value.str (Str.ofString "_match_whitespace") 731) (Value.ref 163)), (DictEntry.mk (PyData.keyHash P (Str.ofString "_match_number")) (Value.str (Str.ofString "_match_number") 798) (Value.ref 168)), (DictEntry.mk (PyData.keyHash P (Str.ofString "_match_hash")) (Value.str (Str.ofString "_match_hash") 1086) (Value.ref 173)), (DictEntry.mk (PyData.keyHash P (Str.ofString "_match_ident")) (Value.str (Str.ofString "_match_ident") 1640) (Value.ref 178)), (DictEntry.mk (PyData.keyHash P (Str.ofString "_match_string_by_quote")) (Value.str (Str.ofString "_match_string_by_quote") 1645) (Value.ref 179))] 22) #[])
noncomputable def o199 (P : Params) : Obj := (Obj.mk (Value.type "dict") (Option.none) (Data.dict #[(DictEntry.mk (PyData.keyHash P (Str.ofString "'")) (Value.str (Str.ofString "'") 1641) (Value.ref 43)), (DictEntry.mk (PyData.keyHash P (Str.ofString "\"")) (Value.str (Str.ofString "\"") 1642) (Value.ref 48))] 2) #[])
noncomputable def t11 (P : Params) : BT := (.node (o0 P) (.node (o1 P) (.node (o198 P) (.node (o7 P) (.node (o15 P) (.node (o31 P) (.node (o73 P) (.node (o146 P) .nil .nil) .nil) (.node (o107 P) (.node (o175 P) .nil .nil) .nil)) (.node (o51 P) (.node (o91 P) (.node (o158 P) .nil .nil) .nil) (.node (o123 P) (.node (o194 P) .nil .nil) .nil))) (.node (o23 P) (.node (o42 P) (.node (o81 P) (.node (o150 P) .nil .nil) .nil) (.node (o115 P) (.node (o184 P) .nil .nil) .nil)) (.node (o62 P) (.node (o99 P) (.node (o166 P) .nil .nil) .nil) (.node (o131 P) .nil .nil)))) (.node (o11 P) (.node (o19 P) (.node (o37 P) (.node (o77 P) (.node (o143 P) .nil .nil) .nil) (.node (o111 P) (.node (o179 P) .nil .nil) .nil)) (.node (o58 P) (.node (o95 P) (.node (o162 P) .nil .nil) .nil) (.node (o127 P) (.node (o199 P) .nil .nil) .nil))) (.node (o27 P) (.node (o46 P) (.node (o87 P) (.node (o154 P) .nil .nil) .nil) (.node (o119 P) (.node (o189 P) .nil .nil) .nil)) (.node (o66 P) (.node (o103 P) (.node (o170 P) .nil .nil) .nil) (.node (o135 P) .nil .nil))))) (.node (o5 P) (.node (o9 P) (.node (o17 P) (.node (o35 P) (.node (o75 P) (.node (o141 P) .nil .nil) .nil) (.node (o109 P) (.node (o177 P) .nil .nil) .nil)) (.node (o56 P) (.node (o93 P) (.node (o160 P) .nil .nil) .nil) (.node (o125 P) (.node (o196 P) .nil .nil) .nil))) (.node (o25 P) (.node (o44 P) (.node (o83 P) (.node (o152 P) .nil .nil) .nil) (.node (o117 P) (.node (o187 P) .nil .nil) .nil)) (.node (o64 P) (.node (o101 P) (.node (o168 P) .nil .nil) .nil) (.node (o133 P) .nil .nil)))) (.node (o13 P) (.node (o21 P) (.node (o39 P) (.node (o79 P) (.node (o148 P) .nil .nil) .nil) (.node (o113 P) (.node (o182 P) .nil .nil) .nil)) (.node (o60 P) (.node (o97 P) (.node (o164 P) .nil .nil) .nil) (.node (o129 P) .nil .nil))) (.node (o145 P) (.node (o49 P) (.node (o89 P) (.node (o156 P) .nil .nil) .nil) (.node (o121 P) (.node (o191 P) .nil .nil) .nil)) (.node (o68 P) (.node (o105 P) (.node (o172 P) .nil .nil) .nil) (.node (o137 P) .nil .nil)))))) (.node (o53 P) (.node (o4 P) (.node (o8 P) (.node (o16 P) (.node (o34 P) (.node (o74 P) (.node (o140 P) .nil .nil) .nil) (.node (o108 P) (.node (o176 P) .nil .nil) .nil)) (.node (o52 P) (.node (o92 P) (.node (o159 P) .nil .nil) .nil) (.node (o124 P) (.node (o195 P) .nil .nil) .nil))) (.node (o24 P) (.node (o43 P) (.node (o82 P) (.node (o151 P) .nil .nil) .nil) (.node (o116 P) (.node (o185 P) .nil .nil) .nil)) (.node (o63 P) (.node (o100 P) (.node (o167 P) .nil .nil) .nil) (.node (o132 P) .nil .nil)))) (.node (o12 P) (.node (o20 P) (.node (o38 P) (.node (o78 P) (.node (o147 P) .nil .nil) .nil) (.node (o112 P) (.node (o181 P) .nil .nil) .nil)) (.node (o59 P) (.node (o96 P) (.node (o163 P) .nil .nil) .nil) (.node (o128 P) .nil .nil))) (.node (o28 P) (.node (o48 P) (.node (o88 P) (.node (o155 P) .nil .nil) .nil) (.node (o120 P) (.node (o190 P) .nil .nil) .nil)) (.node (o67 P) (.node (o104 P) (.node (o171 P) .nil .nil) .nil) (.node (o136 P) .nil .nil))))) (.node (o6 P) (.node (o10 P) (.node (o18 P) (.node (o36 P) (.node (o76 P) (.node (o142 P) .nil .nil) .nil) (.node (o110 P) (.node (o178 P) .nil .nil) .nil)) (.node (o57 P) (.node (o94 P) (.node (o161 P) .nil .nil) .nil) (.node (o126 P) (.node (o197 P) .nil .nil) .nil))) (.node (o26 P) (.node (o45 P) (.node (o86 P) (.node (o153 P) .nil .nil) .nil) (.node (o118 P) (.node (o188 P) .nil .nil) .nil)) (.node (o71 P) (.node (o102 P) (.node (o169 P) .nil .nil) .nil) (.node (o134 P) .nil .nil)))) (.node (o14 P) (.node (o22 P) (.node (o40 P) (.node (o80 P) (.node (o149 P) .nil .nil) .nil) (.node (o114 P) (.node (o183 P) .nil .nil) .nil)) (.node (o61 P) (.node (o98 P) (.node (o165 P) .nil .nil) .nil) (.node (o130 P) .nil .nil))) (.node (o30 P) (.node (o50 P) (.node (o90 P) (.node (o157 P) .nil .nil) .nil) (.node (o122 P) (.node (o193 P) .nil .nil) .nil)) (.node (o72 P) (.node (o106 P) (.node (o173 P) .nil .nil) .nil) (.node (o138 P) .nil .nil)))))))
noncomputable def s11 (w : World) (os : OsState) : SharedT := ⟨t11 w.params, 180, (Life.mk [] [] [] 0 [] [] @Bool.false #[] [] 0 @Bool.false @Bool.false @Bool.false (0 : Int) [(2000 : Int), (10 : Int), (10 : Int)] @Bool.false 0 @Bool.true [] [] 0 @Bool.false), #[], ⟨0, 0, 0, 0⟩, 1646, os⟩
noncomputable def o200 (P : Params) : Obj := (Obj.mk (Value.type "dict") (Option.none) (Data.dict #[(DictEntry.mk (PyData.keyHash P (Str.ofString "__name__")) (Value.str (Str.ofString "__name__") 165) (Value.str (Str.ofString "cssselect.parser") 289)), (DictEntry.mk (PyData.keyHash P (Str.ofString "__doc__")) (Value.str (Str.ofString "__doc__") 166) @PySem.Value.none), (DictEntry.mk (PyData.keyHash P (Str.ofString "__package__")) (Value.str (Str.ofString "__package__") 167) @PySem.Value.none), (DictEntry.mk (PyData.keyHash P (Str.ofString "__loader__")) (Value.str (Str.ofString "__loader__") 168) (Value.builtin "__main__.__loader__#opaque")), (DictEntry.mk (PyData.keyHash P (Str.ofString "__spec__")) (Value.str (Str.ofString "__spec__") 169) @PySem.Value.none), (DictEntry.mk (PyData.keyHash P (Str.ofString "__annotations__")) (Value.str (Str.ofString "__annotations__") 170) (Value.ref 6)), (DictEntry.mk (PyData.keyHash P (Str.ofString "__builtins__")) (Value.str (Str.ofString "__builtins__") 171) (Value.ref 4)), (DictEntry.mk (PyData.keyHash P (Str.ofString "__file__")) (Value.str (Str.ofString "__file__") 173) (Value.str (Str.ofString "/claim/cut.py") 172)), (DictEntry.mk (PyData.keyHash P (Str.ofString "__cached__")) (Value.str (Str.ofString "__cached__") 174) @PySem.Value.none), (DictEntry.mk (PyData.keyHash P (Str.ofString "_sre")) (Value.str (Str.ofString "_sre") 275) (Value.ref 12)), (DictEntry.mk (PyData.keyHash P (Str.ofString "_wall")) (Value.str (Str.ofString "_wall") 288) (Value.ref 38)), (DictEntry.mk (PyData.keyHash P (Str.ofString "_twin_re_7")) (Value.str (Str.ofString "_twin_re_7") 428) (Value.ref 43)), (DictEntry.mk (PyData.keyHash P (Str.ofString "_twin_re_8")) (Value.str (Str.ofString "_twin_re_8") 566) (Value.ref 48)), (DictEntry.mk (PyData.keyHash P (Str.ofString "SelectorError")) (Value.str (Str.ofString "SelectorError") 586) (Value.ref 58)), (DictEntry.mk (PyData.keyHash P (Str.ofString "SelectorSyntaxError")) (Value.str (Str.ofString "SelectorSyntaxError") 602) (Value.ref 71)), (DictEntry.mk (PyData.keyHash P (Str.ofString "Token")) (Value.str (Str.ofString "Token") 670) (Value.ref 127)), (DictEntry.mk (PyData.keyHash P (Str.ofString "EOFToken")) (Value.str (Str.ofString "EOFToken") 702) (Value.ref 155)), (DictEntry.mk (PyData.keyHash P (Str.ofString "_match_whitespace")) (Value.str (Str.ofString "_match_whitespace") 731) (Value.ref 163)), (DictEntry.mk (PyData.keyHash P (Str.ofString "_match_number")) (Value.str (Str.ofString "_match_number") 798) (Value.ref 168)), (DictEntry.mk (PyData.keyHash P (Str.ofString "_match_hash")) (Value.str (Str.ofString "_match_hash") 1086) (Value.ref 173)), (DictEntry.mk (PyData.keyHash P (Str.ofString "_match_ident")) (Value.str (Str.ofString "_match_ident") 1640) (Value.ref 178)), (DictEntry.mk (PyData.keyHash P (Str.ofString "_match_string_by_quote")) (Value.str (Str.ofString "_match_string_by_quote") 1645) (Value.ref 179)), (DictEntry.mk (PyData.keyHash P (Str.ofString "_unicode_escape")) (Value.str (Str.ofString "_unicode_escape") 1710) (Value.ref 184))] 23) #[])
noncomputable def o201 (P : Params) : Obj := (Obj.mk (Value.type "list") (Option.none) (Data.seq (litA 14 1649) 0) #[])
noncomputable def o202 (P : Params) : Obj := (Obj.mk (Value.type "dict") (Option.none) (Data.dict #[] 0) #[])
noncomputable def o203 (P : Params) : Obj := (Obj.mk (Value.type "tuple") (Option.none) (Data.seq #[@PySem.Value.none, @PySem.Value.none] 0) #[])
noncomputable def o204 (P : Params) : Obj := (Obj.mk (Value.type "tuple") (Option.none) (Data.seq (tupA 14) 0) #[])
noncomputable def o205 (P : Params) : Obj := (Obj.mk (Value.type "re.Pattern") (Option.none) (Data.fields #[(Value.str (patS (fd 14)) 1647), (Value.int (34 : Int) 1709), (Value.int (1 : Int) 0), @PySem.Value.none, @PySem.Value.none, (Value.ref 183), (Value.int (0 : Int) 0)]) #[])
noncomputable def t12 (P : Params) : BT := (.node (o0 P) (.node (o1 P) (.node (o200 P) (.node (o7 P) (.node (o15 P) (.node (o31 P) (.node (o73 P) (.node (o146 P) .nil .nil) .nil) (.node (o107 P) (.node (o175 P) .nil .nil) .nil)) (.node (o51 P) (.node (o91 P) (.node (o158 P) .nil .nil) .nil) (.node (o123 P) (.node (o194 P) .nil .nil) .nil))) (.node (o23 P) (.node (o42 P) (.node (o81 P) (.node (o150 P) .nil .nil) .nil) (.node (o115 P) (.node (o184 P) .nil .nil) .nil)) (.node (o62 P) (.node (o99 P) (.node (o166 P) .nil .nil) .nil) (.node (o131 P) (.node (o204 P) .nil .nil) .nil)))) (.node (o11 P) (.node (o19 P) (.node (o37 P) (.node (o77 P) (.node (o143 P) .nil .nil) .nil) (.node (o111 P) (.node (o179 P) .nil .nil) .nil)) (.node (o58 P) (.node (o95 P) (.node (o162 P) .nil .nil) .nil) (.node (o127 P) (.node (o199 P) .nil .nil) .nil))) (.node (o27 P) (.node (o46 P) (.node (o87 P) (.node (o154 P) .nil .nil) .nil) (.node (o119 P) (.node (o189 P) .nil .nil) .nil)) (.node (o66 P) (.node (o103 P) (.node (o170 P) .nil .nil) .nil) (.node (o135 P) .nil .nil))))) (.node (o5 P) (.node (o9 P) (.node (o17 P) (.node (o35 P) (.node (o75 P) (.node (o141 P) .nil .nil) .nil) (.node (o109 P) (.node (o177 P) .nil .nil) .nil)) (.node (o56 P) (.node (o93 P) (.node (o160 P) .nil .nil) .nil) (.node (o125 P) (.node (o196 P) .nil .nil) .nil))) (.node (o25 P) (.node (o44 P) (.node (o83 P) (.node (o152 P) .nil .nil) .nil) (.node (o117 P) (.node (o187 P) .nil .nil) .nil)) (.node (o64 P) (.node (o101 P) (.node (o168 P) .nil .nil) .nil) (.node (o133 P) .nil .nil)))) (.node (o13 P) (.node (o21 P) (.node (o39 P) (.node (o79 P) (.node (o148 P) .nil .nil) .nil) (.node (o113 P) (.node (o182 P) .nil .nil) .nil)) (.node (o60 P) (.node (o97 P) (.node (o164 P) .nil .nil) .nil) (.node (o129 P) (.node (o202 P) .nil .nil) .nil))) (.node (o145 P) (.node (o49 P) (.node (o89 P) (.node (o156 P) .nil .nil) .nil) (.node (o121 P) (.node (o191 P) .nil .nil) .nil)) (.node (o68 P) (.node (o105 P) (.node (o172 P) .nil .nil) .nil) (.node (o137 P) .nil .nil)))))) (.node (o53 P) (.node (o4 P) (.node (o8 P) (.node (o16 P) (.node (o34 P) (.node (o74 P) (.node (o140 P) .nil .nil) .nil) (.node (o108 P) (.node (o176 P) .nil .nil) .nil)) (.node (o52 P) (.node (o92 P) (.node (o159 P) .nil .nil) .nil) (.node (o124 P) (.node (o195 P) .nil .nil) .nil))) (.node (o24 P) (.node (o43 P) (.node (o82 P) (.node (o151 P) .nil .nil) .nil) (.node (o116 P) (.node (o185 P) .nil .nil) .nil)) (.node (o63 P) (.node (o100 P) (.node (o167 P) .nil .nil) .nil) (.node (o132 P) (.node (o205 P) .nil .nil) .nil)))) (.node (o12 P) (.node (o20 P) (.node (o38 P) (.node (o78 P) (.node (o147 P) .nil .nil) .nil) (.node (o112 P) (.node (o181 P) .nil .nil) .nil)) (.node (o59 P) (.node (o96 P) (.node (o163 P) .nil .nil) .nil) (.node (o128 P) (.node (o201 P) .nil .nil) .nil))) (.node (o28 P) (.node (o48 P) (.node (o88 P) (.node (o155 P) .nil .nil) .nil) (.node (o120 P) (.node (o190 P) .nil .nil) .nil)) (.node (o67 P) (.node (o104 P) (.node (o171 P) .nil .nil) .nil) (.node (o136 P) .nil .nil))))) (.node (o6 P) (.node (o10 P) (.node (o18 P) (.node (o36 P) (.node (o76 P) (.node (o142 P) .nil .nil) .nil) (.node (o110 P) (.node (o178 P) .nil .nil) .nil)) (.node (o57 P) (.node (o94 P) (.node (o161 P) .nil .nil) .nil) (.node (o126 P) (.node (o197 P) .nil .nil) .nil))) (.node (o26 P) (.node (o45 P) (.node (o86 P) (.node (o153 P) .nil .nil) .nil) (.node (o118 P) (.node (o188 P) .nil .nil) .nil)) (.node (o71 P) (.node (o102 P) (.node (o169 P) .nil .nil) .nil) (.node (o134 P) .nil .nil)))) (.node (o14 P) (.node (o22 P) (.node (o40 P) (.node (o80 P) (.node (o149 P) .nil .nil) .nil) (.node (o114 P) (.node (o183 P) .nil .nil) .nil)) (.node (o61 P) (.node (o98 P) (.node (o165 P) .nil .nil) .nil) (.node (o130 P) (.node (o203 P) .nil .nil) .nil))) (.node (o30 P) (.node (o50 P) (.node (o90 P) (.node (o157 P) .nil .nil) .nil) (.node (o122 P) (.node (o193 P) .nil .nil) .nil)) (.node (o72 P) (.node (o106 P) (.node (o173 P) .nil .nil) .nil) (.node (o138 P) .nil .nil)))))))
noncomputable def s12 (w : World) (os : OsState) : SharedT := ⟨t12 w.params, 185, (Life.mk [] [] [] 0 [] [] @Bool.false #[] [] 0 @Bool.false @Bool.false @Bool.false (0 : Int) [(2000 : Int), (10 : Int), (10 : Int)] @Bool.false 0 @Bool.true [] [] 0 @Bool.false), #[], ⟨0, 0, 0, 0⟩, 1711, os⟩
noncomputable def o206 (P : Params) : Obj := (Obj.mk (Value.type "dict") (Option.none) (Data.dict #[(DictEntry.mk (PyData.keyHash P (Str.ofString "__name__")) (Value.str (Str.ofString "__name__") 165) (Value.str (Str.ofString "cssselect.parser") 289)), (DictEntry.mk (PyData.keyHash P (Str.ofString "__doc__")) (Value.str (Str.ofString "__doc__") 166) @PySem.Value.none), (DictEntry.mk (PyData.keyHash P (Str.ofString "__package__")) (Value.str (Str.ofString "__package__") 167) @PySem.Value.none), (DictEntry.mk (PyData.keyHash P (Str.ofString "__loader__")) (Value.str (Str.ofString "__loader__") 168) (Value.builtin "__main__.__loader__#opaque")), (DictEntry.mk (PyData.keyHash P (Str.ofString "__spec__")) (Value.str (Str.ofString "__spec__") 169) @PySem.Value.none), (DictEntry.mk (PyData.keyHash P (Str.ofString "__annotations__")) (Value.str (Str.ofString "__annotations__") 170) (Value.ref 6)), (DictEntry.mk (PyData.keyHash P (Str.ofString "__builtins__")) (Value.str (Str.ofString "__builtins__") 171) (Value.ref 4)), (DictEntry.mk (PyData.keyHash P (Str.ofString "__file__")) (Value.str (Str.ofString "__file__") 173) (Value.str (Str.ofString "/claim/cut.py") 172)), (DictEntry.mk (PyData.keyHash P (Str.ofString "__cached__")) (Value.str (Str.ofString "__cached__") 174) @PySem.Value.none), (DictEntry.mk (PyData.keyHash P (Str.ofString "_sre")) (Value.str (Str.ofString "_sre") 275) (Value.ref 12)), (DictEntry.mk (PyData.keyHash P (Str.ofString "_wall")) (Value.str (Str.ofString "_wall") 288) (Value.ref 38)), (DictEntry.mk (PyData.keyHash P (Str.ofString "_twin_re_7")) (Value.str (Str.ofString "_twin_re_7") 428) (Value.ref 43)), (DictEntry.mk (PyData.keyHash P (Str.ofString "_twin_re_8")) (Value.str (Str.ofString "_twin_re_8") 566) (Value.ref 48)), (DictEntry.mk (PyData.keyHash P (Str.ofString "SelectorError")) (Value.str (Str.ofString "SelectorError") 586) (Value.ref 58)), (DictEntry.mk (PyData.keyHash P (Str.ofString "SelectorSyntaxError")) (Value.str (Str.ofString "SelectorSyntaxError") 602) (Value.ref 71)), (DictEntry.mk (PyData.keyHash P (Str.ofString "Token")) (Value.str (Str.ofString "Token") 670) (Value.ref 127)), (DictEntry.mk (PyData.keyHash P (Str.ofString "EOFToken")) (Value.str (Str.ofString "EOFToken") 702) (Value.ref 155)), (DictEntry.mk (PyData.keyHash P (Str.ofString "_match_whitespace")) (Value.str (Str.ofString "_match_whitespace") 731) (Value.ref 163)), (DictEntry.mk (PyData.keyHash P (Str.ofString "_match_number")) (Value.str (Str.ofString "_match_number") 798) (Value.ref 168)), (DictEntry.mk (PyData.keyHash P (Str.ofString "_match_hash")) (Value.str (Str.ofString "_match_hash") 1086) (Value.ref 173)), (DictEntry.mk (PyData.keyHash P (Str.ofString "_match_ident")) (Value.str (Str.ofString "_match_ident") 1640) (Value.ref 178)), (DictEntry.mk (PyData.keyHash P (Str.ofString "_match_string_by_quote")) (Value.str (Str.ofString "_match_string_by_quote") 1645) (Value.ref 179)), (DictEntry.mk (PyData.keyHash P (Str.ofString "_unicode_escape")) (Value.str (Str.ofString "_unicode_escape") 1710) (Value.ref 184)), (DictEntry.mk (PyData.keyHash P (Str.ofString "_newline_escape")) (Value.str (Str.ofString "_newline_escape") 1752) (Value.ref 189))] 24) #[])
noncomputable def o207 (P : Params) : Obj := (Obj.mk (Value.type "list") (Option.none) (Data.seq (litA 15 1714) 0) #[])
noncomputable def o208 (P : Params) : Obj := (Obj.mk (Value.type "dict") (Option.none) (Data.dict #[] 0) #[])
noncomputable def o209 (P : Params) : Obj := (Obj.mk (Value.type "tuple") (Option.none) (Data.seq #[@PySem.Value.none] 0) #[])
noncomputable def o210 (P : Params) : Obj := (Obj.mk (Value.type "tuple") (Option.none) (Data.seq (tupA 15) 0) #[])
noncomputable def o211 (P : Params) : Obj := (Obj.mk (Value.type "re.Pattern") (Option.none) (Data.fields #[(Value.str (patS (fd 15)) 1712), (Value.int (32 : Int) 1751), (Value.int (0 : Int) 0), @PySem.Value.none, @PySem.Value.none, (Value.ref 188), (Value.int (0 : Int) 0)]) #[])
noncomputable def t13 (P : Params) : BT := (.node (o0 P) (.node (o1 P) (.node (o206 P) (.node (o7 P) (.node (o15 P) (.node (o31 P) (.node (o73 P) (.node (o146 P) .nil .nil) .nil) (.node (o107 P) (.node (o175 P) .nil .nil) .nil)) (.node (o51 P) (.node (o91 P) (.node (o158 P) .nil .nil) .nil) (.node (o123 P) (.node (o194 P) .nil .nil) .nil))) (.node (o23 P) (.node (o42 P) (.node (o81 P) (.node (o150 P) .nil .nil) .nil) (.node (o115 P) (.node (o184 P) .nil .nil) .nil)) (.node (o62 P) (.node (o99 P) (.node (o166 P) .nil .nil) .nil) (.node (o131 P) (.node (o204 P) .nil .nil) .nil)))) (.node (o11 P) (.node (o19 P) (.node (o37 P) (.node (o77 P) (.node (o143 P) .nil .nil) .nil) (.node (o111 P) (.node (o179 P) .nil .nil) .nil)) (.node (o58 P) (.node (o95 P) (.node (o162 P) .nil .nil) .nil) (.node (o127 P) (.node (o199 P) .nil .nil) .nil))) (.node (o27 P) (.node (o46 P) (.node (o87 P) (.node (o154 P) .nil .nil) .nil) (.node (o119 P) (.node (o189 P) .nil .nil) .nil)) (.node (o66 P) (.node (o103 P) (.node (o170 P) .nil .nil) .nil) (.node (o135 P) (.node (o209 P) .nil .nil) .nil))))) (.node (o5 P) (.node (o9 P) (.node (o17 P) (.node (o35 P) (.node (o75 P) (.node (o141 P) .nil .nil) .nil) (.node (o109 P) (.node (o177 P) .nil .nil) .nil)) (.node (o56 P) (.node (o93 P) (.node (o160 P) .nil .nil) .nil) (.node (o125 P) (.node (o196 P) .nil .nil) .nil))) (.node (o25 P) (.node (o44 P) (.node (o83 P) (.node (o152 P) .nil .nil) .nil) (.node (o117 P) (.node (o187 P) .nil .nil) .nil)) (.node (o64 P) (.node (o101 P) (.node (o168 P) .nil .nil) .nil) (.node (o133 P) (.node (o207 P) .nil .nil) .nil)))) (.node (o13 P) (.node (o21 P) (.node (o39 P) (.node (o79 P) (.node (o148 P) .nil .nil) .nil) (.node (o113 P) (.node (o182 P) .nil .nil) .nil)) (.node (o60 P) (.node (o97 P) (.node (o164 P) .nil .nil) .nil) (.node (o129 P) (.node (o202 P) .nil .nil) .nil))) (.node (o145 P) (.node (o49 P) (.node (o89 P) (.node (o156 P) .nil .nil) .nil) (.node (o121 P) (.node (o191 P) .nil .nil) .nil)) (.node (o68 P) (.node (o105 P) (.node (o172 P) .nil .nil) .nil) (.node (o137 P) (.node (o211 P) .nil .nil) .nil)))))) (.node (o53 P) (.node (o4 P) (.node (o8 P) (.node (o16 P) (.node (o34 P) (.node (o74 P) (.node (o140 P) .nil .nil) .nil) (.node (o108 P) (.node (o176 P) .nil .nil) .nil)) (.node (o52 P) (.node (o92 P) (.node (o159 P) .nil .nil) .nil) (.node (o124 P) (.node (o195 P) .nil .nil) .nil))) (.node (o24 P) (.node (o43 P) (.node (o82 P) (.node (o151 P) .nil .nil) .nil) (.node (o116 P) (.node (o185 P) .nil .nil) .nil)) (.node (o63 P) (.node (o100 P) (.node (o167 P) .nil .nil) .nil) (.node (o132 P) (.node (o205 P) .nil .nil) .nil)))) (.node (o12 P) (.node (o20 P) (.node (o38 P) (.node (o78 P) (.node (o147 P) .nil .nil) .nil) (.node (o112 P) (.node (o181 P) .nil .nil) .nil)) (.node (o59 P) (.node (o96 P) (.node (o163 P) .nil .nil) .nil) (.node (o128 P) (.node (o201 P) .nil .nil) .nil))) (.node (o28 P) (.node (o48 P) (.node (o88 P) (.node (o155 P) .nil .nil) .nil) (.node (o120 P) (.node (o190 P) .nil .nil) .nil)) (.node (o67 P) (.node (o104 P) (.node (o171 P) .nil .nil) .nil) (.node (o136 P) (.node (o210 P) .nil .nil) .nil))))) (.node (o6 P) (.node (o10 P) (.node (o18 P) (.node (o36 P) (.node (o76 P) (.node (o142 P) .nil .nil) .nil) (.node (o110 P) (.node (o178 P) .nil .nil) .nil)) (.node (o57 P) (.node (o94 P) (.node (o161 P) .nil .nil) .nil) (.node (o126 P) (.node (o197 P) .nil .nil) .nil))) (.node (o26 P) (.node (o45 P) (.node (o86 P) (.node (o153 P) .nil .nil) .nil) (.node (o118 P) (.node (o188 P) .nil .nil) .nil)) (.node (o71 P) (.node (o102 P) (.node (o169 P) .nil .nil) .nil) (.node (o134 P) (.node (o208 P) .nil .nil) .nil)))) (.node (o14 P) (.node (o22 P) (.node (o40 P) (.node (o80 P) (.node (o149 P) .nil .nil) .nil) (.node (o114 P) (.node (o183 P) .nil .nil) .nil)) (.node (o61 P) (.node (o98 P) (.node (o165 P) .nil .nil) .nil) (.node (o130 P) (.node (o203 P) .nil .nil) .nil))) (.node (o30 P) (.node (o50 P) (.node (o90 P) (.node (o157 P) .nil .nil) .nil) (.node (o122 P) (.node (o193 P) .nil .nil) .nil)) (.node (o72 P) (.node (o106 P) (.node (o173 P) .nil .nil) .nil) (.node (o138 P) .nil .nil)))))))
noncomputable def s13 (w : World) (os : OsState) : SharedT := ⟨t13 w.params, 190, (Life.mk [] [] [] 0 [] [] @Bool.false #[] [] 0 @Bool.false @Bool.false @Bool.false (0 : Int) [(2000 : Int), (10 : Int), (10 : Int)] @Bool.false 0 @Bool.true [] [] 0 @Bool.false), #[], ⟨0, 0, 0, 0⟩, 1753, os⟩
noncomputable def o212 (P : Params) : Obj := (Obj.mk (Value.type "dict") (Option.none) (Data.dict #[(DictEntry.mk (PyData.keyHash P (Str.ofString "__name__")) (Value.str (Str.ofString "__name__") 165) (Value.str (Str.ofString "cssselect.parser") 289)), (DictEntry.mk (PyData.keyHash P (Str.ofString "__doc__")) (Value.str (Str.ofString "__doc__") 166) @PySem.Value.none), (DictEntry.mk (PyData.keyHash P (Str.ofString "__package__")) (Value.str (Str.ofString "__package__") 167) @PySem.Value.none), (DictEntry.mk (PyData.keyHash P (Str.ofString "__loader__")) (Value.str (Str.ofString "__loader__") 168) (Value.builtin "__main__.__loader__#opaque")), (DictEntry.mk (PyData.keyHash P (Str.ofString "__spec__")) (Value.str (Str.ofString "__spec__") 169) @PySem.Value.none), (DictEntry.mk (PyData.keyHash P (Str.ofString "__annotations__")) (Value.str (Str.ofString "__annotations__") 170) (Value.ref 6)), (DictEntry.mk (PyData.keyHash P (Str.ofString "__builtins__")) (Value.str (Str.ofString "__builtins__") 171) (Value.ref 4)), (DictEntry.mk (PyData.keyHash P (Str.ofString "__file__")) (Value.str (Str.ofString "__file__") 173) (Value.str (Str.ofString "/claim/cut.py") 172)), (DictEntry.mk (PyData.keyHash P (Str.ofString "__cached__")) (Value.str (Str.ofString "__cached__") 174) @PySem.Value.none), (DictEntry.mk (PyData.keyHash P (Str.ofString "_sre")) (Value.str (Str.ofString "_sre") 275) (Value.ref 12)), (DictEntry.mk (PyData.keyHash P (Str.ofString "_wall")) (Value.str (Str.ofString "_wall") 288) (Value.ref 38)), (DictEntry.mk (PyData.keyHash P (Str.ofString "_twin_re_7")) (Value.str (Str.ofString "_twin_re_7") 428) (Value.ref 43)), (DictEntry.mk (PyData.keyHash P (Str.ofString "_twin_re_8")) (Value.str (Str.ofString "_twin_re_8") 566) (Value.ref 48)), (DictEntry.mk (PyData.keyHash P (Str.ofString "SelectorError")) (Value.str (Str.ofString "SelectorError") 586) (Value.ref 58)), (DictEntry.mk (PyData.keyHash P (Str.ofString "SelectorSyntaxError")) (Value.str (Str.ofString "SelectorSyntaxError") 602) (Value.ref 71)), (DictEntry.mk (PyData.keyHash P (Str.ofString "Token")) (Value.str (Str.ofString "Token") 670) (Value.ref 127)), (DictEntry.mk (PyData.keyHash P (Str.ofString "EOFToken")) (Value.str (Str.ofString "EOFToken") 702) (Value.ref 155)), (DictEntry.mk (PyData.keyHash P (Str.ofString "_match_whitespace")) (Value.str (Str.ofString "_match_whitespace") 731) (Value.ref 163)), (DictEntry.mk (PyData.keyHash P (Str.ofString "_match_number")) (Value.str (Str.ofString "_match_number") 798) (Value.ref 168)), (DictEntry.mk (PyData.keyHash P (Str.ofString "_match_hash")) (Value.str (Str.ofString "_match_hash") 1086) (Value.ref 173)), (DictEntry.mk (PyData.keyHash P (Str.ofString "_match_ident")) (Value.str (Str.ofString "_match_ident") 1640) (Value.ref 178)), (DictEntry.mk (PyData.keyHash P (Str.ofString "_match_string_by_quote")) (Value.str (Str.ofString "_match_string_by_quote") 1645) (Value.ref 179)), (DictEntry.mk (PyData.keyHash P (Str.ofString "_unicode_escape")) (Value.str (Str.ofString "_unicode_escape") 1710) (Value.ref 184)), (DictEntry.mk (PyData.keyHash P (Str.ofString "_newline_escape")) (Value.str (Str.ofString "_newline_escape") 1752) (Value.ref 189)), (DictEntry.mk (PyData.keyHash P (Str.ofString "_replace_unicode")) (Value.str (Str.ofString "_replace_unicode") 1760) (Value.ref 196)), (DictEntry.mk (PyData.keyHash P (Str.ofString "_sub_unicode_escape")) (Value.str (Str.ofString "_sub_unicode_escape") 1770) (Value.ref 203)), (DictEntry.mk (PyData.keyHash P (Str.ofString "_sub_simple_escape")) (Value.str (Str.ofString "_sub_simple_escape") 1779) (Value.ref 210)), (DictEntry.mk (PyData.keyHash P (Str.ofString "unescape_ident")) (Value.str (Str.ofString "unescape_ident") 1786) (Value.ref 217))] 28) #[])
noncomputable def o213 (P : Params) : Obj := (Obj.mk @PySem.Value.none (Option.none) (Data.fields #[(Value.int (2 : Int) 0), (Value.int (0 : Int) 0), (Value.ref 37), (Value.int (8 : Int) 0), (Value.int (0 : Int) 0), (Value.ref 54), (Value.int (10 : Int) 0), (Value.int (0 : Int) 0), (Value.ref 67), (Value.int (12 : Int) 0), (Value.int (0 : Int) 0), (Value.ref 79), (Value.int (35 : Int) 0), (Value.int (0 : Int) 0), (Value.ref 137), (Value.int (49 : Int) 0), (Value.int (0 : Int) 0), (Value.ref 195), (Value.int (54 : Int) 0), (Value.int (0 : Int) 0), (Value.ref 202), (Value.int (61 : Int) 0), (Value.int (0 : Int) 0), (Value.ref 209), (Value.int (69 : Int) 0), (Value.int (0 : Int) 0), (Value.ref 216)]) #[])
noncomputable def o214 (P : Params) : Obj := (Obj.mk (Value.type "tuple") (Option.none) (Data.seq #[] 0) #[])
noncomputable def o215 (P : Params) : Obj := (Obj.mk @PySem.Value.none (Option.none) (Data.fields #[]) #[])
noncomputable def o216 (P : Params) : Obj := (Obj.mk (Value.type "tuple") (Option.none) (Data.seq #[(Value.str (Str.ofString "match") 1756), (Value.str (Str.ofString "codepoint") 1757)] 0) #[])
noncomputable def o217 (P : Params) : Obj := (Obj.mk (Value.type "tuple") (Option.none) (Data.seq #[] 0) #[])
noncomputable def o218 (P : Params) : Obj := (Obj.mk @PySem.Value.none (Option.none) (Data.func (FuncData.mk (Str.ofString "_replace_unicode") (Str.ofString "_replace_unicode") (fArgs (fd 16)) (FuncBody.stmts (fBody (fd 16))) (fScope (fd 16)) 0 [] @PySem.Value.none @PySem.Value.none @PySem.Value.none @PySem.Value.none (Option.none) @PySem.Value.none @PySem.Value.none 0)) #[])
noncomputable def o219 (P : Params) : Obj := (Obj.mk (Value.type "code") (Option.none) (Data.fields #[(Value.str (Str.ofString "_replace_unicode") 1753), (Value.str (Str.ofString "_replace_unicode") 1754), (Value.str (Str.ofString "/claim/cut.py") 1755), (Value.int (49 : Int) 0), (Value.int (1 : Int) 0), (Value.int (0 : Int) 0), (Value.int (0 : Int) 0), (Value.int (3 : Int) 0), (Value.ref 190), (Value.bool @Bool.true), (Value.int (276 : Int) 0), (Value.ref 191), @PySem.Value.none, (Value.ref 192), (Value.ref 193), (Value.ref 194), (Value.int (1758 : Int) 0), (Value.int (49 : Int) 0), (Value.str (Str.ofString "/claim/cut.py") 1759)]) #[])
noncomputable def o220 (P : Params) : Obj := (Obj.mk (Value.type "function") (Option.none) (Data.func (FuncData.mk (Str.ofString "_replace_unicode") (Str.ofString "_replace_unicode") (fArgs (fd 16)) (FuncBody.stmts (fBody (fd 16))) (fScope (fd 16)) 3 [] @PySem.Value.none @PySem.Value.none @PySem.Value.none (Value.str (Str.ofString "cssselect.parser") 289) (Option.none) (Value.ref 195) @PySem.Value.none 0)) #[])
noncomputable def o221 (P : Params) : Obj := (Obj.mk (Value.type "tuple") (Option.none) (Data.seq #[] 0) #[])
noncomputable def o222 (P : Params) : Obj := (Obj.mk @PySem.Value.none (Option.none) (Data.fields #[]) #[])
noncomputable def o223 (P : Params) : Obj := (Obj.mk (Value.type "tuple") (Option.none) (Data.seq #[(Value.str (Str.ofString "value") 1764), (Value.str (Str.ofString "result") 1765), (Value.str (Str.ofString "pos") 1766), (Value.str (Str.ofString "match") 1767)] 0) #[])
noncomputable def o224 (P : Params) : Obj := (Obj.mk (Value.type "tuple") (Option.none) (Data.seq #[] 0) #[])
noncomputable def o225 (P : Params) : Obj := (Obj.mk @PySem.Value.none (Option.none) (Data.func (FuncData.mk (Str.ofString "_sub_unicode_escape") (Str.ofString "_sub_unicode_escape") (fArgs (fd 17)) (FuncBody.stmts (fBody (fd 17))) (fScope (fd 17)) 0 [] @PySem.Value.none @PySem.Value.none @PySem.Value.none @PySem.Value.none (Option.none) @PySem.Value.none @PySem.Value.none 0)) #[])
noncomputable def o226 (P : Params) : Obj := (Obj.mk (Value.type "code") (Option.none) (Data.fields #[(Value.str (Str.ofString "_sub_unicode_escape") 1761), (Value.str (Str.ofString "_sub_unicode_escape") 1762), (Value.str (Str.ofString "/claim/cut.py") 1763), (Value.int (54 : Int) 0), (Value.int (1 : Int) 0), (Value.int (0 : Int) 0), (Value.int (0 : Int) 0), (Value.int (3 : Int) 0), (Value.ref 197), (Value.bool @Bool.true), (Value.int (276 : Int) 0), (Value.ref 198), @PySem.Value.none, (Value.ref 199), (Value.ref 200), (Value.ref 201), (Value.int (1768 : Int) 0), (Value.int (54 : Int) 0), (Value.str (Str.ofString "/claim/cut.py") 1769)]) #[])
noncomputable def o227 (P : Params) : Obj := (Obj.mk (Value.type "function") (Option.none) (Data.func (FuncData.mk (Str.ofString "_sub_unicode_escape") (Str.ofString "_sub_unicode_escape") (fArgs (fd 17)) (FuncBody.stmts (fBody (fd 17))) (fScope (fd 17)) 3 [] @PySem.Value.none @PySem.Value.none @PySem.Value.none (Value.str (Str.ofString "cssselect.parser") 289) (Option.none) (Value.ref 202) @PySem.Value.none 0)) #[])
noncomputable def o228 (P : Params) : Obj := (Obj.mk (Value.type "tuple") (Option.none) (Data.seq #[] 0) #[])
noncomputable def o229 (P : Params) : Obj := (Obj.mk @PySem.Value.none (Option.none) (Data.fields #[]) #[])
noncomputable def o230 (P : Params) : Obj := (Obj.mk (Value.type "tuple") (Option.none) (Data.seq #[(Value.str (Str.ofString "value") 1774), (Value.str (Str.ofString "result") 1775), (Value.str (Str.ofString "pos") 1776)] 0) #[])
noncomputable def o231 (P : Params) : Obj := (Obj.mk (Value.type "tuple") (Option.none) (Data.seq #[] 0) #[])
noncomputable def o232 (P : Params) : Obj := (Obj.mk @PySem.Value.none (Option.none) (Data.func (FuncData.mk (Str.ofString "_sub_simple_escape") (Str.ofString "_sub_simple_escape") (fArgs (fd 18)) (FuncBody.stmts (fBody (fd 18))) (fScope (fd 18)) 0 [] @PySem.Value.none @PySem.Value.none @PySem.Value.none @PySem.Value.none (Option.none) @PySem.Value.none @PySem.Value.none 0)) #[])
noncomputable def o233 (P : Params) : Obj := (Obj.mk (Value.type "code") (Option.none) (Data.fields #[(Value.str (Str.ofString "_sub_simple_escape") 1771), (Value.str (Str.ofString "_sub_simple_escape") 1772), (Value.str (Str.ofString "/claim/cut.py") 1773), (Value.int (61 : Int) 0), (Value.int (1 : Int) 0), (Value.int (0 : Int) 0), (Value.int (0 : Int) 0), (Value.int (3 : Int) 0), (Value.ref 204), (Value.bool @Bool.true), (Value.int (276 : Int) 0), (Value.ref 205), @PySem.Value.none, (Value.ref 206), (Value.ref 207), (Value.ref 208), (Value.int (1777 : Int) 0), (Value.int (61 : Int) 0), (Value.str (Str.ofString "/claim/cut.py") 1778)]) #[])
noncomputable def o234 (P : Params) : Obj := (Obj.mk (Value.type "function") (Option.none) (Data.func (FuncData.mk (Str.ofString "_sub_simple_escape") (Str.ofString "_sub_simple_escape") (fArgs (fd 18)) (FuncBody.stmts (fBody (fd 18))) (fScope (fd 18)) 3 [] @PySem.Value.none @PySem.Value.none @PySem.Value.none (Value.str (Str.ofString "cssselect.parser") 289) (Option.none) (Value.ref 209) @PySem.Value.none 0)) #[])
noncomputable def o235 (P : Params) : Obj := (Obj.mk (Value.type "tuple") (Option.none) (Data.seq #[] 0) #[])
noncomputable def o236 (P : Params) : Obj := (Obj.mk @PySem.Value.none (Option.none) (Data.fields #[]) #[])
noncomputable def o237 (P : Params) : Obj := (Obj.mk (Value.type "tuple") (Option.none) (Data.seq #[(Value.str (Str.ofString "value") 1783)] 0) #[])
noncomputable def o238 (P : Params) : Obj := (Obj.mk (Value.type "tuple") (Option.none) (Data.seq #[] 0) #[])
noncomputable def o239 (P : Params) : Obj := (Obj.mk @PySem.Value.none (Option.none) (Data.func (FuncData.mk (Str.ofString "unescape_ident") (Str.ofString "unescape_ident") (fArgs (fd 19)) (FuncBody.stmts (fBody (fd 19))) (fScope (fd 19)) 0 [] @PySem.Value.none @PySem.Value.none @PySem.Value.none @PySem.Value.none (Option.none) @PySem.Value.none @PySem.Value.none 0)) #[])
noncomputable def o240 (P : Params) : Obj := (Obj.mk (Value.type "code") (Option.none) (Data.fields #[(Value.str (Str.ofString "unescape_ident") 1780), (Value.str (Str.ofString "unescape_ident") 1781), (Value.str (Str.ofString "/claim/cut.py") 1782), (Value.int (69 : Int) 0), (Value.int (1 : Int) 0), (Value.int (0 : Int) 0), (Value.int (0 : Int) 0), (Value.int (3 : Int) 0), (Value.ref 211), (Value.bool @Bool.true), (Value.int (276 : Int) 0), (Value.ref 212), @PySem.Value.none, (Value.ref 213), (Value.ref 214), (Value.ref 215), (Value.int (1784 : Int) 0), (Value.int (69 : Int) 0), (Value.str (Str.ofString "/claim/cut.py") 1785)]) #[])
noncomputable def o241 (P : Params) : Obj := (Obj.mk (Value.type "function") (Option.none) (Data.func (FuncData.mk (Str.ofString "unescape_ident") (Str.ofString "unescape_ident") (fArgs (fd 19)) (FuncBody.stmts (fBody (fd 19))) (fScope (fd 19)) 3 [] @PySem.Value.none @PySem.Value.none @PySem.Value.none (Value.str (Str.ofString "cssselect.parser") 289) (Option.none) (Value.ref 216) @PySem.Value.none 0)) #[])
noncomputable def t14 (P : Params) : BT := (.node (o0 P) (.node (o1 P) (.node (o212 P) (.node (o7 P) (.node (o15 P) (.node (o31 P) (.node (o73 P) (.node (o146 P) .nil .nil) (.node (o215 P) .nil .nil)) (.node (o107 P) (.node (o175 P) .nil .nil) .nil)) (.node (o51 P) (.node (o91 P) (.node (o158 P) .nil .nil) (.node (o231 P) .nil .nil)) (.node (o123 P) (.node (o194 P) .nil .nil) .nil))) (.node (o23 P) (.node (o42 P) (.node (o81 P) (.node (o150 P) .nil .nil) (.node (o223 P) .nil .nil)) (.node (o115 P) (.node (o184 P) .nil .nil) .nil)) (.node (o62 P) (.node (o99 P) (.node (o166 P) .nil .nil) (.node (o239 P) .nil .nil)) (.node (o131 P) (.node (o204 P) .nil .nil) .nil)))) (.node (o11 P) (.node (o19 P) (.node (o37 P) (.node (o77 P) (.node (o143 P) .nil .nil) (.node (o219 P) .nil .nil)) (.node (o111 P) (.node (o179 P) .nil .nil) .nil)) (.node (o58 P) (.node (o95 P) (.node (o162 P) .nil .nil) (.node (o235 P) .nil .nil)) (.node (o127 P) (.node (o199 P) .nil .nil) .nil))) (.node (o27 P) (.node (o46 P) (.node (o87 P) (.node (o154 P) .nil .nil) (.node (o227 P) .nil .nil)) (.node (o119 P) (.node (o189 P) .nil .nil) .nil)) (.node (o66 P) (.node (o103 P) (.node (o170 P) .nil .nil) .nil) (.node (o135 P) (.node (o209 P) .nil .nil) .nil))))) (.node (o5 P) (.node (o9 P) (.node (o17 P) (.node (o35 P) (.node (o75 P) (.node (o141 P) .nil .nil) (.node (o217 P) .nil .nil)) (.node (o109 P) (.node (o177 P) .nil .nil) .nil)) (.node (o56 P) (.node (o93 P) (.node (o160 P) .nil .nil) (.node (o233 P) .nil .nil)) (.node (o125 P) (.node (o196 P) .nil .nil) .nil))) (.node (o25 P) (.node (o44 P) (.node (o83 P) (.node (o152 P) .nil .nil) (.node (o225 P) .nil .nil)) (.node (o117 P) (.node (o187 P) .nil .nil) .nil)) (.node (o64 P) (.node (o101 P) (.node (o168 P) .nil .nil) (.node (o241 P) .nil .nil)) (.node (o133 P) (.node (o207 P) .nil .nil) .nil)))) (.node (o13 P) (.node (o21 P) (.node (o39 P) (.node (o79 P) (.node (o148 P) .nil .nil) (.node (o221 P) .nil .nil)) (.node (o113 P) (.node (o182 P) .nil .nil) .nil)) (.node (o60 P) (.node (o97 P) (.node (o164 P) .nil .nil) (.node (o237 P) .nil .nil)) (.node (o129 P) (.node (o202 P) .nil .nil) .nil))) (.node (o213 P) (.node (o49 P) (.node (o89 P) (.node (o156 P) .nil .nil) (.node (o229 P) .nil .nil)) (.node (o121 P) (.node (o191 P) .nil .nil) .nil)) (.node (o68 P) (.node (o105 P) (.node (o172 P) .nil .nil) .nil) (.node (o137 P) (.node (o211 P) .nil .nil) .nil)))))) (.node (o53 P) (.node (o4 P) (.node (o8 P) (.node (o16 P) (.node (o34 P) (.node (o74 P) (.node (o140 P) .nil .nil) (.node (o216 P) .nil .nil)) (.node (o108 P) (.node (o176 P) .nil .nil) .nil)) (.node (o52 P) (.node (o92 P) (.node (o159 P) .nil .nil) (.node (o232 P) .nil .nil)) (.node (o124 P) (.node (o195 P) .nil .nil) .nil))) (.node (o24 P) (.node (o43 P) (.node (o82 P) (.node (o151 P) .nil .nil) (.node (o224 P) .nil .nil)) (.node (o116 P) (.node (o185 P) .nil .nil) .nil)) (.node (o63 P) (.node (o100 P) (.node (o167 P) .nil .nil) (.node (o240 P) .nil .nil)) (.node (o132 P) (.node (o205 P) .nil .nil) .nil)))) (.node (o12 P) (.node (o20 P) (.node (o38 P) (.node (o78 P) (.node (o147 P) .nil .nil) (.node (o220 P) .nil .nil)) (.node (o112 P) (.node (o181 P) .nil .nil) .nil)) (.node (o59 P) (.node (o96 P) (.node (o163 P) .nil .nil) (.node (o236 P) .nil .nil)) (.node (o128 P) (.node (o201 P) .nil .nil) .nil))) (.node (o28 P) (.node (o48 P) (.node (o88 P) (.node (o155 P) .nil .nil) (.node (o228 P) .nil .nil)) (.node (o120 P) (.node (o190 P) .nil .nil) .nil)) (.node (o67 P) (.node (o104 P) (.node (o171 P) .nil .nil) .nil) (.node (o136 P) (.node (o210 P) .nil .nil) .nil))))) (.node (o6 P) (.node (o10 P) (.node (o18 P) (.node (o36 P) (.node (o76 P) (.node (o142 P) .nil .nil) (.node (o218 P) .nil .nil)) (.node (o110 P) (.node (o178 P) .nil .nil) .nil)) (.node (o57 P) (.node (o94 P) (.node (o161 P) .nil .nil) (.node (o234 P) .nil .nil)) (.node (o126 P) (.node (o197 P) .nil .nil) .nil))) (.node (o26 P) (.node (o45 P) (.node (o86 P) (.node (o153 P) .nil .nil) (.node (o226 P) .nil .nil)) (.node (o118 P) (.node (o188 P) .nil .nil) .nil)) (.node (o71 P) (.node (o102 P) (.node (o169 P) .nil .nil) .nil) (.node (o134 P) (.node (o208 P) .nil .nil) .nil)))) (.node (o14 P) (.node (o22 P) (.node (o40 P) (.node (o80 P) (.node (o149 P) .nil .nil) (.node (o222 P) .nil .nil)) (.node (o114 P) (.node (o183 P) .nil .nil) .nil)) (.node (o61 P) (.node (o98 P) (.node (o165 P) .nil .nil) (.node (o238 P) .nil .nil)) (.node (o130 P) (.node (o203 P) .nil .nil) .nil))) (.node (o30 P) (.node (o50 P) (.node (o90 P) (.node (o157 P) .nil .nil) (.node (o230 P) .nil .nil)) (.node (o122 P) (.node (o193 P) .nil .nil) .nil)) (.node (o72 P) (.node (o106 P) (.node (o173 P) .nil .nil) .nil) (.node (o138 P) (.node (o214 P) .nil .nil) .nil)))))))
noncomputable def s14 (w : World) (os : OsState) : SharedT := ⟨t14 w.params, 218, (Life.mk [] [] [] 0 [] [] @Bool.false #[] [] 0 @Bool.false @Bool.false @Bool.false (0 : Int) [(2000 : Int), (10 : Int), (10 : Int)] @Bool.false 0 @Bool.true [] [] 0 @Bool.false), #[], ⟨0, 0, 0, 0⟩, 1787, os⟩
noncomputable def o242 (P : Params) : Obj := (Obj.mk (Value.type "dict") (Option.none) (Data.dict #[(DictEntry.mk (PyData.keyHash P (Str.ofString "__name__")) (Value.str (Str.ofString "__name__") 165) (Value.str (Str.ofString "law_vu0001_01") 1801)), (DictEntry.mk (PyData.keyHash P (Str.ofString "__doc__")) (Value.str (Str.ofString "__doc__") 166) @PySem.Value.none), (DictEntry.mk (PyData.keyHash P (Str.ofString "__package__")) (Value.str (Str.ofString "__package__") 167) @PySem.Value.none), (DictEntry.mk (PyData.keyHash P (Str.ofString "__loader__")) (Value.str (Str.ofString "__loader__") 168) (Value.builtin "__main__.__loader__#opaque")), (DictEntry.mk (PyData.keyHash P (Str.ofString "__spec__")) (Value.str (Str.ofString "__spec__") 169) @PySem.Value.none), (DictEntry.mk (PyData.keyHash P (Str.ofString "__annotations__")) (Value.str (Str.ofString "__annotations__") 170) (Value.ref 6)), (DictEntry.mk (PyData.keyHash P (Str.ofString "__builtins__")) (Value.str (Str.ofString "__builtins__") 171) (Value.ref 4)), (DictEntry.mk (PyData.keyHash P (Str.ofString "__file__")) (Value.str (Str.ofString "__file__") 173) (Value.str (Str.ofString "/claim/cut.py") 172)), (DictEntry.mk (PyData.keyHash P (Str.ofString "__cached__")) (Value.str (Str.ofString "__cached__") 174) @PySem.Value.none), (DictEntry.mk (PyData.keyHash P (Str.ofString "_sre")) (Value.str (Str.ofString "_sre") 275) (Value.ref 12)), (DictEntry.mk (PyData.keyHash P (Str.ofString "_wall")) (Value.str (Str.ofString "_wall") 288) (Value.ref 38)), (DictEntry.mk (PyData.keyHash P (Str.ofString "_twin_re_7")) (Value.str (Str.ofString "_twin_re_7") 428) (Value.ref 43)), (DictEntry.mk (PyData.keyHash P (Str.ofString "_twin_re_8")) (Value.str (Str.ofString "_twin_re_8") 566) (Value.ref 48)), (DictEntry.mk (PyData.keyHash P (Str.ofString "SelectorError")) (Value.str (Str.ofString "SelectorError") 586) (Value.ref 58)), (DictEntry.mk (PyData.keyHash P (Str.ofString "SelectorSyntaxError")) (Value.str (Str.ofString "SelectorSyntaxError") 602) (Value.ref 71)), (DictEntry.mk (PyData.keyHash P (Str.ofString "Token")) (Value.str (Str.ofString "Token") 670) (Value.ref 127)), (DictEntry.mk (PyData.keyHash P (Str.ofString "EOFToken")) (Value.str (Str.ofString "EOFToken") 702) (Value.ref 155)), (DictEntry.mk (PyData.keyHash P (Str.ofString "_match_whitespace")) (Value.str (Str.ofString "_match_whitespace") 731) (Value.ref 163)), (DictEntry.mk (PyData.keyHash P (Str.ofString "_match_number")) (Value.str (Str.ofString "_match_number") 798) (Value.ref 168)), (DictEntry.mk (PyData.keyHash P (Str.ofString "_match_hash")) (Value.str (Str.ofString "_match_hash") 1086) (Value.ref 173)), (DictEntry.mk (PyData.keyHash P (Str.ofString "_match_ident")) (Value.str (Str.ofString "_match_ident") 1640) (Value.ref 178)), (DictEntry.mk (PyData.keyHash P (Str.ofString "_match_string_by_quote")) (Value.str (Str.ofString "_match_string_by_quote") 1645) (Value.ref 179)), (DictEntry.mk (PyData.keyHash P (Str.ofString "_unicode_escape")) (Value.str (Str.ofString "_unicode_escape") 1710) (Value.ref 184)), (DictEntry.mk (PyData.keyHash P (Str.ofString "_newline_escape")) (Value.str (Str.ofString "_newline_escape") 1752) (Value.ref 189)), (DictEntry.mk (PyData.keyHash P (Str.ofString "_replace_unicode")) (Value.str (Str.ofString "_replace_unicode") 1760) (Value.ref 196)), (DictEntry.mk (PyData.keyHash P (Str.ofString "_sub_unicode_escape")) (Value.str (Str.ofString "_sub_unicode_escape") 1770) (Value.ref 203)), (DictEntry.mk (PyData.keyHash P (Str.ofString "_sub_simple_escape")) (Value.str (Str.ofString "_sub_simple_escape") 1779) (Value.ref 210)), (DictEntry.mk (PyData.keyHash P (Str.ofString "unescape_ident")) (Value.str (Str.ofString "unescape_ident") 1786) (Value.ref 217)), (DictEntry.mk (PyData.keyHash P (Str.ofString "tokenize")) (Value.str (Str.ofString "tokenize") 1800) (Value.ref 224)), (DictEntry.mk (PyData.keyHash P (Str.ofString "_law_signs")) (Value.str (Str.ofString "_law_signs") 1841) (Value.ref 225)), (DictEntry.mk (PyData.keyHash P (Str.ofString "_law_sixteen")) (Value.str (Str.ofString "_law_sixteen") 1843) (Value.str (Str.ofString "0123456789abcdefABCDEF") 1842))] 31) #[])
noncomputable def o243 (P : Params) : Obj := (Obj.mk @PySem.Value.none (Option.none) (Data.fields #[(Value.int (2 : Int) 0), (Value.int (0 : Int) 0), (Value.ref 37), (Value.int (8 : Int) 0), (Value.int (0 : Int) 0), (Value.ref 54), (Value.int (10 : Int) 0), (Value.int (0 : Int) 0), (Value.ref 67), (Value.int (12 : Int) 0), (Value.int (0 : Int) 0), (Value.ref 79), (Value.int (35 : Int) 0), (Value.int (0 : Int) 0), (Value.ref 137), (Value.int (49 : Int) 0), (Value.int (0 : Int) 0), (Value.ref 195), (Value.int (54 : Int) 0), (Value.int (0 : Int) 0), (Value.ref 202), (Value.int (61 : Int) 0), (Value.int (0 : Int) 0), (Value.ref 209), (Value.int (69 : Int) 0), (Value.int (0 : Int) 0), (Value.ref 216), (Value.int (71 : Int) 0), (Value.int (0 : Int) 0), (Value.ref 223)]) #[])
noncomputable def o244 (P : Params) : Obj := (Obj.mk (Value.type "tuple") (Option.none) (Data.seq #[] 0) #[])
noncomputable def o245 (P : Params) : Obj := (Obj.mk @PySem.Value.none (Option.none) (Data.fields #[]) #[])
noncomputable def o246 (P : Params) : Obj := (Obj.mk (Value.type "tuple") (Option.none) (Data.seq #[(Value.str (Str.ofString "s") 1790), (Value.str (Str.ofString "pos") 1791), (Value.str (Str.ofString "len_s") 1792), (Value.str (Str.ofString "match") 1793), (Value.str (Str.ofString "value") 1794), (Value.str (Str.ofString "quote") 1795), (Value.str (Str.ofString "end_pos") 1796), (Value.str (Str.ofString "pos2") 1797)] 0) #[])
noncomputable def o247 (P : Params) : Obj := (Obj.mk (Value.type "tuple") (Option.none) (Data.seq #[] 0) #[])
noncomputable def o248 (P : Params) : Obj := (Obj.mk @PySem.Value.none (Option.none) (Data.func (FuncData.mk (Str.ofString "tokenize") (Str.ofString "tokenize") (fArgs (fd 20)) (FuncBody.stmts (fBody (fd 20))) (fScope (fd 20)) 0 [] @PySem.Value.none @PySem.Value.none @PySem.Value.none @PySem.Value.none (Option.none) @PySem.Value.none @PySem.Value.none 0)) #[])
noncomputable def o249 (P : Params) : Obj := (Obj.mk (Value.type "code") (Option.none) (Data.fields #[(Value.str (Str.ofString "tokenize") 1787), (Value.str (Str.ofString "tokenize") 1788), (Value.str (Str.ofString "/claim/cut.py") 1789), (Value.int (71 : Int) 0), (Value.int (1 : Int) 0), (Value.int (0 : Int) 0), (Value.int (0 : Int) 0), (Value.int (35 : Int) 0), (Value.ref 218), (Value.bool @Bool.true), (Value.int (276 : Int) 0), (Value.ref 219), @PySem.Value.none, (Value.ref 220), (Value.ref 221), (Value.ref 222), (Value.int (1798 : Int) 0), (Value.int (71 : Int) 0), (Value.str (Str.ofString "/claim/cut.py") 1799)]) #[])
noncomputable def o250 (P : Params) : Obj := (Obj.mk (Value.type "function") (Option.none) (Data.func (FuncData.mk (Str.ofString "tokenize") (Str.ofString "tokenize") (fArgs (fd 20)) (FuncBody.stmts (fBody (fd 20))) (fScope (fd 20)) 3 [] @PySem.Value.none @PySem.Value.none @PySem.Value.none (Value.str (Str.ofString "cssselect.parser") 289) (Option.none) (Value.ref 223) @PySem.Value.none 0)) #[])
noncomputable def o251 (P : Params) : Obj := (Obj.mk (Value.type "tuple") (Option.none) (Data.seq #[(Value.str (Str.ofString "a") 1803), (Value.str (Str.ofString "\\") 1804), (Value.str (Str.ofString "1") 1805), (Value.str (Str.ofString " ") 1806), (Value.str (Str.ofString "'") 1807), (Value.str (Str.ofString "-") 1808), (Value.str (Str.ofString "#") 1809), (Value.str (Str.ofString ".") 1810), (Value.str (Str.ofString "/") 1811), (Value.str (Str.ofString "*") 1812), (Value.str (Str.ofString "\n") 1813), (Value.str (Str.ofString "0") 1814), (Value.str (Str.ofString "f") 1815), (Value.str (Str.ofString "d") 1816), (Value.str (Str.ofString "g") 1817), (Value.str (Str.ofString "+") 1818), (Value.str (Str.ofString "\"") 1819), (Value.str (Str.ofString "\x0d") 1820), (Value.str (Str.ofString "é") 1821), (Value.str (Str.ofString "_") 1822), (Value.str (Str.ofString "\x00") 1823), (Value.str (Str.ofString "\x0c") 1824), (Value.str (Str.ofString "4") 1825), (Value.str (Str.ofString "\t") 1826), (Value.str (Str.ofString "A") 1827), (Value.str (Str.ofString ",") 1828), (Value.str (Str.ofString "😀") 1829), (Value.str (Str.ofString "\\") 1830), (Value.str (Str.ofString "'") 1831), (Value.str (Str.ofString "*") 1832), (Value.str (Str.ofString "/") 1833), (Value.str (Str.ofString "\x7f") 1834), (Value.str (Str.ofString "z") 1835), (Value.str (Str.ofString "9") 1836), (Value.str (Str.ofString "8") 1837), (Value.str (Str.ofString "7") 1838), (Value.str (Str.ofString "e") 1839), (Value.str (Str.ofString "") 1840)] 0) #[])
noncomputable def t15 (P : Params) : BT := (.node (o0 P) (.node (o1 P) (.node (o242 P) (.node (o7 P) (.node (o15 P) (.node (o31 P) (.node (o73 P) (.node (o146 P) .nil .nil) (.node (o215 P) .nil .nil)) (.node (o107 P) (.node (o175 P) .nil .nil) (.node (o249 P) .nil .nil))) (.node (o51 P) (.node (o91 P) (.node (o158 P) .nil .nil) (.node (o231 P) .nil .nil)) (.node (o123 P) (.node (o194 P) .nil .nil) .nil))) (.node (o23 P) (.node (o42 P) (.node (o81 P) (.node (o150 P) .nil .nil) (.node (o223 P) .nil .nil)) (.node (o115 P) (.node (o184 P) .nil .nil) .nil)) (.node (o62 P) (.node (o99 P) (.node (o166 P) .nil .nil) (.node (o239 P) .nil .nil)) (.node (o131 P) (.node (o204 P) .nil .nil) .nil)))) (.node (o11 P) (.node (o19 P) (.node (o37 P) (.node (o77 P) (.node (o143 P) .nil .nil) (.node (o219 P) .nil .nil)) (.node (o111 P) (.node (o179 P) .nil .nil) .nil)) (.node (o58 P) (.node (o95 P) (.node (o162 P) .nil .nil) (.node (o235 P) .nil .nil)) (.node (o127 P) (.node (o199 P) .nil .nil) .nil))) (.node (o27 P) (.node (o46 P) (.node (o87 P) (.node (o154 P) .nil .nil) (.node (o227 P) .nil .nil)) (.node (o119 P) (.node (o189 P) .nil .nil) .nil)) (.node (o66 P) (.node (o103 P) (.node (o170 P) .nil .nil) (.node (o245 P) .nil .nil)) (.node (o135 P) (.node (o209 P) .nil .nil) .nil))))) (.node (o5 P) (.node (o9 P) (.node (o17 P) (.node (o35 P) (.node (o75 P) (.node (o141 P) .nil .nil) (.node (o217 P) .nil .nil)) (.node (o109 P) (.node (o177 P) .nil .nil) (.node (o251 P) .nil .nil))) (.node (o56 P) (.node (o93 P) (.node (o160 P) .nil .nil) (.node (o233 P) .nil .nil)) (.node (o125 P) (.node (o196 P) .nil .nil) .nil))) (.node (o25 P) (.node (o44 P) (.node (o83 P) (.node (o152 P) .nil .nil) (.node (o225 P) .nil .nil)) (.node (o117 P) (.node (o187 P) .nil .nil) .nil)) (.node (o64 P) (.node (o101 P) (.node (o168 P) .nil .nil) (.node (o241 P) .nil .nil)) (.node (o133 P) (.node (o207 P) .nil .nil) .nil)))) (.node (o13 P) (.node (o21 P) (.node (o39 P) (.node (o79 P) (.node (o148 P) .nil .nil) (.node (o221 P) .nil .nil)) (.node (o113 P) (.node (o182 P) .nil .nil) .nil)) (.node (o60 P) (.node (o97 P) (.node (o164 P) .nil .nil) (.node (o237 P) .nil .nil)) (.node (o129 P) (.node (o202 P) .nil .nil) .nil))) (.node (o243 P) (.node (o49 P) (.node (o89 P) (.node (o156 P) .nil .nil) (.node (o229 P) .nil .nil)) (.node (o121 P) (.node (o191 P) .nil .nil) .nil)) (.node (o68 P) (.node (o105 P) (.node (o172 P) .nil .nil) (.node (o247 P) .nil .nil)) (.node (o137 P) (.node (o211 P) .nil .nil) .nil)))))) (.node (o53 P) (.node (o4 P) (.node (o8 P) (.node (o16 P) (.node (o34 P) (.node (o74 P) (.node (o140 P) .nil .nil) (.node (o216 P) .nil .nil)) (.node (o108 P) (.node (o176 P) .nil .nil) (.node (o250 P) .nil .nil))) (.node (o52 P) (.node (o92 P) (.node (o159 P) .nil .nil) (.node (o232 P) .nil .nil)) (.node (o124 P) (.node (o195 P) .nil .nil) .nil))) (.node (o24 P) (.node (o43 P) (.node (o82 P) (.node (o151 P) .nil .nil) (.node (o224 P) .nil .nil)) (.node (o116 P) (.node (o185 P) .nil .nil) .nil)) (.node (o63 P) (.node (o100 P) (.node (o167 P) .nil .nil) (.node (o240 P) .nil .nil)) (.node (o132 P) (.node (o205 P) .nil .nil) .nil)))) (.node (o12 P) (.node (o20 P) (.node (o38 P) (.node (o78 P) (.node (o147 P) .nil .nil) (.node (o220 P) .nil .nil)) (.node (o112 P) (.node (o181 P) .nil .nil) .nil)) (.node (o59 P) (.node (o96 P) (.node (o163 P) .nil .nil) (.node (o236 P) .nil .nil)) (.node (o128 P) (.node (o201 P) .nil .nil) .nil))) (.node (o28 P) (.node (o48 P) (.node (o88 P) (.node (o155 P) .nil .nil) (.node (o228 P) .nil .nil)) (.node (o120 P) (.node (o190 P) .nil .nil) .nil)) (.node (o67 P) (.node (o104 P) (.node (o171 P) .nil .nil) (.node (o246 P) .nil .nil)) (.node (o136 P) (.node (o210 P) .nil .nil) .nil))))) (.node (o6 P) (.node (o10 P) (.node (o18 P) (.node (o36 P) (.node (o76 P) (.node (o142 P) .nil .nil) (.node (o218 P) .nil .nil)) (.node (o110 P) (.node (o178 P) .nil .nil) .nil)) (.node (o57 P) (.node (o94 P) (.node (o161 P) .nil .nil) (.node (o234 P) .nil .nil)) (.node (o126 P) (.node (o197 P) .nil .nil) .nil))) (.node (o26 P) (.node (o45 P) (.node (o86 P) (.node (o153 P) .nil .nil) (.node (o226 P) .nil .nil)) (.node (o118 P) (.node (o188 P) .nil .nil) .nil)) (.node (o71 P) (.node (o102 P) (.node (o169 P) .nil .nil) (.node (o244 P) .nil .nil)) (.node (o134 P) (.node (o208 P) .nil .nil) .nil)))) (.node (o14 P) (.node (o22 P) (.node (o40 P) (.node (o80 P) (.node (o149 P) .nil .nil) (.node (o222 P) .nil .nil)) (.node (o114 P) (.node (o183 P) .nil .nil) .nil)) (.node (o61 P) (.node (o98 P) (.node (o165 P) .nil .nil) (.node (o238 P) .nil .nil)) (.node (o130 P) (.node (o203 P) .nil .nil) .nil))) (.node (o30 P) (.node (o50 P) (.node (o90 P) (.node (o157 P) .nil .nil) (.node (o230 P) .nil .nil)) (.node (o122 P) (.node (o193 P) .nil .nil) .nil)) (.node (o72 P) (.node (o106 P) (.node (o173 P) .nil .nil) (.node (o248 P) .nil .nil)) (.node (o138 P) (.node (o214 P) .nil .nil) .nil)))))))
noncomputable def s15 (w : World) (os : OsState) : SharedT := ⟨t15 w.params, 226, (Life.mk [] [] [] 0 [] [] @Bool.false #[] [] 0 @Bool.false @Bool.false @Bool.false (0 : Int) [(2000 : Int), (10 : Int), (10 : Int)] @Bool.false 0 @Bool.true [] [] 0 @Bool.false), #[], ⟨0, 0, 0, 0⟩, 1844, os⟩
noncomputable def o252 (P : Params) : Obj := (Obj.mk (Value.type "dict") (Option.none) (Data.dict #[(DictEntry.mk (PyData.keyHash P (Str.ofString "__name__")) (Value.str (Str.ofString "__name__") 165) (Value.str (Str.ofString "law_vu0001_01") 1801)), (DictEntry.mk (PyData.keyHash P (Str.ofString "__doc__")) (Value.str (Str.ofString "__doc__") 166) @PySem.Value.none), (DictEntry.mk (PyData.keyHash P (Str.ofString "__package__")) (Value.str (Str.ofString "__package__") 167) @PySem.Value.none), (DictEntry.mk (PyData.keyHash P (Str.ofString "__loader__")) (Value.str (Str.ofString "__loader__") 168) (Value.builtin "__main__.__loader__#opaque")), (DictEntry.mk (PyData.keyHash P (Str.ofString "__spec__")) (Value.str (Str.ofString "__spec__") 169) @PySem.Value.none), (DictEntry.mk (PyData.keyHash P (Str.ofString "__annotations__")) (Value.str (Str.ofString "__annotations__") 170) (Value.ref 6)), (DictEntry.mk (PyData.keyHash P (Str.ofString "__builtins__")) (Value.str (Str.ofString "__builtins__") 171) (Value.ref 4)), (DictEntry.mk (PyData.keyHash P (Str.ofString "__file__")) (Value.str (Str.ofString "__file__") 173) (Value.str (Str.ofString "/claim/cut.py") 172)), (DictEntry.mk (PyData.keyHash P (Str.ofString "__cached__")) (Value.str (Str.ofString "__cached__") 174) @PySem.Value.none), (DictEntry.mk (PyData.keyHash P (Str.ofString "_sre")) (Value.str (Str.ofString "_sre") 275) (Value.ref 12)), (DictEntry.mk (PyData.keyHash P (Str.ofString "_wall")) (Value.str (Str.ofString "_wall") 288) (Value.ref 38)), (DictEntry.mk (PyData.keyHash P (Str.ofString "_twin_re_7")) (Value.str (Str.ofString "_twin_re_7") 428) (Value.ref 43)), (DictEntry.mk (PyData.keyHash P (Str.ofString "_twin_re_8")) (Value.str (Str.ofString "_twin_re_8") 566) (Value.ref 48)), (DictEntry.mk (PyData.keyHash P (Str.ofString "SelectorError")) (Value.str (Str.ofString "SelectorError") 586) (Value.ref 58)), (DictEntry.mk (PyData.keyHash P (Str.ofString "SelectorSyntaxError")) (Value.str (Str.ofString "SelectorSyntaxError") 602) (Value.ref 71)), (DictEntry.mk (PyData.keyHash P (Str.ofString "Token")) (Value.str (Str.ofString "Token") 670) (Value.ref 127)), (DictEntry.mk (PyData.keyHash P (Str.ofString "EOFToken")) (Value.str (Str.ofString "EOFToken") 702) (Value.ref 155)), (DictEntry.mk (PyData.keyHash P (Str.ofString "_match_whitespace")) (Value.str (Str.ofString "_match_whitespace") 731) (Value.ref 163)), (DictEntry.mk (PyData.keyHash P (Str.ofString "_match_number")) (Value.str (Str.ofString "_match_number") 798) (Value.ref 168)), (DictEntry.mk (PyData.keyHash P (Str.ofString "_match_hash")) (Value.str (Str.ofString "_match_hash") 1086) (Value.ref 173)), (DictEntry.mk (PyData.keyHash P (Str.ofString "_match_ident")) (Value.str (Str.ofString "_match_ident") 1640) (Value.ref 178)), (DictEntry.mk (PyData.keyHash P (Str.ofString "_match_string_by_quote")) (Value.str (Str.ofString "_match_string_by_quote") 1645) (Value.ref 179)), (DictEntry.mk (PyData.keyHash P (Str.ofString "_unicode_escape")) (Value.str (Str.ofString "_unicode_escape") 1710) (Value.ref 184)), (DictEntry.mk (PyData.keyHash P (Str.ofString "_newline_escape")) (Value.str (Str.ofString "_newline_escape") 1752) (Value.ref 189)), (DictEntry.mk (PyData.keyHash P (Str.ofString "_replace_unicode")) (Value.str (Str.ofString "_replace_unicode") 1760) (Value.ref 196)), (DictEntry.mk (PyData.keyHash P (Str.ofString "_sub_unicode_escape")) (Value.str (Str.ofString "_sub_unicode_escape") 1770) (Value.ref 203)), (DictEntry.mk (PyData.keyHash P (Str.ofString "_sub_simple_escape")) (Value.str (Str.ofString "_sub_simple_escape") 1779) (Value.ref 210)), (DictEntry.mk (PyData.keyHash P (Str.ofString "unescape_ident")) (Value.str (Str.ofString "unescape_ident") 1786) (Value.ref 217)), (DictEntry.mk (PyData.keyHash P (Str.ofString "tokenize")) (Value.str (Str.ofString "tokenize") 1800) (Value.ref 224)), (DictEntry.mk (PyData.keyHash P (Str.ofString "_law_signs")) (Value.str (Str.ofString "_law_signs") 1841) (Value.ref 225)), (DictEntry.mk (PyData.keyHash P (Str.ofString "_law_sixteen")) (Value.str (Str.ofString "_law_sixteen") 1843) (Value.str (Str.ofString "0123456789abcdefABCDEF") 1842)), (DictEntry.mk (PyData.keyHash P (Str.ofString "_law_text")) (Value.str (Str.ofString "_law_text") 1853) (Value.ref 232)), (DictEntry.mk (PyData.keyHash P (Str.ofString "_law_escape")) (Value.str (Str.ofString "_law_escape") 1863) (Value.ref 239)), (DictEntry.mk (PyData.keyHash P (Str.ofString "_law_name")) (Value.str (Str.ofString "_law_name") 1874) (Value.ref 246)), (DictEntry.mk (PyData.keyHash P (Str.ofString "_law_quoted")) (Value.str (Str.ofString "_law_quoted") 1886) (Value.ref 253))] 35) #[])
noncomputable def o253 (P : Params) : Obj := (Obj.mk @PySem.Value.none (Option.none) (Data.fields #[(Value.int (2 : Int) 0), (Value.int (0 : Int) 0), (Value.ref 37), (Value.int (8 : Int) 0), (Value.int (0 : Int) 0), (Value.ref 54), (Value.int (10 : Int) 0), (Value.int (0 : Int) 0), (Value.ref 67), (Value.int (12 : Int) 0), (Value.int (0 : Int) 0), (Value.ref 79), (Value.int (35 : Int) 0), (Value.int (0 : Int) 0), (Value.ref 137), (Value.int (49 : Int) 0), (Value.int (0 : Int) 0), (Value.ref 195), (Value.int (54 : Int) 0), (Value.int (0 : Int) 0), (Value.ref 202), (Value.int (61 : Int) 0), (Value.int (0 : Int) 0), (Value.ref 209), (Value.int (69 : Int) 0), (Value.int (0 : Int) 0), (Value.ref 216), (Value.int (71 : Int) 0), (Value.int (0 : Int) 0), (Value.ref 223), (Value.int (127 : Int) 0), (Value.int (0 : Int) 0), (Value.ref 231), (Value.int (137 : Int) 0), (Value.int (0 : Int) 0), (Value.ref 238), (Value.int (150 : Int) 0), (Value.int (0 : Int) 0), (Value.ref 245), (Value.int (162 : Int) 0), (Value.int (0 : Int) 0), (Value.ref 252)]) #[])
noncomputable def o254 (P : Params) : Obj := (Obj.mk (Value.type "tuple") (Option.none) (Data.seq #[] 0) #[])
noncomputable def o255 (P : Params) : Obj := (Obj.mk @PySem.Value.none (Option.none) (Data.fields #[]) #[])
noncomputable def o256 (P : Params) : Obj := (Obj.mk (Value.type "tuple") (Option.none) (Data.seq #[(Value.str (Str.ofString "script") 1847), (Value.str (Str.ofString "text") 1848), (Value.str (Str.ofString "v") 1849), (Value.str (Str.ofString "sign") 1850)] 0) #[])
noncomputable def o257 (P : Params) : Obj := (Obj.mk (Value.type "tuple") (Option.none) (Data.seq #[] 0) #[])
noncomputable def o258 (P : Params) : Obj := (Obj.mk @PySem.Value.none (Option.none) (Data.func (FuncData.mk (Str.ofString "_law_text") (Str.ofString "_law_text") (fArgs (fd 24)) (FuncBody.stmts (fBody (fd 24))) (fScope (fd 24)) 0 [] @PySem.Value.none @PySem.Value.none @PySem.Value.none @PySem.Value.none (Option.none) @PySem.Value.none @PySem.Value.none 0)) #[])
noncomputable def o259 (P : Params) : Obj := (Obj.mk (Value.type "code") (Option.none) (Data.fields #[(Value.str (Str.ofString "_law_text") 1844), (Value.str (Str.ofString "_law_text") 1845), (Value.str (Str.ofString "/claim/cut.py") 1846), (Value.int (127 : Int) 0), (Value.int (1 : Int) 0), (Value.int (0 : Int) 0), (Value.int (0 : Int) 0), (Value.int (3 : Int) 0), (Value.ref 226), (Value.bool @Bool.true), (Value.int (276 : Int) 0), (Value.ref 227), @PySem.Value.none, (Value.ref 228), (Value.ref 229), (Value.ref 230), (Value.int (1851 : Int) 0), (Value.int (127 : Int) 0), (Value.str (Str.ofString "/claim/cut.py") 1852)]) #[])
noncomputable def o260 (P : Params) : Obj := (Obj.mk (Value.type "function") (Option.none) (Data.func (FuncData.mk (Str.ofString "_law_text") (Str.ofString "_law_text") (fArgs (fd 24)) (FuncBody.stmts (fBody (fd 24))) (fScope (fd 24)) 3 [] @PySem.Value.none @PySem.Value.none @PySem.Value.none (Value.str (Str.ofString "law_vu0001_01") 1801) (Option.none) (Value.ref 231) @PySem.Value.none 0)) #[])
noncomputable def o261 (P : Params) : Obj := (Obj.mk (Value.type "tuple") (Option.none) (Data.seq #[] 0) #[])
noncomputable def o262 (P : Params) : Obj := (Obj.mk @PySem.Value.none (Option.none) (Data.fields #[]) #[])
noncomputable def o263 (P : Params) : Obj := (Obj.mk (Value.type "tuple") (Option.none) (Data.seq #[(Value.str (Str.ofString "text") 1857), (Value.str (Str.ofString "i") 1858), (Value.str (Str.ofString "j") 1859), (Value.str (Str.ofString "code") 1860)] 0) #[])
noncomputable def o264 (P : Params) : Obj := (Obj.mk (Value.type "tuple") (Option.none) (Data.seq #[] 0) #[])
noncomputable def o265 (P : Params) : Obj := (Obj.mk @PySem.Value.none (Option.none) (Data.func (FuncData.mk (Str.ofString "_law_escape") (Str.ofString "_law_escape") (fArgs (fd 25)) (FuncBody.stmts (fBody (fd 25))) (fScope (fd 25)) 0 [] @PySem.Value.none @PySem.Value.none @PySem.Value.none @PySem.Value.none (Option.none) @PySem.Value.none @PySem.Value.none 0)) #[])
noncomputable def o266 (P : Params) : Obj := (Obj.mk (Value.type "code") (Option.none) (Data.fields #[(Value.str (Str.ofString "_law_escape") 1854), (Value.str (Str.ofString "_law_escape") 1855), (Value.str (Str.ofString "/claim/cut.py") 1856), (Value.int (137 : Int) 0), (Value.int (2 : Int) 0), (Value.int (0 : Int) 0), (Value.int (0 : Int) 0), (Value.int (3 : Int) 0), (Value.ref 233), (Value.bool @Bool.true), (Value.int (276 : Int) 0), (Value.ref 234), @PySem.Value.none, (Value.ref 235), (Value.ref 236), (Value.ref 237), (Value.int (1861 : Int) 0), (Value.int (137 : Int) 0), (Value.str (Str.ofString "/claim/cut.py") 1862)]) #[])
noncomputable def o267 (P : Params) : Obj := (Obj.mk (Value.type "function") (Option.none) (Data.func (FuncData.mk (Str.ofString "_law_escape") (Str.ofString "_law_escape") (fArgs (fd 25)) (FuncBody.stmts (fBody (fd 25))) (fScope (fd 25)) 3 [] @PySem.Value.none @PySem.Value.none @PySem.Value.none (Value.str (Str.ofString "law_vu0001_01") 1801) (Option.none) (Value.ref 238) @PySem.Value.none 0)) #[])
noncomputable def o268 (P : Params) : Obj := (Obj.mk (Value.type "tuple") (Option.none) (Data.seq #[] 0) #[])
noncomputable def o269 (P : Params) : Obj := (Obj.mk @PySem.Value.none (Option.none) (Data.fields #[]) #[])
noncomputable def o270 (P : Params) : Obj := (Obj.mk (Value.type "tuple") (Option.none) (Data.seq #[(Value.str (Str.ofString "text") 1867), (Value.str (Str.ofString "i") 1868), (Value.str (Str.ofString "said") 1869), (Value.str (Str.ofString "sign") 1870), (Value.str (Str.ofString "j") 1871)] 0) #[])
noncomputable def o271 (P : Params) : Obj := (Obj.mk (Value.type "tuple") (Option.none) (Data.seq #[] 0) #[])
noncomputable def o272 (P : Params) : Obj := (Obj.mk @PySem.Value.none (Option.none) (Data.func (FuncData.mk (Str.ofString "_law_name") (Str.ofString "_law_name") (fArgs (fd 26)) (FuncBody.stmts (fBody (fd 26))) (fScope (fd 26)) 0 [] @PySem.Value.none @PySem.Value.none @PySem.Value.none @PySem.Value.none (Option.none) @PySem.Value.none @PySem.Value.none 0)) #[])
noncomputable def o273 (P : Params) : Obj := (Obj.mk (Value.type "code") (Option.none) (Data.fields #[(Value.str (Str.ofString "_law_name") 1864), (Value.str (Str.ofString "_law_name") 1865), (Value.str (Str.ofString "/claim/cut.py") 1866), (Value.int (150 : Int) 0), (Value.int (2 : Int) 0), (Value.int (0 : Int) 0), (Value.int (0 : Int) 0), (Value.int (3 : Int) 0), (Value.ref 240), (Value.bool @Bool.true), (Value.int (276 : Int) 0), (Value.ref 241), @PySem.Value.none, (Value.ref 242), (Value.ref 243), (Value.ref 244), (Value.int (1872 : Int) 0), (Value.int (150 : Int) 0), (Value.str (Str.ofString "/claim/cut.py") 1873)]) #[])
noncomputable def o274 (P : Params) : Obj := (Obj.mk (Value.type "function") (Option.none) (Data.func (FuncData.mk (Str.ofString "_law_name") (Str.ofString "_law_name") (fArgs (fd 26)) (FuncBody.stmts (fBody (fd 26))) (fScope (fd 26)) 3 [] @PySem.Value.none @PySem.Value.none @PySem.Value.none (Value.str (Str.ofString "law_vu0001_01") 1801) (Option.none) (Value.ref 245) @PySem.Value.none 0)) #[])
noncomputable def o275 (P : Params) : Obj := (Obj.mk (Value.type "tuple") (Option.none) (Data.seq #[] 0) #[])
noncomputable def o276 (P : Params) : Obj := (Obj.mk @PySem.Value.none (Option.none) (Data.fields #[]) #[])
noncomputable def o277 (P : Params) : Obj := (Obj.mk (Value.type "tuple") (Option.none) (Data.seq #[(Value.str (Str.ofString "text") 1878), (Value.str (Str.ofString "i") 1879), (Value.str (Str.ofString "said") 1880), (Value.str (Str.ofString "j") 1881), (Value.str (Str.ofString "sign") 1882), (Value.str (Str.ofString "k") 1883)] 0) #[])
noncomputable def o278 (P : Params) : Obj := (Obj.mk (Value.type "tuple") (Option.none) (Data.seq #[] 0) #[])
noncomputable def o279 (P : Params) : Obj := (Obj.mk @PySem.Value.none (Option.none) (Data.func (FuncData.mk (Str.ofString "_law_quoted") (Str.ofString "_law_quoted") (fArgs (fd 27)) (FuncBody.stmts (fBody (fd 27))) (fScope (fd 27)) 0 [] @PySem.Value.none @PySem.Value.none @PySem.Value.none @PySem.Value.none (Option.none) @PySem.Value.none @PySem.Value.none 0)) #[])
noncomputable def o280 (P : Params) : Obj := (Obj.mk (Value.type "code") (Option.none) (Data.fields #[(Value.str (Str.ofString "_law_quoted") 1875), (Value.str (Str.ofString "_law_quoted") 1876), (Value.str (Str.ofString "/claim/cut.py") 1877), (Value.int (162 : Int) 0), (Value.int (2 : Int) 0), (Value.int (0 : Int) 0), (Value.int (0 : Int) 0), (Value.int (3 : Int) 0), (Value.ref 247), (Value.bool @Bool.true), (Value.int (276 : Int) 0), (Value.ref 248), @PySem.Value.none, (Value.ref 249), (Value.ref 250), (Value.ref 251), (Value.int (1884 : Int) 0), (Value.int (162 : Int) 0), (Value.str (Str.ofString "/claim/cut.py") 1885)]) #[])
noncomputable def o281 (P : Params) : Obj := (Obj.mk (Value.type "function") (Option.none) (Data.func (FuncData.mk (Str.ofString "_law_quoted") (Str.ofString "_law_quoted") (fArgs (fd 27)) (FuncBody.stmts (fBody (fd 27))) (fScope (fd 27)) 3 [] @PySem.Value.none @PySem.Value.none @PySem.Value.none (Value.str (Str.ofString "law_vu0001_01") 1801) (Option.none) (Value.ref 252) @PySem.Value.none 0)) #[])
noncomputable def t16 (P : Params) : BT := (.node (o0 P) (.node (o1 P) (.node (o252 P) (.node (o7 P) (.node (o15 P) (.node (o31 P) (.node (o73 P) (.node (o146 P) .nil .nil) (.node (o215 P) .nil .nil)) (.node (o107 P) (.node (o175 P) .nil .nil) (.node (o249 P) .nil .nil))) (.node (o51 P) (.node (o91 P) (.node (o158 P) .nil .nil) (.node (o231 P) .nil .nil)) (.node (o123 P) (.node (o194 P) .nil .nil) (.node (o267 P) .nil .nil)))) (.node (o23 P) (.node (o42 P) (.node (o81 P) (.node (o150 P) .nil .nil) (.node (o223 P) .nil .nil)) (.node (o115 P) (.node (o184 P) .nil .nil) (.node (o259 P) .nil .nil))) (.node (o62 P) (.node (o99 P) (.node (o166 P) .nil .nil) (.node (o239 P) .nil .nil)) (.node (o131 P) (.node (o204 P) .nil .nil) (.node (o275 P) .nil .nil))))) (.node (o11 P) (.node (o19 P) (.node (o37 P) (.node (o77 P) (.node (o143 P) .nil .nil) (.node (o219 P) .nil .nil)) (.node (o111 P) (.node (o179 P) .nil .nil) (.node (o255 P) .nil .nil))) (.node (o58 P) (.node (o95 P) (.node (o162 P) .nil .nil) (.node (o235 P) .nil .nil)) (.node (o127 P) (.node (o199 P) .nil .nil) (.node (o271 P) .nil .nil)))) (.node (o27 P) (.node (o46 P) (.node (o87 P) (.node (o154 P) .nil .nil) (.node (o227 P) .nil .nil)) (.node (o119 P) (.node (o189 P) .nil .nil) (.node (o263 P) .nil .nil))) (.node (o66 P) (.node (o103 P) (.node (o170 P) .nil .nil) (.node (o245 P) .nil .nil)) (.node (o135 P) (.node (o209 P) .nil .nil) (.node (o279 P) .nil .nil)))))) (.node (o5 P) (.node (o9 P) (.node (o17 P) (.node (o35 P) (.node (o75 P) (.node (o141 P) .nil .nil) (.node (o217 P) .nil .nil)) (.node (o109 P) (.node (o177 P) .nil .nil) (.node (o251 P) .nil .nil))) (.node (o56 P) (.node (o93 P) (.node (o160 P) .nil .nil) (.node (o233 P) .nil .nil)) (.node (o125 P) (.node (o196 P) .nil .nil) (.node (o269 P) .nil .nil)))) (.node (o25 P) (.node (o44 P) (.node (o83 P) (.node (o152 P) .nil .nil) (.node (o225 P) .nil .nil)) (.node (o117 P) (.node (o187 P) .nil .nil) (.node (o261 P) .nil .nil))) (.node (o64 P) (.node (o101 P) (.node (o168 P) .nil .nil) (.node (o241 P) .nil .nil)) (.node (o133 P) (.node (o207 P) .nil .nil) (.node (o277 P) .nil .nil))))) (.node (o13 P) (.node (o21 P) (.node (o39 P) (.node (o79 P) (.node (o148 P) .nil .nil) (.node (o221 P) .nil .nil)) (.node (o113 P) (.node (o182 P) .nil .nil) (.node (o257 P) .nil .nil))) (.node (o60 P) (.node (o97 P) (.node (o164 P) .nil .nil) (.node (o237 P) .nil .nil)) (.node (o129 P) (.node (o202 P) .nil .nil) (.node (o273 P) .nil .nil)))) (.node (o253 P) (.node (o49 P) (.node (o89 P) (.node (o156 P) .nil .nil) (.node (o229 P) .nil .nil)) (.node (o121 P) (.node (o191 P) .nil .nil) (.node (o265 P) .nil .nil))) (.node (o68 P) (.node (o105 P) (.node (o172 P) .nil .nil) (.node (o247 P) .nil .nil)) (.node (o137 P) (.node (o211 P) .nil .nil) (.node (o281 P) .nil .nil))))))) (.node (o53 P) (.node (o4 P) (.node (o8 P) (.node (o16 P) (.node (o34 P) (.node (o74 P) (.node (o140 P) .nil .nil) (.node (o216 P) .nil .nil)) (.node (o108 P) (.node (o176 P) .nil .nil) (.node (o250 P) .nil .nil))) (.node (o52 P) (.node (o92 P) (.node (o159 P) .nil .nil) (.node (o232 P) .nil .nil)) (.node (o124 P) (.node (o195 P) .nil .nil) (.node (o268 P) .nil .nil)))) (.node (o24 P) (.node (o43 P) (.node (o82 P) (.node (o151 P) .nil .nil) (.node (o224 P) .nil .nil)) (.node (o116 P) (.node (o185 P) .nil .nil) (.node (o260 P) .nil .nil))) (.node (o63 P) (.node (o100 P) (.node (o167 P) .nil .nil) (.node (o240 P) .nil .nil)) (.node (o132 P) (.node (o205 P) .nil .nil) (.node (o276 P) .nil .nil))))) (.node (o12 P) (.node (o20 P) (.node (o38 P) (.node (o78 P) (.node (o147 P) .nil .nil) (.node (o220 P) .nil .nil)) (.node (o112 P) (.node (o181 P) .nil .nil) (.node (o256 P) .nil .nil))) (.node (o59 P) (.node (o96 P) (.node (o163 P) .nil .nil) (.node (o236 P) .nil .nil)) (.node (o128 P) (.node (o201 P) .nil .nil) (.node (o272 P) .nil .nil)))) (.node (o28 P) (.node (o48 P) (.node (o88 P) (.node (o155 P) .nil .nil) (.node (o228 P) .nil .nil)) (.node (o120 P) (.node (o190 P) .nil .nil) (.node (o264 P) .nil .nil))) (.node (o67 P) (.node (o104 P) (.node (o171 P) .nil .nil) (.node (o246 P) .nil .nil)) (.node (o136 P) (.node (o210 P) .nil .nil) (.node (o280 P) .nil .nil)))))) (.node (o6 P) (.node (o10 P) (.node (o18 P) (.node (o36 P) (.node (o76 P) (.node (o142 P) .nil .nil) (.node (o218 P) .nil .nil)) (.node (o110 P) (.node (o178 P) .nil .nil) (.node (o254 P) .nil .nil))) (.node (o57 P) (.node (o94 P) (.node (o161 P) .nil .nil) (.node (o234 P) .nil .nil)) (.node (o126 P) (.node (o197 P) .nil .nil) (.node (o270 P) .nil .nil)))) (.node (o26 P) (.node (o45 P) (.node (o86 P) (.node (o153 P) .nil .nil) (.node (o226 P) .nil .nil)) (.node (o118 P) (.node (o188 P) .nil .nil) (.node (o262 P) .nil .nil))) (.node (o71 P) (.node (o102 P) (.node (o169 P) .nil .nil) (.node (o244 P) .nil .nil)) (.node (o134 P) (.node (o208 P) .nil .nil) (.node (o278 P) .nil .nil))))) (.node (o14 P) (.node (o22 P) (.node (o40 P) (.node (o80 P) (.node (o149 P) .nil .nil) (.node (o222 P) .nil .nil)) (.node (o114 P) (.node (o183 P) .nil .nil) (.node (o258 P) .nil .nil))) (.node (o61 P) (.node (o98 P) (.node (o165 P) .nil .nil) (.node (o238 P) .nil .nil)) (.node (o130 P) (.node (o203 P) .nil .nil) (.node (o274 P) .nil .nil)))) (.node (o30 P) (.node (o50 P) (.node (o90 P) (.node (o157 P) .nil .nil) (.node (o230 P) .nil .nil)) (.node (o122 P) (.node (o193 P) .nil .nil) (.node (o266 P) .nil .nil))) (.node (o72 P) (.node (o106 P) (.node (o173 P) .nil .nil) (.node (o248 P) .nil .nil)) (.node (o138 P) (.node (o214 P) .nil .nil) .nil)))))))
noncomputable def s16 (w : World) (os : OsState) : SharedT := ⟨t16 w.params, 254, (Life.mk [] [] [] 0 [] [] @Bool.false #[] [] 0 @Bool.false @Bool.false @Bool.false (0 : Int) [(2000 : Int), (10 : Int), (10 : Int)] @Bool.false 0 @Bool.true [] [] 0 @Bool.false), #[], ⟨0, 0, 0, 0⟩, 1887, os⟩
noncomputable def o282 (P : Params) : Obj := (Obj.mk (Value.type "dict") (Option.none) (Data.dict #[(DictEntry.mk (PyData.keyHash P (Str.ofString "__name__")) (Value.str (Str.ofString "__name__") 165) (Value.str (Str.ofString "law_vu0001_01") 1801)), (DictEntry.mk (PyData.keyHash P (Str.ofString "__doc__")) (Value.str (Str.ofString "__doc__") 166) @PySem.Value.none), (DictEntry.mk (PyData.keyHash P (Str.ofString "__package__")) (Value.str (Str.ofString "__package__") 167) @PySem.Value.none), (DictEntry.mk (PyData.keyHash P (Str.ofString "__loader__")) (Value.str (Str.ofString "__loader__") 168) (Value.builtin "__main__.__loader__#opaque")), (DictEntry.mk (PyData.keyHash P (Str.ofString "__spec__")) (Value.str (Str.ofString "__spec__") 169) @PySem.Value.none), (DictEntry.mk (PyData.keyHash P (Str.ofString "__annotations__")) (Value.str (Str.ofString "__annotations__") 170) (Value.ref 6)), (DictEntry.mk (PyData.keyHash P (Str.ofString "__builtins__")) (Value.str (Str.ofString "__builtins__") 171) (Value.ref 4)), (DictEntry.mk (PyData.keyHash P (Str.ofString "__file__")) (Value.str (Str.ofString "__file__") 173) (Value.str (Str.ofString "/claim/cut.py") 172)), (DictEntry.mk (PyData.keyHash P (Str.ofString "__cached__")) (Value.str (Str.ofString "__cached__") 174) @PySem.Value.none), (DictEntry.mk (PyData.keyHash P (Str.ofString "_sre")) (Value.str (Str.ofString "_sre") 275) (Value.ref 12)), (DictEntry.mk (PyData.keyHash P (Str.ofString "_wall")) (Value.str (Str.ofString "_wall") 288) (Value.ref 38)), (DictEntry.mk (PyData.keyHash P (Str.ofString "_twin_re_7")) (Value.str (Str.ofString "_twin_re_7") 428) (Value.ref 43)), (DictEntry.mk (PyData.keyHash P (Str.ofString "_twin_re_8")) (Value.str (Str.ofString "_twin_re_8") 566) (Value.ref 48)), (DictEntry.mk (PyData.keyHash P (Str.ofString "SelectorError")) (Value.str (Str.ofString "SelectorError") 586) (Value.ref 58)), (DictEntry.mk (PyData.keyHash P (Str.ofString "SelectorSyntaxError")) (Value.str (Str.ofString "SelectorSyntaxError") 602) (Value.ref 71)), (DictEntry.mk (PyData.keyHash P (Str.ofString "Token")) (Value.str (Str.ofString "Token") 670) (Value.ref 127)), (DictEntry.mk (PyData.keyHash P (Str.ofString "EOFToken")) (Value.str (Str.ofString "EOFToken") 702) (Value.ref 155)), (DictEntry.mk (PyData.keyHash P (Str.ofString "_match_whitespace")) (Value.str (Str.ofString "_match_whitespace") 731) (Value.ref 163)), (DictEntry.mk (PyData.keyHash P (Str.ofString "_match_number")) (Value.str (Str.ofString "_match_number") 798) (Value.ref 168)), (DictEntry.mk (PyData.keyHash P (Str.ofString "_match_hash")) (Value.str (Str.ofString "_match_hash") 1086) (Value.ref 173)), (DictEntry.mk (PyData.keyHash P (Str.ofString "_match_ident")) (Value.str (Str.ofString "_match_ident") 1640) (Value.ref 178)), (DictEntry.mk (PyData.keyHash P (Str.ofString "_match_string_by_quote")) (Value.str (Str.ofString "_match_string_by_quote") 1645) (Value.ref 179)), (DictEntry.mk (PyData.keyHash P (Str.ofString "_unicode_escape")) (Value.str (Str.ofString "_unicode_escape") 1710) (Value.ref 184)), (DictEntry.mk (PyData.keyHash P (Str.ofString "_newline_escape")) (Value.str (Str.ofString "_newline_escape") 1752) (Value.ref 189)), (DictEntry.mk (PyData.keyHash P (Str.ofString "_replace_unicode")) (Value.str (Str.ofString "_replace_unicode") 1760) (Value.ref 196)), (DictEntry.mk (PyData.keyHash P (Str.ofString "_sub_unicode_escape")) (Value.str (Str.ofString "_sub_unicode_escape") 1770) (Value.ref 203)), (DictEntry.mk (PyData.keyHash P (Str.ofString "_sub_simple_escape")) (Value.str (Str.ofString "_sub_simple_escape") 1779) (Value.ref 210)), (DictEntry.mk (PyData.keyHash P (Str.ofString "unescape_ident")) (Value.str (Str.ofString "unescape_ident") 1786) (Value.ref 217)), (DictEntry.mk (PyData.keyHash P (Str.ofString "tokenize")) (Value.str (Str.ofString "tokenize") 1800) (Value.ref 224)), (DictEntry.mk (PyData.keyHash P (Str.ofString "_law_signs")) (Value.str (Str.ofString "_law_signs") 1841) (Value.ref 225)), (DictEntry.mk (PyData.keyHash P (Str.ofString "_law_sixteen")) (Value.str (Str.ofString "_law_sixteen") 1843) (Value.str (Str.ofString "0123456789abcdefABCDEF") 1842)), (DictEntry.mk (PyData.keyHash P (Str.ofString "_law_text")) (Value.str (Str.ofString "_law_text") 1853) (Value.ref 232)), (DictEntry.mk (PyData.keyHash P (Str.ofString "_law_escape")) (Value.str (Str.ofString "_law_escape") 1863) (Value.ref 239)), (DictEntry.mk (PyData.keyHash P (Str.ofString "_law_name")) (Value.str (Str.ofString "_law_name") 1874) (Value.ref 246)), (DictEntry.mk (PyData.keyHash P (Str.ofString "_law_quoted")) (Value.str (Str.ofString "_law_quoted") 1886) (Value.ref 253)), (DictEntry.mk (PyData.keyHash P (Str.ofString "_law_figures")) (Value.str (Str.ofString "_law_figures") 1894) (Value.ref 260)), (DictEntry.mk (PyData.keyHash P (Str.ofString "_law_read")) (Value.str (Str.ofString "_law_read") 1909) (Value.ref 267)), (DictEntry.mk (PyData.keyHash P (Str.ofString "law")) (Value.str (Str.ofString "law") 1920) (Value.ref 274))] 38) #[])
noncomputable def o283 (P : Params) : Obj := (Obj.mk @PySem.Value.none (Option.none) (Data.fields #[(Value.int (2 : Int) 0), (Value.int (0 : Int) 0), (Value.ref 37), (Value.int (8 : Int) 0), (Value.int (0 : Int) 0), (Value.ref 54), (Value.int (10 : Int) 0), (Value.int (0 : Int) 0), (Value.ref 67), (Value.int (12 : Int) 0), (Value.int (0 : Int) 0), (Value.ref 79), (Value.int (35 : Int) 0), (Value.int (0 : Int) 0), (Value.ref 137), (Value.int (49 : Int) 0), (Value.int (0 : Int) 0), (Value.ref 195), (Value.int (54 : Int) 0), (Value.int (0 : Int) 0), (Value.ref 202), (Value.int (61 : Int) 0), (Value.int (0 : Int) 0), (Value.ref 209), (Value.int (69 : Int) 0), (Value.int (0 : Int) 0), (Value.ref 216), (Value.int (71 : Int) 0), (Value.int (0 : Int) 0), (Value.ref 223), (Value.int (127 : Int) 0), (Value.int (0 : Int) 0), (Value.ref 231), (Value.int (137 : Int) 0), (Value.int (0 : Int) 0), (Value.ref 238), (Value.int (150 : Int) 0), (Value.int (0 : Int) 0), (Value.ref 245), (Value.int (162 : Int) 0), (Value.int (0 : Int) 0), (Value.ref 252), (Value.int (178 : Int) 0), (Value.int (0 : Int) 0), (Value.ref 259), (Value.int (182 : Int) 0), (Value.int (0 : Int) 0), (Value.ref 266), (Value.int (223 : Int) 0), (Value.int (0 : Int) 0), (Value.ref 273)]) #[])
noncomputable def o284 (P : Params) : Obj := (Obj.mk (Value.type "tuple") (Option.none) (Data.seq #[] 0) #[])
noncomputable def o285 (P : Params) : Obj := (Obj.mk @PySem.Value.none (Option.none) (Data.fields #[]) #[])
noncomputable def o286 (P : Params) : Obj := (Obj.mk (Value.type "tuple") (Option.none) (Data.seq #[(Value.str (Str.ofString "text") 1890), (Value.str (Str.ofString "i") 1891)] 0) #[])
noncomputable def o287 (P : Params) : Obj := (Obj.mk (Value.type "tuple") (Option.none) (Data.seq #[] 0) #[])
noncomputable def o288 (P : Params) : Obj := (Obj.mk @PySem.Value.none (Option.none) (Data.func (FuncData.mk (Str.ofString "_law_figures") (Str.ofString "_law_figures") (fArgs (fd 28)) (FuncBody.stmts (fBody (fd 28))) (fScope (fd 28)) 0 [] @PySem.Value.none @PySem.Value.none @PySem.Value.none @PySem.Value.none (Option.none) @PySem.Value.none @PySem.Value.none 0)) #[])
noncomputable def o289 (P : Params) : Obj := (Obj.mk (Value.type "code") (Option.none) (Data.fields #[(Value.str (Str.ofString "_law_figures") 1887), (Value.str (Str.ofString "_law_figures") 1888), (Value.str (Str.ofString "/claim/cut.py") 1889), (Value.int (178 : Int) 0), (Value.int (2 : Int) 0), (Value.int (0 : Int) 0), (Value.int (0 : Int) 0), (Value.int (3 : Int) 0), (Value.ref 254), (Value.bool @Bool.true), (Value.int (276 : Int) 0), (Value.ref 255), @PySem.Value.none, (Value.ref 256), (Value.ref 257), (Value.ref 258), (Value.int (1892 : Int) 0), (Value.int (178 : Int) 0), (Value.str (Str.ofString "/claim/cut.py") 1893)]) #[])
noncomputable def o290 (P : Params) : Obj := (Obj.mk (Value.type "function") (Option.none) (Data.func (FuncData.mk (Str.ofString "_law_figures") (Str.ofString "_law_figures") (fArgs (fd 28)) (FuncBody.stmts (fBody (fd 28))) (fScope (fd 28)) 3 [] @PySem.Value.none @PySem.Value.none @PySem.Value.none (Value.str (Str.ofString "law_vu0001_01") 1801) (Option.none) (Value.ref 259) @PySem.Value.none 0)) #[])
noncomputable def o291 (P : Params) : Obj := (Obj.mk (Value.type "tuple") (Option.none) (Data.seq #[] 0) #[])
noncomputable def o292 (P : Params) : Obj := (Obj.mk @PySem.Value.none (Option.none) (Data.fields #[]) #[])
noncomputable def o293 (P : Params) : Obj := (Obj.mk (Value.type "tuple") (Option.none) (Data.seq #[(Value.str (Str.ofString "text") 1898), (Value.str (Str.ofString "rows") 1899), (Value.str (Str.ofString "i") 1900), (Value.str (Str.ofString "sign") 1901), (Value.str (Str.ofString "j") 1902), (Value.str (Str.ofString "head") 1903), (Value.str (Str.ofString "said") 1904), (Value.str (Str.ofString "found") 1905), (Value.str (Str.ofString "start") 1906)] 0) #[])
noncomputable def o294 (P : Params) : Obj := (Obj.mk (Value.type "tuple") (Option.none) (Data.seq #[] 0) #[])
noncomputable def o295 (P : Params) : Obj := (Obj.mk @PySem.Value.none (Option.none) (Data.func (FuncData.mk (Str.ofString "_law_read") (Str.ofString "_law_read") (fArgs (fd 29)) (FuncBody.stmts (fBody (fd 29))) (fScope (fd 29)) 0 [] @PySem.Value.none @PySem.Value.none @PySem.Value.none @PySem.Value.none (Option.none) @PySem.Value.none @PySem.Value.none 0)) #[])
noncomputable def o296 (P : Params) : Obj := (Obj.mk (Value.type "code") (Option.none) (Data.fields #[(Value.str (Str.ofString "_law_read") 1895), (Value.str (Str.ofString "_law_read") 1896), (Value.str (Str.ofString "/claim/cut.py") 1897), (Value.int (182 : Int) 0), (Value.int (1 : Int) 0), (Value.int (0 : Int) 0), (Value.int (0 : Int) 0), (Value.int (3 : Int) 0), (Value.ref 261), (Value.bool @Bool.true), (Value.int (276 : Int) 0), (Value.ref 262), @PySem.Value.none, (Value.ref 263), (Value.ref 264), (Value.ref 265), (Value.int (1907 : Int) 0), (Value.int (182 : Int) 0), (Value.str (Str.ofString "/claim/cut.py") 1908)]) #[])
noncomputable def o297 (P : Params) : Obj := (Obj.mk (Value.type "function") (Option.none) (Data.func (FuncData.mk (Str.ofString "_law_read") (Str.ofString "_law_read") (fArgs (fd 29)) (FuncBody.stmts (fBody (fd 29))) (fScope (fd 29)) 3 [] @PySem.Value.none @PySem.Value.none @PySem.Value.none (Value.str (Str.ofString "law_vu0001_01") 1801) (Option.none) (Value.ref 266) @PySem.Value.none 0)) #[])
noncomputable def o298 (P : Params) : Obj := (Obj.mk (Value.type "tuple") (Option.none) (Data.seq #[] 0) #[])
noncomputable def o299 (P : Params) : Obj := (Obj.mk @PySem.Value.none (Option.none) (Data.fields #[]) #[])
noncomputable def o300 (P : Params) : Obj := (Obj.mk (Value.type "tuple") (Option.none) (Data.seq #[(Value.str (Str.ofString "script") 1913), (Value.str (Str.ofString "text") 1914), (Value.str (Str.ofString "told") 1915), (Value.str (Str.ofString "refused") 1916), (Value.str (Str.ofString "token") 1917)] 0) #[])
noncomputable def o301 (P : Params) : Obj := (Obj.mk (Value.type "tuple") (Option.none) (Data.seq #[] 0) #[])
noncomputable def o302 (P : Params) : Obj := (Obj.mk @PySem.Value.none (Option.none) (Data.func (FuncData.mk (Str.ofString "law") (Str.ofString "law") (fArgs (fd 30)) (FuncBody.stmts (fBody (fd 30))) (fScope (fd 30)) 0 [] @PySem.Value.none @PySem.Value.none @PySem.Value.none @PySem.Value.none (Option.none) @PySem.Value.none @PySem.Value.none 0)) #[])
noncomputable def o303 (P : Params) : Obj := (Obj.mk (Value.type "code") (Option.none) (Data.fields #[(Value.str (Str.ofString "law") 1910), (Value.str (Str.ofString "law") 1911), (Value.str (Str.ofString "/claim/cut.py") 1912), (Value.int (223 : Int) 0), (Value.int (1 : Int) 0), (Value.int (0 : Int) 0), (Value.int (0 : Int) 0), (Value.int (3 : Int) 0), (Value.ref 268), (Value.bool @Bool.true), (Value.int (276 : Int) 0), (Value.ref 269), @PySem.Value.none, (Value.ref 270), (Value.ref 271), (Value.ref 272), (Value.int (1918 : Int) 0), (Value.int (223 : Int) 0), (Value.str (Str.ofString "/claim/cut.py") 1919)]) #[])
noncomputable def o304 (P : Params) : Obj := (Obj.mk (Value.type "function") (Option.none) (Data.func (FuncData.mk (Str.ofString "law") (Str.ofString "law") (fArgs (fd 30)) (FuncBody.stmts (fBody (fd 30))) (fScope (fd 30)) 3 [] @PySem.Value.none @PySem.Value.none @PySem.Value.none (Value.str (Str.ofString "law_vu0001_01") 1801) (Option.none) (Value.ref 273) @PySem.Value.none 0)) #[])
noncomputable def t17 (P : Params) : BT := (.node (o0 P) (.node (o1 P) (.node (o282 P) (.node (o7 P) (.node (o15 P) (.node (o31 P) (.node (o73 P) (.node (o146 P) (.node (o285 P) .nil .nil) .nil) (.node (o215 P) .nil .nil)) (.node (o107 P) (.node (o175 P) .nil .nil) (.node (o249 P) .nil .nil))) (.node (o51 P) (.node (o91 P) (.node (o158 P) (.node (o301 P) .nil .nil) .nil) (.node (o231 P) .nil .nil)) (.node (o123 P) (.node (o194 P) .nil .nil) (.node (o267 P) .nil .nil)))) (.node (o23 P) (.node (o42 P) (.node (o81 P) (.node (o150 P) (.node (o293 P) .nil .nil) .nil) (.node (o223 P) .nil .nil)) (.node (o115 P) (.node (o184 P) .nil .nil) (.node (o259 P) .nil .nil))) (.node (o62 P) (.node (o99 P) (.node (o166 P) .nil .nil) (.node (o239 P) .nil .nil)) (.node (o131 P) (.node (o204 P) .nil .nil) (.node (o275 P) .nil .nil))))) (.node (o11 P) (.node (o19 P) (.node (o37 P) (.node (o77 P) (.node (o143 P) (.node (o289 P) .nil .nil) .nil) (.node (o219 P) .nil .nil)) (.node (o111 P) (.node (o179 P) .nil .nil) (.node (o255 P) .nil .nil))) (.node (o58 P) (.node (o95 P) (.node (o162 P) .nil .nil) (.node (o235 P) .nil .nil)) (.node (o127 P) (.node (o199 P) .nil .nil) (.node (o271 P) .nil .nil)))) (.node (o27 P) (.node (o46 P) (.node (o87 P) (.node (o154 P) (.node (o297 P) .nil .nil) .nil) (.node (o227 P) .nil .nil)) (.node (o119 P) (.node (o189 P) .nil .nil) (.node (o263 P) .nil .nil))) (.node (o66 P) (.node (o103 P) (.node (o170 P) .nil .nil) (.node (o245 P) .nil .nil)) (.node (o135 P) (.node (o209 P) .nil .nil) (.node (o279 P) .nil .nil)))))) (.node (o5 P) (.node (o9 P) (.node (o17 P) (.node (o35 P) (.node (o75 P) (.node (o141 P) (.node (o287 P) .nil .nil) .nil) (.node (o217 P) .nil .nil)) (.node (o109 P) (.node (o177 P) .nil .nil) (.node (o251 P) .nil .nil))) (.node (o56 P) (.node (o93 P) (.node (o160 P) (.node (o303 P) .nil .nil) .nil) (.node (o233 P) .nil .nil)) (.node (o125 P) (.node (o196 P) .nil .nil) (.node (o269 P) .nil .nil)))) (.node (o25 P) (.node (o44 P) (.node (o83 P) (.node (o152 P) (.node (o295 P) .nil .nil) .nil) (.node (o225 P) .nil .nil)) (.node (o117 P) (.node (o187 P) .nil .nil) (.node (o261 P) .nil .nil))) (.node (o64 P) (.node (o101 P) (.node (o168 P) .nil .nil) (.node (o241 P) .nil .nil)) (.node (o133 P) (.node (o207 P) .nil .nil) (.node (o277 P) .nil .nil))))) (.node (o13 P) (.node (o21 P) (.node (o39 P) (.node (o79 P) (.node (o148 P) (.node (o291 P) .nil .nil) .nil) (.node (o221 P) .nil .nil)) (.node (o113 P) (.node (o182 P) .nil .nil) (.node (o257 P) .nil .nil))) (.node (o60 P) (.node (o97 P) (.node (o164 P) .nil .nil) (.node (o237 P) .nil .nil)) (.node (o129 P) (.node (o202 P) .nil .nil) (.node (o273 P) .nil .nil)))) (.node (o283 P) (.node (o49 P) (.node (o89 P) (.node (o156 P) (.node (o299 P) .nil .nil) .nil) (.node (o229 P) .nil .nil)) (.node (o121 P) (.node (o191 P) .nil .nil) (.node (o265 P) .nil .nil))) (.node (o68 P) (.node (o105 P) (.node (o172 P) .nil .nil) (.node (o247 P) .nil .nil)) (.node (o137 P) (.node (o211 P) .nil .nil) (.node (o281 P) .nil .nil))))))) (.node (o53 P) (.node (o4 P) (.node (o8 P) (.node (o16 P) (.node (o34 P) (.node (o74 P) (.node (o140 P) (.node (o286 P) .nil .nil) .nil) (.node (o216 P) .nil .nil)) (.node (o108 P) (.node (o176 P) .nil .nil) (.node (o250 P) .nil .nil))) (.node (o52 P) (.node (o92 P) (.node (o159 P) (.node (o302 P) .nil .nil) .nil) (.node (o232 P) .nil .nil)) (.node (o124 P) (.node (o195 P) .nil .nil) (.node (o268 P) .nil .nil)))) (.node (o24 P) (.node (o43 P) (.node (o82 P) (.node (o151 P) (.node (o294 P) .nil .nil) .nil) (.node (o224 P) .nil .nil)) (.node (o116 P) (.node (o185 P) .nil .nil) (.node (o260 P) .nil .nil))) (.node (o63 P) (.node (o100 P) (.node (o167 P) .nil .nil) (.node (o240 P) .nil .nil)) (.node (o132 P) (.node (o205 P) .nil .nil) (.node (o276 P) .nil .nil))))) (.node (o12 P) (.node (o20 P) (.node (o38 P) (.node (o78 P) (.node (o147 P) (.node (o290 P) .nil .nil) .nil) (.node (o220 P) .nil .nil)) (.node (o112 P) (.node (o181 P) .nil .nil) (.node (o256 P) .nil .nil))) (.node (o59 P) (.node (o96 P) (.node (o163 P) .nil .nil) (.node (o236 P) .nil .nil)) (.node (o128 P) (.node (o201 P) .nil .nil) (.node (o272 P) .nil .nil)))) (.node (o28 P) (.node (o48 P) (.node (o88 P) (.node (o155 P) (.node (o298 P) .nil .nil) .nil) (.node (o228 P) .nil .nil)) (.node (o120 P) (.node (o190 P) .nil .nil) (.node (o264 P) .nil .nil))) (.node (o67 P) (.node (o104 P) (.node (o171 P) .nil .nil) (.node (o246 P) .nil .nil)) (.node (o136 P) (.node (o210 P) .nil .nil) (.node (o280 P) .nil .nil)))))) (.node (o6 P) (.node (o10 P) (.node (o18 P) (.node (o36 P) (.node (o76 P) (.node (o142 P) (.node (o288 P) .nil .nil) .nil) (.node (o218 P) .nil .nil)) (.node (o110 P) (.node (o178 P) .nil .nil) (.node (o254 P) .nil .nil))) (.node (o57 P) (.node (o94 P) (.node (o161 P) (.node (o304 P) .nil .nil) .nil) (.node (o234 P) .nil .nil)) (.node (o126 P) (.node (o197 P) .nil .nil) (.node (o270 P) .nil .nil)))) (.node (o26 P) (.node (o45 P) (.node (o86 P) (.node (o153 P) (.node (o296 P) .nil .nil) .nil) (.node (o226 P) .nil .nil)) (.node (o118 P) (.node (o188 P) .nil .nil) (.node (o262 P) .nil .nil))) (.node (o71 P) (.node (o102 P) (.node (o169 P) .nil .nil) (.node (o244 P) .nil .nil)) (.node (o134 P) (.node (o208 P) .nil .nil) (.node (o278 P) .nil .nil))))) (.node (o14 P) (.node (o22 P) (.node (o40 P) (.node (o80 P) (.node (o149 P) (.node (o292 P) .nil .nil) .nil) (.node (o222 P) .nil .nil)) (.node (o114 P) (.node (o183 P) .nil .nil) (.node (o258 P) .nil .nil))) (.node (o61 P) (.node (o98 P) (.node (o165 P) .nil .nil) (.node (o238 P) .nil .nil)) (.node (o130 P) (.node (o203 P) .nil .nil) (.node (o274 P) .nil .nil)))) (.node (o30 P) (.node (o50 P) (.node (o90 P) (.node (o157 P) (.node (o300 P) .nil .nil) .nil) (.node (o230 P) .nil .nil)) (.node (o122 P) (.node (o193 P) .nil .nil) (.node (o266 P) .nil .nil))) (.node (o72 P) (.node (o106 P) (.node (o173 P) .nil .nil) (.node (o248 P) .nil .nil)) (.node (o138 P) (.node (o214 P) .nil .nil) (.node (o284 P) .nil .nil))))))))
noncomputable def s17 (w : World) (os : OsState) : SharedT := ⟨t17 w.params, 275, (Life.mk [] [] [] 0 [] [] @Bool.false #[] [] 0 @Bool.false @Bool.false @Bool.false (0 : Int) [(2000 : Int), (10 : Int), (10 : Int)] @Bool.false 0 @Bool.true [] [] 0 @Bool.false), #[], ⟨0, 0, 0, 0⟩, 1921, os⟩
noncomputable def hF (P : Params) : Heap := ⟨#[o0 P, o1 P, o53 P, o282 P, o4 P, o5 P, o6 P, o7 P, o8 P, o9 P, o10 P, o11 P, o12 P, o13 P, o14 P, o15 P, o16 P, o17 P, o18 P, o19 P, o20 P, o21 P, o22 P, o23 P, o24 P, o25 P, o26 P, o27 P, o28 P, o283 P, o30 P, o31 P, o34 P, o35 P, o36 P, o37 P, o38 P, o39 P, o40 P, o42 P, o43 P, o44 P, o45 P, o46 P, o48 P, o49 P, o50 P, o51 P, o52 P, o56 P, o57 P, o58 P, o59 P, o60 P, o61 P, o62 P, o63 P, o64 P, o71 P, o66 P, o67 P, o68 P, o72 P, o73 P, o74 P, o75 P, o76 P, o77 P, o78 P, o79 P, o80 P, o81 P, o82 P, o83 P, o86 P, o87 P, o88 P, o89 P, o90 P, o91 P, o92 P, o93 P, o94 P, o95 P, o96 P, o97 P, o98 P, o99 P, o100 P, o101 P, o102 P, o103 P, o104 P, o105 P, o106 P, o107 P, o108 P, o109 P, o110 P, o111 P, o112 P, o113 P, o114 P, o115 P, o116 P, o117 P, o118 P, o119 P, o120 P, o121 P, o122 P, o123 P, o124 P, o125 P, o126 P, o127 P, o128 P, o129 P, o130 P, o131 P, o132 P, o133 P, o134 P, o135 P, o136 P, o137 P, o138 P, o146 P, o140 P, o141 P, o142 P, o143 P, o147 P, o148 P, o149 P, o150 P, o151 P, o152 P, o153 P, o154 P, o155 P, o156 P, o157 P, o158 P, o159 P, o160 P, o161 P, o162 P, o163 P, o164 P, o165 P, o166 P, o167 P, o168 P, o169 P, o170 P, o171 P, o172 P, o173 P, o175 P, o176 P, o177 P, o178 P, o179 P, o181 P, o182 P, o183 P, o184 P, o185 P, o187 P, o188 P, o189 P, o190 P, o191 P, o193 P, o194 P, o195 P, o196 P, o197 P, o199 P, o201 P, o202 P, o203 P, o204 P, o205 P, o207 P, o208 P, o209 P, o210 P, o211 P, o214 P, o215 P, o216 P, o217 P, o218 P, o219 P, o220 P, o221 P, o222 P, o223 P, o224 P, o225 P, o226 P, o227 P, o228 P, o229 P, o230 P, o231 P, o232 P, o233 P, o234 P, o235 P, o236 P, o237 P, o238 P, o239 P, o240 P, o241 P, o244 P, o245 P, o246 P, o247 P, o248 P, o249 P, o250 P, o251 P, o254 P, o255 P, o256 P, o257 P, o258 P, o259 P, o260 P, o261 P, o262 P, o263 P, o264 P, o265 P, o266 P, o267 P, o268 P, o269 P, o270 P, o271 P, o272 P, o273 P, o274 P, o275 P, o276 P, o277 P, o278 P, o279 P, o280 P, o281 P, o284 P, o285 P, o286 P, o287 P, o288 P, o289 P, o290 P, o291 P, o292 P, o293 P, o294 P, o295 P, o296 P, o297 P, o298 P, o299 P, o300 P, o301 P, o302 P, o303 P, o304 P], (Life.mk [] [] [] 0 [] [] @Bool.false #[] [] 0 @Bool.false @Bool.false @Bool.false (0 : Int) [(2000 : Int), (10 : Int), (10 : Int)] @Bool.false 0 @Bool.true [] [] 0 @Bool.false)⟩
noncomputable def sF (w : World) (os : OsState) : Shared := ⟨hF w.params, #[], ⟨0, 0, 0, 0⟩, 1921, os⟩
end Mine
lay_quick Mine.hZ Mine.hA Mine.sZ Mine.sA Mine.sB Mine.s0 Mine.s1 Mine.s2 Mine.s3 Mine.s4 Mine.s5 Mine.s6 Mine.s7 Mine.s8 Mine.s9 Mine.s10 Mine.s11 Mine.s12 Mine.s13 Mine.s14 Mine.s15 Mine.s16 Mine.s17 Mine.hF Mine.sF
namespace Mine
theorem pc0 (w : World) (os : OsState) : segRunT treeTable pq w 28 (some (.ref 6)) 1 39 (sB w os) (piecesOf [fd 1, fd 2] env cq ⟨0, 0, 0, 0⟩ Bq) = some (.next, s0 w os, cq, ⟨5, 0, 5, 8⟩) := by
  rw [PySem.W.Fast.te10110043849684766642, PySem.W.Fast.te14364793385576792824, PySem.W.Fast.te1509421604679539568, PySem.W.Fast.te11126991967810127485]; kernel_rfl
theorem pc1 (w : World) (os : OsState) : segRunT (tbq (codeK 3) (grpK 3)) pq w 28 (some (.ref 6)) 1 182 (s0 w os) (qthread (fd 3) env cq ⟨5, 0, 5, 8⟩ Bq) = some (.next, s1 w os, cq, ⟨6, 0, 6, 10⟩) := by
  rw [PySem.W.Fast.te10110043849684766642, PySem.W.Fast.te5525411883226446360, PySem.W.Fast.te11126991967810127485, PySem.W.Fast.te10674573038392525480]; kernel_rfl
theorem pc2 (w : World) (os : OsState) : segRunT (tbq (codeK 4) (grpK 4)) pq w 28 (some (.ref 6)) 1 182 (s1 w os) (qthread (fd 4) env cq ⟨6, 0, 6, 10⟩ Bq) = some (.next, s2 w os, cq, ⟨7, 0, 7, 10⟩) := by
  rw [PySem.W.Fast.te10110043849684766642, PySem.W.Fast.te5525411883226446360, PySem.W.Fast.te10674573038392525480, PySem.W.Fast.te7272093352670637256]; kernel_rfl
theorem pc3 (w : World) (os : OsState) : segRunT treeTable pq w 28 (some (.ref 6)) 1 197 (s2 w os) (piecesOf [fd 5] env cq ⟨7, 0, 7, 10⟩ Bq) = some (.next, s3 w os, cq, ⟨8, 0, 9, 8⟩) := by
  rw [PySem.W.Fast.te10110043849684766642, PySem.W.Fast.te14364793385576792824, PySem.W.Fast.te7272093352670637256, PySem.W.Fast.te10142514953723157121]; kernel_rfl
theorem pc4 (w : World) (os : OsState) : segRunT treeTable pq w 28 (some (.ref 6)) 1 214 (s3 w os) (piecesOf [fd 6] env cq ⟨8, 0, 9, 8⟩ Bq) = some (.next, s4 w os, cq, ⟨10, 0, 11, 8⟩) := by
  rw [PySem.W.Fast.te10110043849684766642, PySem.W.Fast.te14364793385576792824, PySem.W.Fast.te10142514953723157121, PySem.W.Fast.te9092559193896708335]; kernel_rfl
theorem pc5 (w : World) (os : OsState) : segRunT treeTable pq w 28 (some (.ref 6)) 1 500 (s4 w os) (piecesOf [fd 7] env cq ⟨10, 0, 11, 8⟩ Bq) = some (.next, s5 w os, cq, ⟨12, 0, 34, 16⟩) := by
  rw [PySem.W.Fast.te10110043849684766642, PySem.W.Fast.te14364793385576792824, PySem.W.Fast.te9092559193896708335, PySem.W.Fast.te13052637778663081845]; kernel_rfl
theorem pc6 (w : World) (os : OsState) : segRunT treeTable pq w 28 (some (.ref 6)) 1 281 (s5 w os) (piecesOf [fd 8] env cq ⟨12, 0, 34, 16⟩ Bq) = some (.next, s6 w os, cq, ⟨35, 0, 41, 45⟩) := by
  rw [PySem.W.Fast.te10110043849684766642, PySem.W.Fast.te14364793385576792824, PySem.W.Fast.te13052637778663081845, PySem.W.Fast.te17938692770518964137]; kernel_rfl
theorem pc7 (w : World) (os : OsState) : segRunT (tbq (codeK 9) (grpK 9)) pq w 28 (some (.ref 6)) 1 73 (s6 w os) (qthread (fd 9) env cq ⟨35, 0, 41, 45⟩ Bq) = some (.next, s7 w os, cq, ⟨42, 0, 42, 17⟩) := by
  rw [PySem.W.Fast.te10110043849684766642, PySem.W.Fast.te5525411883226446360, PySem.W.Fast.te17938692770518964137, PySem.W.Fast.te3954081871767774930]; kernel_rfl
theorem pc8 (w : World) (os : OsState) : segRunT (tbq (codeK 10) (grpK 10)) pq w 28 (some (.ref 6)) 1 111 (s7 w os) (qthread (fd 10) env cq ⟨42, 0, 42, 17⟩ Bq) = some (.next, s8 w os, cq, ⟨43, 0, 43, 13⟩) := by
  rw [PySem.W.Fast.te10110043849684766642, PySem.W.Fast.te5525411883226446360, PySem.W.Fast.te3954081871767774930, PySem.W.Fast.te7157247662857171835]; kernel_rfl
theorem pc9 (w : World) (os : OsState) : segRunT (tbq (codeK 11) (grpK 11)) pq w 28 (some (.ref 6)) 1 332 (s8 w os) (qthread (fd 11) env cq ⟨43, 0, 43, 13⟩ Bq) = some (.next, s9 w os, cq, ⟨44, 0, 44, 11⟩) := by
  rw [PySem.W.Fast.te10110043849684766642, PySem.W.Fast.te5525411883226446360, PySem.W.Fast.te7157247662857171835, PySem.W.Fast.te12464628988462019384]; kernel_rfl
theorem pc10 (w : World) (os : OsState) : segRunT (tbq (codeK 12) (grpK 12)) pq w 28 (some (.ref 6)) 1 598 (s9 w os) (qthread (fd 12) env cq ⟨44, 0, 44, 11⟩ Bq) = some (.next, s10 w os, cq, ⟨45, 0, 45, 12⟩) := by
  rw [PySem.W.Fast.te10110043849684766642, PySem.W.Fast.te5525411883226446360, PySem.W.Fast.te12464628988462019384, PySem.W.Fast.te10900640597396524119]; kernel_rfl
theorem pc11 (w : World) (os : OsState) : segRunT treeTable pq w 28 (some (.ref 6)) 1 43 (s10 w os) (piecesOf [fd 13] env cq ⟨45, 0, 45, 12⟩ Bq) = some (.next, s11 w os, cq, ⟨46, 0, 46, 22⟩) := byRow2 "special-get-raises" (P := fun w => ∀ os, segRunT treeTable pq w 28 (some (.ref 6)) 1 43 (s10 w os) (piecesOf [fd 13] env cq ⟨45, 0, 45, 12⟩ Bq) = some (.next, s11 w os, cq, ⟨46, 0, 46, 22⟩)) (fun w os => by rw [PySem.W.Fast.te10110043849684766642, PySem.W.Fast.te14364793385576792824, PySem.W.Fast.te10900640597396524119, PySem.W.Fast.te13273772772769938408]; kernel_rfl) (fun w os => by rw [PySem.W.Fast.te10110043849684766642, PySem.W.Fast.te14364793385576792824, PySem.W.Fast.te10900640597396524119, PySem.W.Fast.te13273772772769938408]; kernel_rfl) w os
theorem pc12 (w : World) (os : OsState) : segRunT (tbq (codeK 14) (grpK 14)) pq w 28 (some (.ref 6)) 1 109 (s11 w os) (qthread (fd 14) env cq ⟨46, 0, 46, 22⟩ Bq) = some (.next, s12 w os, cq, ⟨47, 0, 47, 15⟩) := by
  rw [PySem.W.Fast.te10110043849684766642, PySem.W.Fast.te5525411883226446360, PySem.W.Fast.te13273772772769938408, PySem.W.Fast.te6321602054033576261]; kernel_rfl
theorem pc13 (w : World) (os : OsState) : segRunT (tbq (codeK 15) (grpK 15)) pq w 28 (some (.ref 6)) 1 86 (s12 w os) (qthread (fd 15) env cq ⟨47, 0, 47, 15⟩ Bq) = some (.next, s13 w os, cq, ⟨48, 0, 48, 15⟩) := by
  rw [PySem.W.Fast.te10110043849684766642, PySem.W.Fast.te5525411883226446360, PySem.W.Fast.te6321602054033576261, PySem.W.Fast.te7591143502915705866]; kernel_rfl
theorem pc14 (w : World) (os : OsState) : segRunT treeTable pq w 28 (some (.ref 6)) 1 123 (s13 w os) (piecesOf [fd 16, fd 17, fd 18, fd 19] env cq ⟨48, 0, 48, 15⟩ Bq) = some (.next, s14 w os, cq, ⟨69, 0, 70, 57⟩) := by
  rw [PySem.W.Fast.te10110043849684766642, PySem.W.Fast.te14364793385576792824, PySem.W.Fast.te7591143502915705866, PySem.W.Fast.te9558896170131036883]; kernel_rfl
theorem pc15 (w : World) (os : OsState) : segRunT treeTable pq w 28 (some (.ref 6)) 1 103 (s14 w os) (piecesOf [fd 20, fd 21, fd 22, fd 23] env cq ⟨69, 0, 70, 57⟩ Bq) = some (.next, s15 w os, cq, ⟨126, 0, 126, 12⟩) := by
  rw [PySem.W.Fast.te10110043849684766642, PySem.W.Fast.te14364793385576792824, PySem.W.Fast.te9558896170131036883, PySem.W.Fast.te8817923766190861500]; kernel_rfl
theorem pc16 (w : World) (os : OsState) : segRunT treeTable pq w 28 (some (.ref 6)) 1 132 (s15 w os) (piecesOf [fd 24, fd 25, fd 26, fd 27] env cq ⟨126, 0, 126, 12⟩ Bq) = some (.next, s16 w os, cq, ⟨162, 0, 177, 51⟩) := by
  rw [PySem.W.Fast.te10110043849684766642, PySem.W.Fast.te14364793385576792824, PySem.W.Fast.te8817923766190861500, PySem.W.Fast.te3661910460011539990]; kernel_rfl
theorem pc17 (w : World) (os : OsState) : segRunT treeTable pq w 28 (some (.ref 6)) 1 101 (s16 w os) (piecesOf [fd 28, fd 29, fd 30] env cq ⟨162, 0, 177, 51⟩ Bq) = some (.next, s17 w os, cq, ⟨223, 0, 231, 45⟩) := by
  rw [PySem.W.Fast.te10110043849684766642, PySem.W.Fast.te14364793385576792824, PySem.W.Fast.te3661910460011539990, PySem.W.Fast.te12137448466141968990]; kernel_rfl
theorem preq (w : World) (os : OsState) : topGo treeTable pq w 28 (some (.ref 6)) 12 (sZ w os) (topStub pq) = some (sA w os, ⟨denote treeTable cq, cq, ⟨0, 0, 0, 0⟩, Bq⟩) := by
  rw [PySem.W.Fast.te15667345088766844465, PySem.W.Fast.te14364793385576792824, PySem.W.Fast.te11892475500146522536, PySem.W.Fast.te13367865709172503564, PySem.W.Fast.te16940480111569310127]; kernel_rfl
theorem blockq (w : World) (os : OsState) : segRun treeTable pq w 28 (some (.ref 6)) 1 1 (sA w os) (blockOf (behindTheImports pq) env cq ⟨0, 0, 0, 0⟩ Bq) = some (.next, (sB w os).abs, cq, ⟨0, 0, 0, 0⟩) := by
  rw [PySem.W.Fast.te14374325043358763698, PySem.W.Fast.te14364793385576792824, PySem.W.Fast.te16940480111569310127, PySem.W.Fast.te1509421604679539568]; kernel_rfl
theorem finq (w : World) (os : OsState) : topRun treeTable pq w 28 (some (.ref 6)) 2 (s17 w os).abs ⟨doneF .next, cq, ⟨223, 0, 231, 45⟩, Bq⟩ = some (sF w os) := by
  rw [PySem.W.Fast.te14082659384304107361, PySem.W.Fast.te14364793385576792824, PySem.W.Fast.te12137448466141968990, PySem.W.Fast.te17913824107634162198]; kernel_rfl
theorem openq (w : World) : (fencedOpening treeTable pq w 7000).map (fun s => (s.heap, s.gens, s.drawn, s.toks)) = some (hZ w.params, #[], ⟨0, 0, 0, 0⟩, 276) := by
  unfold fencedOpening; rw [PySem.W.Fast.te10274390034422433532, PySem.W.Fast.te14364793385576792824, PySem.W.Fast.te14315220602701470085]; kernel_rfl
theorem pd0 (w : World) (os : OsState) : segRun treeTable pq w 28 (some (.ref 6)) 1 39 (sB w os).abs (piecesOf [fd 1, fd 2] env cq ⟨0, 0, 0, 0⟩ Bq) = some (.next, (s0 w os).abs, cq, ⟨5, 0, 5, 8⟩) :=
  segRun_of (pc0 w os)
theorem wf3 : Sre.wellFormed ⟨codeK 3⟩ (grpK 3) = true := by rw [PySem.W.Fast.te3018943357349503271]; kernel_rfl
theorem okq3 : okQ (fd 3) = true := by kernel_rfl
theorem pd1 (w : World) (os : OsState) : segRun treeTable pq w 28 (some (.ref 6)) 1 182 (s0 w os).abs (piecesOf [fd 3] env cq ⟨5, 0, 5, 8⟩ Bq) = some (.next, (s1 w os).abs, cq, ⟨6, 0, 6, 10⟩) :=
  segRun_of (heavy okq3 wf3 (pc1 w os))
theorem wf4 : Sre.wellFormed ⟨codeK 4⟩ (grpK 4) = true := by rw [PySem.W.Fast.te3018943357349503271]; kernel_rfl
theorem okq4 : okQ (fd 4) = true := by kernel_rfl
theorem pd2 (w : World) (os : OsState) : segRun treeTable pq w 28 (some (.ref 6)) 1 182 (s1 w os).abs (piecesOf [fd 4] env cq ⟨6, 0, 6, 10⟩ Bq) = some (.next, (s2 w os).abs, cq, ⟨7, 0, 7, 10⟩) :=
  segRun_of (heavy okq4 wf4 (pc2 w os))
theorem pd3 (w : World) (os : OsState) : segRun treeTable pq w 28 (some (.ref 6)) 1 197 (s2 w os).abs (piecesOf [fd 5] env cq ⟨7, 0, 7, 10⟩ Bq) = some (.next, (s3 w os).abs, cq, ⟨8, 0, 9, 8⟩) :=
  segRun_of (pc3 w os)
theorem pd4 (w : World) (os : OsState) : segRun treeTable pq w 28 (some (.ref 6)) 1 214 (s3 w os).abs (piecesOf [fd 6] env cq ⟨8, 0, 9, 8⟩ Bq) = some (.next, (s4 w os).abs, cq, ⟨10, 0, 11, 8⟩) :=
  segRun_of (pc4 w os)
theorem pd5 (w : World) (os : OsState) : segRun treeTable pq w 28 (some (.ref 6)) 1 500 (s4 w os).abs (piecesOf [fd 7] env cq ⟨10, 0, 11, 8⟩ Bq) = some (.next, (s5 w os).abs, cq, ⟨12, 0, 34, 16⟩) :=
  segRun_of (pc5 w os)
theorem pd6 (w : World) (os : OsState) : segRun treeTable pq w 28 (some (.ref 6)) 1 281 (s5 w os).abs (piecesOf [fd 8] env cq ⟨12, 0, 34, 16⟩ Bq) = some (.next, (s6 w os).abs, cq, ⟨35, 0, 41, 45⟩) :=
  segRun_of (pc6 w os)
theorem wf9 : Sre.wellFormed ⟨codeK 9⟩ (grpK 9) = true := by rw [PySem.W.Fast.te3018943357349503271]; kernel_rfl
theorem okq9 : okQ (fd 9) = true := by kernel_rfl
theorem pd7 (w : World) (os : OsState) : segRun treeTable pq w 28 (some (.ref 6)) 1 73 (s6 w os).abs (piecesOf [fd 9] env cq ⟨35, 0, 41, 45⟩ Bq) = some (.next, (s7 w os).abs, cq, ⟨42, 0, 42, 17⟩) :=
  segRun_of (heavy okq9 wf9 (pc7 w os))
theorem wf10 : Sre.wellFormed ⟨codeK 10⟩ (grpK 10) = true := by rw [PySem.W.Fast.te3018943357349503271]; kernel_rfl
theorem okq10 : okQ (fd 10) = true := by kernel_rfl
theorem pd8 (w : World) (os : OsState) : segRun treeTable pq w 28 (some (.ref 6)) 1 111 (s7 w os).abs (piecesOf [fd 10] env cq ⟨42, 0, 42, 17⟩ Bq) = some (.next, (s8 w os).abs, cq, ⟨43, 0, 43, 13⟩) :=
  segRun_of (heavy okq10 wf10 (pc8 w os))
theorem wf11 : Sre.wellFormed ⟨codeK 11⟩ (grpK 11) = true := by rw [PySem.W.Fast.te3018943357349503271]; kernel_rfl
theorem okq11 : okQ (fd 11) = true := by kernel_rfl
theorem pd9 (w : World) (os : OsState) : segRun treeTable pq w 28 (some (.ref 6)) 1 332 (s8 w os).abs (piecesOf [fd 11] env cq ⟨43, 0, 43, 13⟩ Bq) = some (.next, (s9 w os).abs, cq, ⟨44, 0, 44, 11⟩) :=
  segRun_of (heavy okq11 wf11 (pc9 w os))
theorem wf12 : Sre.wellFormed ⟨codeK 12⟩ (grpK 12) = true := by rw [PySem.W.Fast.te3018943357349503271]; kernel_rfl
theorem okq12 : okQ (fd 12) = true := by kernel_rfl
theorem pd10 (w : World) (os : OsState) : segRun treeTable pq w 28 (some (.ref 6)) 1 598 (s9 w os).abs (piecesOf [fd 12] env cq ⟨44, 0, 44, 11⟩ Bq) = some (.next, (s10 w os).abs, cq, ⟨45, 0, 45, 12⟩) :=
  segRun_of (heavy okq12 wf12 (pc10 w os))
theorem pd11 (w : World) (os : OsState) : segRun treeTable pq w 28 (some (.ref 6)) 1 43 (s10 w os).abs (piecesOf [fd 13] env cq ⟨45, 0, 45, 12⟩ Bq) = some (.next, (s11 w os).abs, cq, ⟨46, 0, 46, 22⟩) :=
  segRun_of (pc11 w os)
theorem wf14 : Sre.wellFormed ⟨codeK 14⟩ (grpK 14) = true := by rw [PySem.W.Fast.te3018943357349503271]; kernel_rfl
theorem okq14 : okQ (fd 14) = true := by kernel_rfl
theorem pd12 (w : World) (os : OsState) : segRun treeTable pq w 28 (some (.ref 6)) 1 109 (s11 w os).abs (piecesOf [fd 14] env cq ⟨46, 0, 46, 22⟩ Bq) = some (.next, (s12 w os).abs, cq, ⟨47, 0, 47, 15⟩) :=
  segRun_of (heavy okq14 wf14 (pc12 w os))
theorem wf15 : Sre.wellFormed ⟨codeK 15⟩ (grpK 15) = true := by rw [PySem.W.Fast.te3018943357349503271]; kernel_rfl
theorem okq15 : okQ (fd 15) = true := by kernel_rfl
theorem pd13 (w : World) (os : OsState) : segRun treeTable pq w 28 (some (.ref 6)) 1 86 (s12 w os).abs (piecesOf [fd 15] env cq ⟨47, 0, 47, 15⟩ Bq) = some (.next, (s13 w os).abs, cq, ⟨48, 0, 48, 15⟩) :=
  segRun_of (heavy okq15 wf15 (pc13 w os))
theorem pd14 (w : World) (os : OsState) : segRun treeTable pq w 28 (some (.ref 6)) 1 123 (s13 w os).abs (piecesOf [fd 16, fd 17, fd 18, fd 19] env cq ⟨48, 0, 48, 15⟩ Bq) = some (.next, (s14 w os).abs, cq, ⟨69, 0, 70, 57⟩) :=
  segRun_of (pc14 w os)
theorem pd15 (w : World) (os : OsState) : segRun treeTable pq w 28 (some (.ref 6)) 1 103 (s14 w os).abs (piecesOf [fd 20, fd 21, fd 22, fd 23] env cq ⟨69, 0, 70, 57⟩ Bq) = some (.next, (s15 w os).abs, cq, ⟨126, 0, 126, 12⟩) :=
  segRun_of (pc15 w os)
theorem pd16 (w : World) (os : OsState) : segRun treeTable pq w 28 (some (.ref 6)) 1 132 (s15 w os).abs (piecesOf [fd 24, fd 25, fd 26, fd 27] env cq ⟨126, 0, 126, 12⟩ Bq) = some (.next, (s16 w os).abs, cq, ⟨162, 0, 177, 51⟩) :=
  segRun_of (pc16 w os)
theorem pd17 (w : World) (os : OsState) : segRun treeTable pq w 28 (some (.ref 6)) 1 101 (s16 w os).abs (piecesOf [fd 28, fd 29, fd 30] env cq ⟨162, 0, 177, 51⟩ Bq) = some (.next, (s17 w os).abs, cq, ⟨223, 0, 231, 45⟩) :=
  segRun_of (pc17 w os)
theorem body_is : behindTheImports pq = [fd 1, fd 2] ++ ([fd 3] ++ ([fd 4] ++ ([fd 5] ++ ([fd 6] ++ ([fd 7] ++ ([fd 8] ++ ([fd 9] ++ ([fd 10] ++ ([fd 11] ++ ([fd 12] ++ ([fd 13] ++ ([fd 14] ++ ([fd 15] ++ ([fd 16, fd 17, fd 18, fd 19] ++ ([fd 20, fd 21, fd 22, fd 23] ++ ([fd 24, fd 25, fd 26, fd 27] ++ ([fd 28, fd 29, fd 30] ++ []))))))))))))))))) := by kernel_rfl
theorem runq (w : World) (os : OsState) : topRun treeTable pq w 28 (some (.ref 6)) (12 + (1 + (39 + (182 + (182 + (197 + (214 + (500 + (281 + (73 + (111 + (332 + (598 + (43 + (109 + (86 + (123 + (103 + (132 + (101 + (2))))))))))))))))))))) (sZ w os) (topStub pq) = some (sF w os) := by
  refine go_top (preq w os) (piece_block (blockq w os) ?_)
  rw [body_is]
  exact piece_app (pd0 w os) (piece_app (pd1 w os) (piece_app (pd2 w os) (piece_app (pd3 w os) (piece_app (pd4 w os) (piece_app (pd5 w os) (piece_app (pd6 w os) (piece_app (pd7 w os) (piece_app (pd8 w os) (piece_app (pd9 w os) (piece_app (pd10 w os) (piece_app (pd11 w os) (piece_app (pd12 w os) (piece_app (pd13 w os) (piece_app (pd14 w os) (piece_app (pd15 w os) (piece_app (pd16 w os) (piece_app (pd17 w os) (piece_nil (finq w os)))))))))))))))))))
def loose : List Str := ["_sre", "_wall", "_twin_re_7", "_twin_re_8", "SelectorError", "SelectorSyntaxError", "Token", "EOFToken", "_match_whitespace", "_match_number", "_match_hash", "_match_ident", "_match_string_by_quote", "_unicode_escape", "_newline_escape", "_replace_unicode", "_sub_unicode_escape", "_sub_simple_escape", "unescape_ident", "tokenize", "_law_signs", "_law_sixteen", "_law_text", "_law_escape", "_law_name", "_law_quoted", "_law_figures", "_law_read"]
/- framePos ⟨0, 0, 0, 0⟩ code PySem.Value.ref 30 frame 31 ann some (PySem.Value.ref 6) N 6902 -/
end Mine
end
section
open PySem PySem.W PyProof.Rows
set_option Elab.async false
set_option linter.unusedVariables false
set_option maxRecDepth 100000
set_option maxHeartbeats 0
namespace Mine
/-- the view of the top that the claim leans on: the law's def alone -/
noncomputable def qv : Program := { pq with main := { pq.main with body := [fd 30] } }
def XP0 : (Str → Option Value) → Heap → Prop := fun _ _ => True
theorem sizeq (w : World) : ((hZ w.params).isNs mainGlobals && (#[] : Array GenState).size == 0, (hZ w.params).objs.size, (hZ w.params).nsMap mainGlobals "__annotations__") = (true, 28, some (.ref 6)) := by kernel_rfl
theorem looks1 (w : World) (os : OsState) : (staticsOk (importedModules pq.main.body) (hZ w.params) (hF w.params) && namesBound pq (hF w.params) && gensDone (sF w os) && laidKept (hZ w.params) (hF w.params)) = true := by kernel_rfl
theorem looks2 (w : World) (os : OsState) : openSeen qv loose (importedModules pq.main.body) (fun _ => true) true (sF w os) = openGood qv loose := by
  kernel_rfl
end Mine
end
section
open PySem PySem.W PyProof.Rows
set_option Elab.async false
set_option linter.unusedVariables false
set_option maxRecDepth 100000
set_option maxHeartbeats 0
namespace Mine
theorem leftq : LeftO PySem.Challenge.pw_vu0001_01 qv loose (fun _ => true) (fun s => s.heap) (fun w => hF w.params) 7000 := by
  rw [pq_eq]
  refine LeftO.of_pieces (H₀ := hZ) (H₁ := hF) openq sizeq runq (by decide +kernel) fun w => ?_
  funext os
  have h1 := looks1 w os
  have h2 := looks2 w os
  show (_, _, _) = (_, _, _)
  congr 1
  congr 1
end Mine
end
section
open PySem PySem.W PyProof.Rows PySem.Calls
set_option Elab.async false
set_option linter.unusedVariables false
namespace Mine

/-- a text by its signs' numbers -/
def S (l : List Nat) : Str := ⟨l.toArray⟩
theorem S_length (l : List Nat) : (S l).length = l.length := by simp [S, Str.length]

inductive PV where
  | none
  | bool (b : Bool)
  | int (i : Int)
  | str (l : List Nat)
  | tup (l : List PV)
  | lst (l : List PV)
  | raw (v : Value)
  | mat (t : List Nat) (b e : Nat) (g : Option (Nat × Nat))
  | tok (c : Nat) (ty : List Nat) (v : PV) (pos : Int)

/-- the spans' cells of a match -/
def spanOf (b e : Nat) : Option (Nat × Nat) → List Int
  | some (x, y) => [b, e, x, y]
  | .none => [b, e]

mutual
inductive Rp (X : List Addr) (h : Heap) : Value → PV → Prop
  | none : Rp X h .none .none
  | bool (b) : Rp X h (.bool b) (.bool b)
  | int (i t) : Rp X h (.int i t) (.int i)
  | str (l t) : Rp X h (.str (S l) t) (.str l)
  | raw (v) : Rp X h v (.raw v)
  | tup (a vs l) : a ∉ X → h.IsTuple a vs.toArray → Rps X h vs l → Rp X h (.ref a) (.tup l)
  | lst (a vs l) : a ∉ X → h.IsList a vs.toArray → Rps X h vs l → Rp X h (.ref a) (.lst l)
  | mat (a T t tk pat p lim li b e g) (sp : List Int) (n : Nat) : a ∉ X → T ∉ X → h.get? a = some { cls := .type "re.Match", data := .fields #[.str (S t) tk, pat, p, lim, li, .ref T] } →
      h.get? T = some { cls := .type "tuple", data := .seq (sp.map fun i => Value.int i 0).toArray n } → (∃ r, sp = spanOf b e g ++ r) → Rp X h (.ref a) (.mat t b e g)
  | tok (a d c hs tk ty tt v pv pos n nn pt) : (c = 127 ∨ c = 155) → a ∉ X → d ∉ X → h.get? a = some { cls := .ref c, dict := some d, data := .seq #[.str (S ty) tt, v] n } →
      h.get? d = some { cls := .type "dict", data := .dict #[⟨hs, .str "pos" tk, .int pos pt⟩] nn } → Rp X h v pv → Rp X h (.ref a) (.tok c ty pv pos)
inductive Rps (X : List Addr) (h : Heap) : List Value → List PV → Prop
  | nil : Rps X h [] []
  | cons {v p vs ps} : Rp X h v p → Rps X h vs ps → Rps X h (v :: vs) (p :: ps)
end

section
variable {X X' : List Addr} {h h' : Heap}
theorem isTuple_at {a : Addr} {items : Array Value} (x : h.IsTuple a items) (k : ∀ o, h.get? a = some o → h'.get? a = some o) : h'.IsTuple a items := let ⟨o, ho, r⟩ := x; ⟨o, k _ ho, r⟩
theorem isList_at {a : Addr} {items : Array Value} (x : h.IsList a items) (k : ∀ o, h.get? a = some o → h'.get? a = some o) : h'.IsList a items := let ⟨o, ho, r⟩ := x; ⟨o, k _ ho, r⟩
theorem ns_at {a : Addr} {m : Str → Option Value} (x : h.Ns a m) (k : ∀ o, h.get? a = some o → h'.get? a = some o) : h'.Ns a m := let ⟨o, es, ep, ho, r⟩ := x; ⟨o, es, ep, k _ ho, r⟩

mutual
/-- what is told of a value holds where all that it stands on is kept -/
theorem Rp.mono (k : ∀ b o, b ∉ X → h.get? b = some o → h'.get? b = some o) : ∀ {v p}, Rp X h v p → Rp X h' v p
  | _, _, .none => .none
  | _, _, .bool b => .bool b
  | _, _, .int i t => .int i t
  | _, _, .str l t => .str l t
  | _, _, .raw v => .raw v
  | _, _, .tup a vs l ha ht hr => .tup a vs l ha (isTuple_at ht (fun o => k a o ha)) (hr.mono k)
  | _, _, .lst a vs l ha ht hr => .lst a vs l ha (isList_at ht (fun o => k a o ha)) (hr.mono k)
  | _, _, .mat a T t tk pat p lim li b e g sp n ha hT h1 h2 h3 => .mat a T t tk pat p lim li b e g sp n ha hT (k _ _ ha h1) (k _ _ hT h2) h3
  | _, _, .tok a d c hs tk ty tt v pv pos n nn pt hc ha hd h1 h2 h4 => .tok a d c hs tk ty tt v pv pos n nn pt hc ha hd (k _ _ ha h1) (k _ _ hd h2) (h4.mono k)
theorem Rps.mono (k : ∀ b o, b ∉ X → h.get? b = some o → h'.get? b = some o) : ∀ {vs ps}, Rps X h vs ps → Rps X h' vs ps
  | _, _, .nil => .nil
  | _, _, .cons h1 h2 => .cons (h1.mono k) (h2.mono k)
end
mutual
/-- fewer places are shut out -/
theorem Rp.less (k : ∀ a, a ∈ X' → a ∈ X) : ∀ {v p}, Rp X h v p → Rp X' h v p
  | _, _, .none => .none
  | _, _, .bool b => .bool b
  | _, _, .int i t => .int i t
  | _, _, .str l t => .str l t
  | _, _, .raw v => .raw v
  | _, _, .tup a vs l ha ht hr => .tup a vs l (fun q => ha (k _ q)) ht (hr.less k)
  | _, _, .lst a vs l ha ht hr => .lst a vs l (fun q => ha (k _ q)) ht (hr.less k)
  | _, _, .mat a T t tk pat p lim li b e g sp n ha hT h1 h2 h3 => .mat a T t tk pat p lim li b e g sp n (fun q => ha (k _ q)) (fun q => hT (k _ q)) h1 h2 h3
  | _, _, .tok a d c hs tk ty tt v pv pos n nn pt hc ha hd h1 h2 h4 => .tok a d c hs tk ty tt v pv pos n nn pt hc (fun q => ha (k _ q)) (fun q => hd (k _ q)) h1 h2 (h4.less k)
theorem Rps.less (k : ∀ a, a ∈ X' → a ∈ X) : ∀ {vs ps}, Rps X h vs ps → Rps X' h vs ps
  | _, _, .nil => .nil
  | _, _, .cons h1 h2 => .cons (h1.less k) (h2.less k)
end
mutual
/-- more places are shut out, none of which the heap holds yet -/
theorem Rp.more (k : ∀ a, a ∈ X' → a ∈ X ∨ h.get? a = none) : ∀ {v p}, Rp X h v p → Rp X' h v p
  | _, _, .none => .none
  | _, _, .bool b => .bool b
  | _, _, .int i t => .int i t
  | _, _, .str l t => .str l t
  | _, _, .raw v => .raw v
  | _, _, .tup a vs l ha ht hr => .tup a vs l (fun q => (k _ q).elim ha fun e => by obtain ⟨o, ho, _⟩ := ht; rw [e] at ho; cases ho) ht (hr.more k)
  | _, _, .lst a vs l ha ht hr => .lst a vs l (fun q => (k _ q).elim ha fun e => by obtain ⟨o, ho, _⟩ := ht; rw [e] at ho; cases ho) ht (hr.more k)
  | _, _, .mat a T t tk pat p lim li b e g sp n ha hT h1 h2 h3 => .mat a T t tk pat p lim li b e g sp n (fun q => (k _ q).elim ha fun e => by rw [e] at h1; cases h1) (fun q => (k _ q).elim hT fun e => by rw [e] at h2; cases h2) h1 h2 h3
  | _, _, .tok a d c hs tk ty tt v pv pos n nn pt hc ha hd h1 h2 h4 => .tok a d c hs tk ty tt v pv pos n nn pt hc (fun q => (k _ q).elim ha fun e => by rw [e] at h1; cases h1)
      (fun q => (k _ q).elim hd fun e => by rw [e] at h2; cases h2) h1 h2 (h4.more k)
theorem Rps.more (k : ∀ a, a ∈ X' → a ∈ X ∨ h.get? a = none) : ∀ {vs ps}, Rps X h vs ps → Rps X' h vs ps
  | _, _, .nil => .nil
  | _, _, .cons h1 h2 => .cons (h1.more k) (h2.more k)
end
theorem Rps.length : ∀ {vs ps}, Rps X h vs ps → vs.length = ps.length
  | _, _, .nil => rfl
  | _, _, .cons _ h2 => congrArg (· + 1) h2.length
theorem Rps.append : ∀ {vs ps vs' ps'}, Rps X h vs ps → Rps X h vs' ps' → Rps X h (vs ++ vs') (ps ++ ps')
  | _, _, _, _, .nil, q => q
  | _, _, _, _, .cons h1 h2, q => .cons h1 (h2.append q)
theorem Rps.get : ∀ {vs ps} (i : Nat) {p}, Rps X h vs ps → ps[i]? = some p → ∃ v, vs[i]? = some v ∧ Rp X h v p
  | _, _, 0, _, .cons h1 _, e => ⟨_, rfl, by cases e; exact h1⟩
  | _, _, i + 1, _, .cons _ h2, e => h2.get i e
end

/-- a name's word: nothing, a value, or the activation's own list -/
inductive EV where
  | undef
  | val (p : PV)
  | own (D : Addr) (l : List PV)

def EV.At (X : List Addr) (h : Heap) (v : Value) : EV → Prop
  | .undef => True
  | .val p => Rp X h v p
  | .own D l => v = .ref D ∧ D ∈ X ∧ ∃ vs, h.PlainList D vs.toArray ∧ Rps X h vs l

abbrev Rho := List (Str × EV)

/-- the word stands at the name -/
inductive At : Rho → Str → EV → Prop
  | here {x e ρ} : At ((x, e) :: ρ) x e
  | there {x e y d ρ} : At ρ x e → At ((y, d) :: ρ) x e
/-- the word is put at the name -/
inductive Put : Rho → Str → EV → Rho → Prop
  | here {x e d ρ} : Put ((x, d) :: ρ) x e ((x, e) :: ρ)
  | there {x e y d ρ ρ'} : Put ρ x e ρ' → Put ((y, d) :: ρ) x e ((y, d) :: ρ')

theorem At.mem {ρ : Rho} {x : Str} {e : EV} (h : At ρ x e) : (x, e) ∈ ρ := by
  induction h with
  | here => exact .head _
  | there _ ih => exact .tail _ ih
theorem Put.names {ρ ρ' : Rho} {x : Str} {e : EV} (h : Put ρ x e ρ') : ρ'.map (·.1) = ρ.map (·.1) := by
  induction h with
  | here => rfl
  | there _ ih => simp only [List.map_cons, ih]
theorem Put.mem_names {ρ ρ' : Rho} {x : Str} {e : EV} (h : Put ρ x e ρ') : x ∈ ρ.map (·.1) := by
  induction h with
  | here => exact .head _
  | there _ ih => exact .tail _ ih
/-- behind a put each word is the new one, or an old one at another name -/
theorem Put.old {ρ ρ' : Rho} {x : Str} {e : EV} (h : Put ρ x e ρ') (nd : (ρ.map (·.1)).Nodup) : ∀ y d, (y, d) ∈ ρ' → (y = x ∧ d = e) ∨ (y ≠ x ∧ (y, d) ∈ ρ) := by
  induction h with
  | here =>
    intro y d hy
    rcases List.mem_cons.mp hy with q | q
    · cases q; exact .inl ⟨rfl, rfl⟩
    · refine .inr ⟨fun e => ?_, .tail _ q⟩
      subst e
      exact (List.nodup_cons.mp nd).1 (List.mem_map.mpr ⟨_, q, rfl⟩)
  | there hp ih =>
    intro y d hy
    have nd' := List.nodup_cons.mp nd
    rcases List.mem_cons.mp hy with q | q
    · cases q
      refine .inr ⟨fun e => ?_, .head _⟩
      subst e
      exact nd'.1 hp.mem_names
    · rcases ih nd'.2 y d q with r | r
      · exact .inl r
      · exact .inr ⟨r.1, .tail _ r.2⟩

/-- an activation: its model, the heap that stood before all, what is around it, its frame, the places shut out, its own places, the room left -/
structure Cx where
  prog : Program
  w : World
  hB : Heap
  A : Around
  env : Env
  X : List Addr
  own : List Addr
  n : Nat
  kind : env.scope.kind = .function
  glob : env.globals = mainGlobals
  blt : env.builtins = builtinsNs
  here : env.locals ∈ own
  sub : ∀ a ∈ own, a ∈ X
  above : ∀ a ∈ X, hB.get? a = none
  handled : A.handled = none
  depth : A.depth + n < recursionLimit
  units : A.units + 100 * n + 100 < cLine

abbrev Cx.M (C : Cx) : Model := model C.prog C.w

/-- the heap h' holds all that h holds -/
def Heap.le (h h' : Heap) : Prop := ∀ b o, h.get? b = some o → h'.get? b = some o
theorem Heap.le.rfl {h : Heap} : Heap.le h h := fun _ _ e => e
theorem Heap.le.trans {a b c : Heap} (x : Heap.le a b) (y : Heap.le b c) : Heap.le a c := fun i o e => y i o (x i o e)
/-- all but the places own is kept -/
def Heap.leBut (own : List Addr) (h h' : Heap) : Prop := ∀ b o, b ∉ own → h.get? b = some o → h'.get? b = some o
theorem Heap.leBut.trans {own : List Addr} {a b c : Heap} (x : Heap.leBut own a b) (y : Heap.leBut own b c) : Heap.leBut own a c := fun i o n e => y i o n (x i o n e)
theorem Heap.le.but {own : List Addr} {h h' : Heap} (x : Heap.le h h') : Heap.leBut own h h' := fun b o _ e => x b o e

/-- one step of an expression: things are made, none is turned -/
def Le0 (s s' : Shared) : Prop := ∃ h' tk, s' = { s with heap := h', toks := tk } ∧ Heap.le s.heap h'
def Le (s s' : Shared) : Prop := Le0 s s' ∧ s.toks ≤ s'.toks
def LeX0 (own : List Addr) (s s' : Shared) : Prop := ∃ h' tk, s' = { s with heap := h', toks := tk } ∧ Heap.leBut own s.heap h'
def LeX (own : List Addr) (s s' : Shared) : Prop := LeX0 own s s' ∧ s.toks ≤ s'.toks
theorem Le0.rfl {s : Shared} : Le0 s s := ⟨s.heap, s.toks, by cases s; exact Eq.refl _, Heap.le.rfl⟩
theorem Le0.trans {a b c : Shared} (x : Le0 a b) (y : Le0 b c) : Le0 a c := by
  obtain ⟨h1, t1, rfl, k1⟩ := x
  obtain ⟨h2, t2, rfl, k2⟩ := y
  exact ⟨h2, t2, Eq.refl _, k1.trans k2⟩
theorem Le0.heap {s s' : Shared} (x : Le0 s s') : Heap.le s.heap s'.heap := by obtain ⟨h1, t1, rfl, k1⟩ := x; exact k1
theorem Le0.toks {s : Shared} (k : Nat) : Le0 s { s with toks := k } := ⟨s.heap, k, Eq.refl _, Heap.le.rfl⟩
theorem Le0.push {s : Shared} (o : Obj) (k : Nat) : Le0 s { s with heap := s.heap.push o, toks := k } := ⟨_, k, Eq.refl _, fun _ _ e => Heap.get?_push_of_some _ e⟩
theorem Le0.of {s : Shared} {h' : Heap} {k : Nat} (x : Heap.le s.heap h') : Le0 s { s with heap := h', toks := k } := ⟨h', k, Eq.refl _, x⟩
theorem Le.rfl {s : Shared} : Le s s := ⟨.rfl, Nat.le_refl _⟩
theorem Le.trans {a b c : Shared} (x : Le a b) (y : Le b c) : Le a c := ⟨x.1.trans y.1, Nat.le_trans x.2 y.2⟩
theorem Le.heap {s s' : Shared} (x : Le s s') : Heap.le s.heap s'.heap := x.1.heap
theorem LeX0.trans {own : List Addr} {a b c : Shared} (x : LeX0 own a b) (y : LeX0 own b c) : LeX0 own a c := by
  obtain ⟨h1, t1, rfl, k1⟩ := x
  obtain ⟨h2, t2, rfl, k2⟩ := y
  exact ⟨h2, t2, Eq.refl _, k1.trans k2⟩
theorem Le0.x {own : List Addr} {s s' : Shared} (x : Le0 s s') : LeX0 own s s' := by obtain ⟨h1, t1, rfl, k1⟩ := x; exact ⟨h1, t1, Eq.refl _, k1.but⟩
theorem Le.x {own : List Addr} {s s' : Shared} (x : Le s s') : LeX own s s' := ⟨x.1.x, x.2⟩
theorem LeX.trans {own : List Addr} {a b c : Shared} (x : LeX own a b) (y : LeX own b c) : LeX own a c := ⟨x.1.trans y.1, Nat.le_trans x.2 y.2⟩
theorem LeX0.heap {own : List Addr} {s s' : Shared} (x : LeX0 own s s') : Heap.leBut own s.heap s'.heap := by obtain ⟨h1, t1, rfl, k1⟩ := x; exact k1
theorem LeX.heap {own : List Addr} {s s' : Shared} (x : LeX own s s') : Heap.leBut own s.heap s'.heap := x.1.heap
theorem Rp.le0 {X : List Addr} {s s' : Shared} {v : Value} {p : PV} (r : Rp X s.heap v p) (x : Le0 s s') : Rp X s'.heap v p := r.mono fun b o _ e => x.heap b o e
theorem Rps.le0 {X : List Addr} {s s' : Shared} {vs : List Value} {ps : List PV} (r : Rps X s.heap vs ps) (x : Le0 s s') : Rps X s'.heap vs ps := r.mono fun b o _ e => x.heap b o e

/-- the frame's names stand as ρ says -/
structure St (C : Cx) (ρ : Rho) (s : Shared) : Prop where
  base : Heap.le C.hB s.heap
  toks : 1 ≤ s.toks
  inX : ∀ a ∈ C.X, ∃ o, s.heap.get? a = some o
  nd : (ρ.map (·.1)).Nodup
  loc : ∀ x ∈ ρ.map (·.1), C.env.kindOf x = some .local ∧ (x == ("__debug__" : Str)) = false
  ns : ∃ m, s.heap.Ns C.env.locals m ∧ ∀ x e, (x, e) ∈ ρ → e ≠ .undef → ∃ v, m x = some v ∧ e.At C.X s.heap v

theorem get_size (h : Heap) : h.get? h.objs.size = none := by
  cases e : h.get? h.objs.size with
  | none => rfl
  | some o => exact absurd (Heap.lt_size e) (Nat.lt_irrefl _)
theorem St.fresh {C : Cx} {ρ : Rho} {s : Shared} (σ : St C ρ s) : s.heap.objs.size ∉ C.X := fun h => Nat.lt_irrefl _ (Heap.lt_size (σ.inX _ h).choose_spec)
theorem EV.At.le {X : List Addr} {h h' : Heap} {v : Value} {e : EV} (a : e.At X h v) (k : Heap.le h h') : e.At X h' v := by
  cases e with
  | undef => trivial
  | val p => exact Rp.mono (fun b o _ => k b o) a
  | own D l =>
    obtain ⟨e, hD, vs, hl, hr⟩ := a
    exact ⟨e, hD, vs, hl.at (k D), hr.mono fun b o _ => k b o⟩
theorem St.le {C : Cx} {ρ : Rho} {s s' : Shared} (σ : St C ρ s) (x : Le s s') : St C ρ s' := by
  obtain ⟨m, hn, hm⟩ := σ.ns
  refine ⟨σ.base.trans x.heap, Nat.le_trans σ.toks x.2, fun a ha => (σ.inX a ha).imp fun o e => x.heap a o e, σ.nd, σ.loc, m, hn.keeps x.heap, fun y e hy hu => ?_⟩
  obtain ⟨v, hv, ha⟩ := hm y e hy hu
  exact ⟨v, hv, ha.le x.heap⟩

/-- the expression's value is p: it ends, makes things, turns none -/
def Ev (C : Cx) (ρ : Rho) (e : Expr) (p : PV) : Prop :=
  ∀ s, St C ρ s → wpAny C.M C.A (eval e C.env) (fun v s' => Rp C.X s'.heap v p ∧ Le s s') (fun _ _ => False) s
/-- the test's answer is b -/
def Te (C : Cx) (ρ : Rho) (e : Expr) (b : Bool) : Prop :=
  ∀ s, St C ρ s → wpAny C.M C.A (isTrue e C.env (eval e C.env)) (fun t s' => t = b ∧ Le s s') (fun _ _ => False) s
def Evs (C : Cx) (ρ : Rho) (es : List Expr) (ps : List PV) : Prop :=
  ∀ s pos, St C ρ s → wpAny C.M C.A (spliced (backTo pos (starEach es C.env))) (fun vs s' => Rps C.X s'.heap vs ps ∧ Le s s') (fun _ _ => False) s

/-- how a statement ends -/
inductive Out where
  | next (ρ : Rho)
  | cont (ρ : Rho)
  | brk (ρ : Rho)
  | ret (p : PV)
def Out.Is (C : Cx) (s : Shared) : Out → Flow → Prop
  | .next ρ, .next => St C ρ s
  | .cont ρ, .cont => St C ρ s
  | .brk ρ, .brk => St C ρ s
  | .ret p, .ret v => Rp C.X s.heap v p
  | _, _ => False
def Ex1 (C : Cx) (ρ : Rho) (st : Stmt) (Q : Out → Prop) : Prop :=
  ∀ s, St C ρ s → wpAny C.M C.A (exec st C.env) (fun f s' => ∃ o, Q o ∧ o.Is C s' f ∧ LeX C.own s s') (fun _ _ => False) s
def Ex (C : Cx) (ρ : Rho) (ss : List Stmt) (Q : Out → Prop) : Prop :=
  ∀ s, St C ρ s → wpAny C.M C.A (execs ss C.env) (fun f s' => ∃ o, Q o ∧ o.Is C s' f ∧ LeX C.own s s') (fun _ _ => False) s
end Mine
end
section
open PySem PySem.W PyProof.Rows PySem.Calls
set_option Elab.async false
set_option linter.unusedVariables false
namespace Mine
section
variable {C : Cx} {ρ : Rho}

theorem Ev.of {e : Expr} {p : PV} (h : ∀ s, St C ρ s → wpAny C.M C.A (eval e C.env) (fun v s' => Rp C.X s'.heap v p ∧ Le0 s s') (fun _ _ => False) s) : Ev C ρ e p := fun s σ =>
  wpAny_mono (wpAny_toks_of (n := s.toks) (Nat.le_refl _) (h s σ)) (fun _ _ x => ⟨x.2.1, x.2.2, x.1⟩) (fun _ _ x => x.2)
theorem Te.of {e : Expr} {b : Bool} (h : ∀ s, St C ρ s → wpAny C.M C.A (isTrue e C.env (eval e C.env)) (fun t s' => t = b ∧ Le0 s s') (fun _ _ => False) s) : Te C ρ e b := fun s σ =>
  wpAny_mono (wpAny_toks_of (n := s.toks) (Nat.le_refl _) (h s σ)) (fun _ _ x => ⟨x.2.1, x.2.2, x.1⟩) (fun _ _ x => x.2)
theorem Evs.of {es : List Expr} {ps : List PV} (h : ∀ s pos, St C ρ s → wpAny C.M C.A (spliced (backTo pos (starEach es C.env))) (fun vs s' => Rps C.X s'.heap vs ps ∧ Le0 s s') (fun _ _ => False) s) : Evs C ρ es ps := fun s pos σ =>
  wpAny_mono (wpAny_toks_of (n := s.toks) (Nat.le_refl _) (h s pos σ)) (fun _ _ x => ⟨x.2.1, x.2.2, x.1⟩) (fun _ _ x => x.2)
theorem no {E : Value → Shared → Prop} : ∀ (e : Value) (s : Shared), (fun (_ : Value) (_ : Shared) => False) e s → E e s := fun _ _ x => x.elim

/-- a name of the frame -/
theorem Ev.name {x : Str} {pos : Pos} {p : PV} (h : At ρ x (.val p)) : Ev C ρ (.Name x pos) p := Ev.of fun s σ => by
  obtain ⟨m, hn, hm⟩ := σ.ns
  obtain ⟨v, hv, ha⟩ := hm x _ h.mem (by simp)
  have hx := σ.loc x (List.mem_map.mpr ⟨_, h.mem, rfl⟩)
  exact wpAny_Name (wpAny_loadName_local C.kind hx.1 hn hv ⟨ha, .rfl⟩) hx.2

/-- a global's or a built-in's value -/
def GlobIs (hB : Heap) (x : Str) (v : Value) : Prop :=
  (∃ mg, hB.Ns mainGlobals mg ∧ mg x = some v) ∨ (∃ mg mb, hB.Ns mainGlobals mg ∧ mg x = none ∧ hB.Ns builtinsNs mb ∧ mb x = some v)
theorem Ev.glob {x : Str} {pos : Pos} {v : Value} (g : GlobIs C.hB x v) (hx : C.env.kindOf x = some .globalImplicit) (hd : (x == ("__debug__" : Str)) = false) : Ev C ρ (.Name x pos) (.raw v) := Ev.of fun s σ => by
  refine Name_function_global C.kind hx ?_ hd
  rcases g with ⟨mg, h1, h2⟩ | ⟨mg, mb, h1, h2, h3, h4⟩
  · exact loadGlobal_global (C.glob ▸ h1.keeps σ.base) h2 ⟨.raw v, .rfl⟩
  · exact loadGlobal_builtin (C.glob ▸ h1.keeps σ.base) h2 (C.blt ▸ h3.keeps σ.base) h4 ⟨.raw v, .rfl⟩

theorem S_of (x : Str) : x = S x.cps.toList := by cases x; rfl
theorem Ev.cstr {x : Str} {k : Nat} {pos : Pos} {l : List Nat} (h : x.cps.toList = l) : Ev C ρ (.Constant (.str x) k pos) (.str l) := Ev.of fun s σ => by
  subst h
  refine wpAny_Constant_str ⟨?_, .toks _⟩
  have := Rp.str (X := C.X) (h := s.heap) x.cps.toList s.toks
  rw [← S_of x] at this
  exact this
theorem Ev.cint {i : Int} {k : Nat} {pos : Pos} : Ev C ρ (.Constant (.int i) k pos) (.int i) := Ev.of fun s σ => wpAny_Constant_int ⟨.int _ _, .toks _⟩
theorem Ev.cnone {k : Nat} {pos : Pos} : Ev C ρ (.Constant .none k pos) .none := Ev.of fun s σ => wpAny_Constant_none ⟨.none, .rfl⟩
theorem Ev.cbool {b : Bool} {k : Nat} {pos : Pos} : Ev C ρ (.Constant (.bool b) k pos) (.bool b) := Ev.of fun s σ => wpAny_Constant_bool ⟨.bool _, .rfl⟩

/-- an operator on two values -/
theorem Ev.bin {l r : Expr} {op : Operator} {pos : Pos} {a b p : PV} (ha : Ev C ρ l a) (hb : Ev C ρ r b)
    (h : ∀ s v u, St C ρ s → Rp C.X s.heap v a → Rp C.X s.heap u b → wpAny C.M C.A (binaryOp op v u) (fun x s' => Rp C.X s'.heap x p ∧ Le0 s s') (fun _ _ => False) s) : Ev C ρ (.BinOp l op r pos) p := Ev.of fun s σ =>
  wpAny_BinOp (wpAny_mono (ha s σ) (fun v s1 q1 => wpAny_mono (hb s1 (σ.le q1.2)) (fun u s2 q2 =>
    wpAny_mono (h s2 v u (σ.le (q1.2.trans q2.2)) (q1.1.le0 q2.2.1) q2.1) (fun x s3 q3 => ⟨q3.1, (q1.2.trans q2.2).1.trans q3.2⟩) fun _ _ x => x) fun _ _ x => x) fun _ _ x => x)
theorem Ev.add_int {l r : Expr} {pos : Pos} {a b : Int} (ha : Ev C ρ l (.int a)) (hb : Ev C ρ r (.int b)) : Ev C ρ (.BinOp l .Add r pos) (.int (a + b)) :=
  Ev.bin ha hb fun s v u _ rv ru => by cases rv; cases ru; exact PyProof.Rows.add_int ⟨.int _ _, .toks _⟩
theorem Ev.mod_int {l r : Expr} {pos : Pos} {a b : Int} (ha : Ev C ρ l (.int a)) (hb : Ev C ρ r (.int b)) (h0 : b ≠ 0) : Ev C ρ (.BinOp l .Mod r pos) (.int (a.fmod b)) :=
  Ev.bin ha hb fun s v u _ rv ru => by cases rv; cases ru; exact PyProof.Rows.mod_int' h0 ⟨.int _ _, .toks _⟩
theorem Ev.div_int {l r : Expr} {pos : Pos} {a b : Int} (ha : Ev C ρ l (.int a)) (hb : Ev C ρ r (.int b)) (h0 : b ≠ 0) (hp : Builtin.divisionGoesByPylong a b = false) : Ev C ρ (.BinOp l .FloorDiv r pos) (.int (a.fdiv b)) :=
  Ev.bin ha hb fun s v u _ rv ru => by cases rv; cases ru; exact PyProof.Rows.floordiv_int h0 ⟨.int _ _, .toks _⟩ (.inl hp)
theorem Ev.mul_int {l r : Expr} {pos : Pos} {a b : Int} (ha : Ev C ρ l (.int a)) (hb : Ev C ρ r (.int b)) (hm : IntMulOk a b) : Ev C ρ (.BinOp l .Mult r pos) (.int (a * b)) :=
  Ev.bin ha hb fun s v u _ rv ru => by cases rv; cases ru; exact PyProof.Rows.mul_int ⟨.int _ _, .toks _⟩ hm
theorem S_append (a b : List Nat) : S a ++ S b = S (a ++ b) := by
  show Str.mk _ = Str.mk _
  simp [S]
theorem Ev.add_str {l r : Expr} {pos : Pos} {a b : List Nat} (ha : Ev C ρ l (.str a)) (hb : Ev C ρ r (.str b)) (hs : a.length + b.length ≤ sizeLine) : Ev C ρ (.BinOp l .Add r pos) (.str (a ++ b)) :=
  Ev.bin ha hb fun s v u _ rv ru => by
    cases rv; cases ru
    exact PyProof.Rows.add_str (fun t' tk => by rw [S_append]; exact ⟨.str _ _, .toks _⟩) (by rw [S_length, S_length]; exact hs)

/-- a comparison as a test -/
theorem Te.cmp {l r : Expr} {op : CmpOp} {pos : Pos} {a b : PV} {t : Bool} (ha : Ev C ρ l a) (hb : Ev C ρ r b)
    (h : ∀ s v u, St C ρ s → Rp C.X s.heap v a → Rp C.X s.heap u b → wpAny C.M C.A (compareOp op v u) (fun x s' => x = .bool t ∧ Le0 s s') (fun _ _ => False) s)
    (hm : behindInMarks op r = false) : Te C ρ (.Compare l [op] [r] pos) t := Te.of fun s σ =>
  wpAny_isTrue_Compare1 (wpAny_mono (ha s σ) (fun v s1 q1 => wpAny_mono (hb s1 (σ.le q1.2)) (fun u s2 q2 =>
    wpAny_mono (h s2 v u (σ.le (q1.2.trans q2.2)) (q1.1.le0 q2.2.1) q2.1) (fun x s3 q3 => by
      obtain ⟨rfl, k3⟩ := q3
      exact wpAny_truthy_bool ⟨rfl, (q1.2.trans q2.2).1.trans k3⟩) fun _ _ x => x) fun _ _ x => x) fun _ _ x => x) hm
theorem Te.lt {l r : Expr} {pos : Pos} {a b : Int} (ha : Ev C ρ l (.int a)) (hb : Ev C ρ r (.int b)) (hm : behindInMarks .Lt r = false) : Te C ρ (.Compare l [.Lt] [r] pos) (decide (a < b)) :=
  Te.cmp ha hb (fun s v u _ rv ru => by cases rv; cases ru; exact wpAny_lt_int ⟨rfl, .rfl⟩) hm
theorem Te.gt {l r : Expr} {pos : Pos} {a b : Int} (ha : Ev C ρ l (.int a)) (hb : Ev C ρ r (.int b)) (hm : behindInMarks .Gt r = false) : Te C ρ (.Compare l [.Gt] [r] pos) (decide (a > b)) :=
  Te.cmp ha hb (fun s v u _ rv ru => by cases rv; cases ru; exact PyProof.Rows.gt_int ⟨rfl, .rfl⟩) hm
theorem Te.eq_int {l r : Expr} {pos : Pos} {a b : Int} (ha : Ev C ρ l (.int a)) (hb : Ev C ρ r (.int b)) (hm : behindInMarks .Eq r = false) : Te C ρ (.Compare l [.Eq] [r] pos) (decide (a = b)) :=
  Te.cmp ha hb (fun s v u _ rv ru => by cases rv; cases ru; exact PyProof.Rows.eq_int ⟨rfl, .rfl⟩) hm
theorem S_inj {a b : List Nat} : S a = S b ↔ a = b := ⟨fun h => by have := congrArg (fun x => x.cps.toList) h; simpa [S] using this, fun h => h ▸ rfl⟩
theorem S_beq (a b : List Nat) : (S a == S b) = decide (a = b) := by
  by_cases h : a = b
  · subst h; simp
  · have : S a ≠ S b := fun e => h (S_inj.mp e)
    simp [h, this]
theorem Te.eq_str {l r : Expr} {pos : Pos} {a b : List Nat} (ha : Ev C ρ l (.str a)) (hb : Ev C ρ r (.str b)) (hm : behindInMarks .Eq r = false) : Te C ρ (.Compare l [.Eq] [r] pos) (decide (a = b)) :=
  Te.cmp ha hb (fun s v u _ rv ru => by cases rv; cases ru; refine PyProof.Rows.eq_str ⟨?_, .rfl⟩; rw [S_beq]) hm
theorem Te.ne_str {l r : Expr} {pos : Pos} {a b : List Nat} (ha : Ev C ρ l (.str a)) (hb : Ev C ρ r (.str b)) (hm : behindInMarks .NotEq r = false) : Te C ρ (.Compare l [.NotEq] [r] pos) (!decide (a = b)) :=
  Te.cmp ha hb (fun s v u _ rv ru => by cases rv; cases ru; refine PyProof.Rows.ne_str ⟨?_, .rfl⟩; rw [bne, S_beq]) hm
theorem found_S (x : List Nat) (c : Nat) : (!(Builtin.Str.occurrences (S x) (S [c]) 0 (S x).length 1).isEmpty) = decide (c ∈ x) := by
  exact (StrLaws.found_one (S x) c).trans (decide_eq_decide.mpr Iff.rfl)
theorem Te.in_str {l r : Expr} {pos : Pos} {a : Nat} {b : List Nat} (ha : Ev C ρ l (.str [a])) (hb : Ev C ρ r (.str b)) (hm : behindInMarks .In r = false) : Te C ρ (.Compare l [.In] [r] pos) (decide (a ∈ b)) :=
  Te.cmp ha hb (fun s v u _ rv ru => by cases rv; cases ru; refine PyProof.Rows.in_str ⟨?_, .rfl⟩; rw [found_S]) hm
theorem Te.notIn_str {l r : Expr} {pos : Pos} {a : Nat} {b : List Nat} (ha : Ev C ρ l (.str [a])) (hb : Ev C ρ r (.str b)) (hm : behindInMarks .NotIn r = false) : Te C ρ (.Compare l [.NotIn] [r] pos) (!decide (a ∈ b)) :=
  Te.cmp ha hb (fun s v u _ rv ru => by cases rv; cases ru; refine PyProof.Rows.notIn_str ⟨?_, .rfl⟩; rw [found_S]) hm

/-- a value as a test -/
theorem Te.not {e : Expr} {pos : Pos} {b : Bool} (h : Te C ρ e b) : Te C ρ (.UnaryOp .Not e pos) (!b) := fun s σ =>
  wpAny_isTrue_Not (wpAny_mono (h s σ) (fun t s' q => ⟨by rw [q.1], q.2⟩) fun _ _ x => x)
/-- and, or -/
def Tes (C : Cx) (ρ : Rho) (op : BoolOp) (es : List Expr) (b : Bool) : Prop :=
  ∀ s, St C ρ s → wpAny C.M C.A (allTrue op es C.env) (fun t s' => t = b ∧ Le s s') (fun _ _ => False) s
theorem Te.and {es : List Expr} {pos : Pos} {b : Bool} (h : Tes C ρ .And es b) : Te C ρ (.BoolOp .And es pos) b := fun s σ => wpAny_isTrue_BoolOp (h s σ)
theorem Te.or {es : List Expr} {pos : Pos} {b : Bool} (h : Tes C ρ .Or es b) : Te C ρ (.BoolOp .Or es pos) b := fun s σ => wpAny_isTrue_BoolOp (h s σ)
theorem Tes.and_nil : Tes C ρ .And [] true := fun s σ => wpAny_allTrue_And_nil ⟨rfl, .rfl⟩
theorem Tes.or_nil : Tes C ρ .Or [] false := fun s σ => wpAny_allTrue_Or_nil ⟨rfl, .rfl⟩
theorem Tes.and_cons {e : Expr} {es : List Expr} {b c : Bool} (h : Te C ρ e b) (hr : b = true → Tes C ρ .And es c) : Tes C ρ .And (e :: es) (b && c) := fun s σ =>
  wpAny_allTrue_And_cons (wpAny_mono (h s σ) (fun t s1 q => by
    obtain ⟨rfl, k⟩ := q
    cases t with
    | true => exact wpAny_mono (hr rfl s1 (σ.le k)) (fun t' s2 q2 => ⟨by rw [q2.1]; rfl, k.trans q2.2⟩) fun _ _ x => x
    | false => exact ⟨rfl, k⟩) fun _ _ x => x)
theorem Tes.or_cons {e : Expr} {es : List Expr} {b c : Bool} (h : Te C ρ e b) (hr : b = false → Tes C ρ .Or es c) : Tes C ρ .Or (e :: es) (b || c) := fun s σ =>
  wpAny_allTrue_Or_cons (wpAny_mono (h s σ) (fun t s1 q => by
    obtain ⟨rfl, k⟩ := q
    cases t with
    | true => exact ⟨rfl, k⟩
    | false => exact wpAny_mono (hr rfl s1 (σ.le k)) (fun t' s2 q2 => ⟨by rw [q2.1]; rfl, k.trans q2.2⟩) fun _ _ x => x) fun _ _ x => x)

/-- a choice -/
theorem Ev.ifexp {t a b : Expr} {pos : Pos} {c : Bool} {p q : PV} (h : Te C ρ t c) (ha : c = true → Ev C ρ a p) (hb : c = false → Ev C ρ b q) : Ev C ρ (.IfExp t a b pos) (if c = true then p else q) := fun s σ =>
  wpAny_IfExp (wpAny_mono (h s σ) (fun t s1 k => by
    obtain ⟨rfl, k⟩ := k
    cases t with
    | true => exact wpAny_mono (ha rfl s1 (σ.le k)) (fun v s2 q2 => ⟨q2.1, k.trans q2.2⟩) fun _ _ x => x
    | false => exact wpAny_mono (hb rfl s1 (σ.le k)) (fun v s2 q2 => ⟨q2.1, k.trans q2.2⟩) fun _ _ x => x) fun _ _ x => x)

/-- the items of a display, the arguments of a call -/
theorem Evs.nil : Evs C ρ [] [] := fun s pos σ => args_nil ⟨.nil, .rfl⟩
theorem Evs.cons {e : Expr} {es : List Expr} {p : PV} {ps : List PV} (h : Ev C ρ e p) (hr : Evs C ρ es ps) (he : starEach (e :: es) C.env = (false, eval e C.env) :: starEach es C.env) : Evs C ρ (e :: es) (p :: ps) := fun s pos σ =>
  args_cons (wpAny_mono (h s σ) (fun v s1 q1 => wpAny_mono (hr s1 pos (σ.le q1.2)) (fun vs s2 q2 => ⟨.cons (q1.1.le0 q2.2.1) q2.1, q1.2.trans q2.2⟩) fun _ _ x => x) fun _ _ x => x) he
end
end Mine
end
section
open PySem PySem.W PyProof.Rows PySem.Calls
set_option Elab.async false
set_option linter.unusedVariables false
namespace Mine
section
variable {C : Cx} {ρ : Rho}

theorem seqIndex_pos {k : Int} {n : Nat} (h0 : 0 ≤ k) (h : k < n) : seqIndex? k n = some k.toNat := by
  unfold seqIndex?
  simp only [if_neg (Int.not_lt.mpr h0), h0, h, decide_true, Bool.and_self, if_true]
theorem seqIndex_neg {k : Int} {n : Nat} (h0 : k < 0) (h : 0 ≤ k + n) : seqIndex? k n = some (k + n).toNat := by
  unfold seqIndex?
  have : k + n < n := by omega
  simp only [if_pos h0, h, this, decide_true, Bool.and_self, if_true]
/-- a sign of a text -/
theorem Ev.idx {v i : Expr} {pos : Pos} {t : List Nat} {k : Int} {c : Nat} (hv : Ev C ρ v (.str t)) (hi : Ev C ρ i (.int k)) (h0 : 0 ≤ k) (hc : t[k.toNat]? = some c) (hl : t.length < 1000000)
    (hs : ∀ o j, subscripted i false o j = operate [o, j] (getItem o j)) : Ev C ρ (.Subscript v i pos) (.str [c]) := Ev.of fun s σ =>
  Subscript_ (wpAny_mono (hv s σ) (fun o s1 q1 => wpAny_mono (hi s1 (σ.le q1.2)) (fun j s2 q2 => by
    obtain ⟨r1, k1⟩ := q1
    obtain ⟨r2, k2⟩ := q2
    have hlt : k.toNat < t.length := (List.getElem?_eq_some_iff.mp hc).1
    cases r1; cases r2
    refine tail_any (T := "str") rfl PySem.F.slot_str_getitem.lookup (PyProof.Rows.getItem_str (c := c) ?_ ?_ ?_) (hs _ _)
    · rw [Bool.or_eq_false_iff]; exact ⟨decide_eq_false (by omega), decide_eq_false (by omega)⟩
    · rw [S_length, seqIndex_pos h0 (by omega)]
      show (S t).cps[k.toNat]? = some c
      simpa [S] using hc
    · exact ⟨.str [c] _, (k1.trans k2).1.trans (.toks _)⟩) fun _ _ x => x) fun _ _ x => x)
/-- a sign counted from behind -/
theorem Ev.idxNeg {v i : Expr} {pos : Pos} {t : List Nat} {k : Int} {c : Nat} (hv : Ev C ρ v (.str t)) (hi : Ev C ρ i (.int k)) (h0 : k < 0) (h1 : 0 ≤ k + t.length) (hc : t[(k + t.length).toNat]? = some c) (hl : t.length < 1000000)
    (hs : ∀ o j, subscripted i false o j = operate [o, j] (getItem o j)) : Ev C ρ (.Subscript v i pos) (.str [c]) := Ev.of fun s σ =>
  Subscript_ (wpAny_mono (hv s σ) (fun o s1 q1 => wpAny_mono (hi s1 (σ.le q1.2)) (fun j s2 q2 => by
    obtain ⟨r1, k1⟩ := q1
    obtain ⟨r2, k2⟩ := q2
    cases r1; cases r2
    refine tail_any (T := "str") rfl PySem.F.slot_str_getitem.lookup (PyProof.Rows.getItem_str (c := c) ?_ ?_ ?_) (hs _ _)
    · rw [Bool.or_eq_false_iff]; exact ⟨decide_eq_false (by omega), decide_eq_false (by omega)⟩
    · rw [S_length, seqIndex_neg h0 h1]
      show (S t).cps[(k + t.length).toNat]? = some c
      simpa [S] using hc
    · exact ⟨.str [c] _, (k1.trans k2).1.trans (.toks _)⟩) fun _ _ x => x) fun _ _ x => x)

/-- an item of a tuple -/
theorem Ev.idxTup {v i : Expr} {pos : Pos} {l : List PV} {k : Int} {p : PV} (hv : Ev C ρ v (.tup l)) (hi : Ev C ρ i (.int k)) (h0 : 0 ≤ k) (hp : l[k.toNat]? = some p) (hl : l.length < 1000000)
    (hs : ∀ o j, subscripted i false o j = operate [o, j] (getItem o j)) : Ev C ρ (.Subscript v i pos) p := Ev.of fun s σ =>
  Subscript_ (wpAny_mono (hv s σ) (fun o s1 q1 => wpAny_mono (hi s1 (σ.le q1.2)) (fun j s2 q2 => by
    obtain ⟨r1, k1⟩ := q1
    obtain ⟨r2, k2⟩ := q2
    have r1' := r1.le0 k2.1
    have hlt : k.toNat < l.length := (List.getElem?_eq_some_iff.mp hp).1
    cases r1' with
    | tup a vs l ha ht hr =>
      cases r2
      obtain ⟨x, hx, rx⟩ := hr.get _ hp
      have hn := hr.length
      exact item_tupleT (j := k.toNat) (x := x) ht (by omega) (by omega) (seqIndex_pos h0 (by omega)) hx ⟨rx, (k1.trans k2).1⟩ (hs _ _)) fun _ _ x => x) fun _ _ x => x)

/-- where a slice's end lies -/
def clipN (n : Nat) (dflt : Nat) : Option Int → Nat
  | none => dflt
  | some i => (max 0 (min (if i < 0 then i + n else i) (n : Int))).toNat
def slc (t : List Nat) (lo hi : Option Int) : List Nat := (t.drop (clipN t.length 0 lo)).take (clipN t.length t.length hi - clipN t.length 0 lo)
theorem clipN_le {n d : Nat} (hd : d ≤ n) : ∀ o : Option Int, clipN n d o ≤ n
  | none => hd
  | some i => by show (max 0 (min (if i < 0 then i + n else i) (n : Int))).toNat ≤ n; omega
theorem range_one (a b : Nat) : sliceRange (a : Int) (b : Int) 1 = (List.range (b - a)).map fun k => a + k := by
  unfold sliceRange
  simp only [Int.zero_lt_one, gt_iff_lt, if_true]
  have : (if (a : Int) < b then ((b : Int) - a + 1 - 1) / 1 else 0).toNat = b - a := by
    split <;> omega
  rw [this]
  refine List.map_congr_left fun k _ => by omega
theorem pick_range (t : List Nat) (a b : Nat) (hb : b ≤ t.length) : ((List.range (b - a)).map fun k => a + k).filterMap (fun i => t[i]?) = (t.drop a).take (b - a) := by
  have : ∀ n, a + n ≤ t.length ∨ n = 0 → ((List.range n).map fun k => a + k).filterMap (fun i => t[i]?) = (t.drop a).take n := by
    intro n
    induction n with
    | zero => intro _; simp
    | succ n ih =>
      intro h
      have hn : a + n < t.length := by omega
      rw [List.range_succ, List.map_append, List.filterMap_append, ih (by omega), List.take_add_one, List.getElem?_drop, List.getElem?_eq_getElem hn]
      simp [hn]
  exact this _ (by omega)
theorem ssi (lo hi : Option Int) (n : Nat) : Builtin.Str.strSliceIndices lo hi 1 n = (List.range (clipN n n hi - clipN n 0 lo)).map fun k => clipN n 0 lo + k := by
  have e (i : Int) : max 0 (min (if i < 0 then i + (n : Int) else i) (n : Int)) = ((max 0 (min (if i < 0 then i + (n : Int) else i) (n : Int))).toNat : Int) := by omega
  have e0 : (0 : Int) = ((0 : Nat) : Int) := rfl
  unfold Builtin.Str.strSliceIndices
  cases lo <;> cases hi <;> simp only [Int.zero_lt_one, gt_iff_lt, if_true]
  · exact range_one 0 n
  · rename_i i; rw [e i]; exact range_one 0 _
  · rename_i i; rw [e i]; exact range_one _ n
  · rename_i i j; rw [e i, e j]; exact range_one _ _
/-- an end of a slice that is left out or an int -/
def EvO (C : Cx) (ρ : Rho) : Option Expr → Option Int → Prop
  | none, none => True
  | some e, some i => Ev C ρ e (.int i)
  | _, _ => False
theorem EvO.use {e : Option Expr} {i : Option Int} (h : EvO C ρ e i) {s : Shared} (σ : St C ρ s) : wpAny C.M C.A (evalPart e C.env) (fun v s' => (∃ o : Option (Int × Tok), v = partValue o ∧ o.map (·.1) = i) ∧ Le s s') (fun _ _ => False) s := by
  match e, i, h with
  | none, none, _ => exact wpAny_evalPart_none ⟨⟨none, rfl, rfl⟩, .rfl⟩
  | some e, some i, h =>
    refine wpAny_evalPart_some (wpAny_mono (h s σ) (fun v s' q => ?_) fun _ _ x => x)
    obtain ⟨r, k⟩ := q
    cases r with
    | int i t => exact ⟨⟨some (i, t), rfl, rfl⟩, k⟩
theorem picked_S (t : List Nat) (l u : Option (Int × Tok)) : (slicePicked (S t) l u none).filterMap ((S t).cps[·]?) = slc t (l.map (·.1)) (u.map (·.1)) := by
  unfold slicePicked
  rw [S_length]
  show ((Builtin.Str.strSliceIndices _ _ 1 t.length)).filterMap (fun i => (t.toArray)[i]?) = _
  rw [ssi]
  simp only [List.getElem?_toArray]
  exact pick_range t _ _ (clipN_le (Nat.le_refl _) _)
theorem sliceMade_post {t : List Nat} {tk : Tok} {l u : Option (Int × Tok)} {Q : Value → Shared → Prop} {s : Shared} (h : ∀ v k, (∃ t', v = .str (S (slc t (l.map (·.1)) (u.map (·.1)))) t') → Q v { s with toks := k }) (hsz : t.length ≤ sizeLine) :
    (sliceMade (S t) tk l u none).post Q s := by
  have hp := picked_S t l u
  have hlen : (slicePicked (S t) l u none).length = (slc t (l.map (·.1)) (u.map (·.1))).length ∨ True := .inr trivial
  unfold sliceMade
  split
  · rename_i hc
    rw [Bool.and_eq_true] at hc
    have hl := hc.2
    have e : slc t (l.map (·.1)) (u.map (·.1)) = t := by
      have hpl : (slicePicked (S t) l u none).length = clipN t.length t.length (u.map (·.1)) - clipN t.length 0 (l.map (·.1)) := by
        unfold slicePicked
        rw [S_length]
        show (Builtin.Str.strSliceIndices _ _ 1 t.length).length = _
        rw [ssi, List.length_map, List.length_range]
      have hl' : clipN t.length t.length (u.map (·.1)) - clipN t.length 0 (l.map (·.1)) = t.length := by
        have := beq_iff_eq.mp hl
        rw [hpl, S_length] at this
        exact this
      have h2 := clipN_le (Nat.le_refl t.length) (u.map (·.1))
      unfold slc
      rw [hl']
      have : clipN t.length 0 (l.map (·.1)) = 0 ∨ t.length = 0 := by omega
      rcases this with q | q
      · rw [q]; simp
      · have : t = [] := List.length_eq_zero_iff.mp q
        subst this; simp
    exact h _ s.toks ⟨tk, by rw [e]⟩
  · refine ⟨?_, ?_⟩
    · rw [hp]
      show (slc t _ _).toArray.size ≤ sizeLine
      have h2 := clipN_le (Nat.le_refl t.length) (u.map (·.1))
      rw [List.size_toArray]; unfold slc; rw [List.length_take]; omega
    · rw [hp]
      exact h _ _ ⟨_, rfl⟩
theorem Ev.slice {v : Expr} {lo hi : Option Expr} {p pos : Pos} {t : List Nat} {a b : Option Int} (hv : Ev C ρ v (.str t)) (ha : EvO C ρ lo a) (hb : EvO C ρ hi b) (hl : t.length ≤ sizeLine)
    (ht : ∀ o r, letTemporaryGo v o r = pure ()) : Ev C ρ (.Subscript v (.Slice lo hi none p) pos) (.str (slc t a b)) := Ev.of fun s σ =>
  wpAny_Subscript_str_slice (wpAny_mono (hv s σ) (fun o s1 q1 => wpAny_mono (ha.use (σ.le q1.2)) (fun vl s2 q2 => wpAny_mono (hb.use (σ.le (q1.2.trans q2.2))) (fun vu s3 q3 => by
    obtain ⟨r1, k1⟩ := q1
    obtain ⟨⟨l, rfl, rfl⟩, k2⟩ := q2
    obtain ⟨⟨u, rfl, rfl⟩, k3⟩ := q3
    cases r1 with
    | str t tk =>
      refine ⟨S t, tk, l, u, rfl, rfl, rfl, sliceMade_post (fun v k ⟨t', e⟩ => ?_) hl⟩
      subst e
      exact ⟨.str _ _, ((k1.trans k2).trans k3).1.trans (.push _ _)⟩) fun _ _ x => x) fun _ _ x => x) fun _ _ x => x) ht
end
end Mine
end
section
open PySem PySem.W PyProof.Rows PySem.Calls
set_option Elab.async false
set_option linter.unusedVariables false
namespace Mine
section
variable {C : Cx} {ρ : Rho}

/-- a call of a built-in by its name -/
theorem Ev.callB {x : Str} {np pos : Pos} {id : String} {e : Expr} {es : List Expr} {ps : List PV} {p : PV} (hf : Ev C ρ (.Name x np) (.raw (.builtin id))) (ha : Evs C ρ (e :: es) ps)
    (h : ∀ s vs, St C ρ s → Rps C.X s.heap vs ps → wpAny C.M C.A (call (.builtin id) vs) (fun v s' => Rp C.X s'.heap v p ∧ Le0 s s') (fun _ _ => False) s)
    (he : starEach (e :: es) C.env = (false, eval e C.env) :: starEach es C.env) (hp : ∀ pos, (backTo pos (starEach es C.env)).any (·.1) = false) : Ev C ρ (.Call (.Name x np) (e :: es) [] pos) p := Ev.of fun s σ =>
  wpAny_Call_NameR (wpAny_mono (hf s σ) (fun f s1 q1 => by
    obtain ⟨r1, k1⟩ := q1
    cases r1
    exact PyProof.Rows.callWith_builtin1 (wpAny_mono (ha s1 _ (σ.le k1)) (fun vs s2 q2 => wpAny_mono (h s2 vs (σ.le (k1.trans q2.2)) q2.1) (fun v s3 q3 => ⟨q3.1, (k1.trans q2.2).1.trans q3.2⟩) fun _ _ x => x) fun _ _ x => x) he (hp _)) fun _ _ x => x)
theorem Rps.one {X : List Addr} {h : Heap} {vs : List Value} {p : PV} (r : Rps X h vs [p]) : ∃ v, vs = [v] ∧ Rp X h v p := by
  cases r with
  | cons r1 r2 => cases r2; exact ⟨_, rfl, r1⟩
theorem Rps.two {X : List Addr} {h : Heap} {vs : List Value} {p q : PV} (r : Rps X h vs [p, q]) : ∃ v u, vs = [v, u] ∧ Rp X h v p ∧ Rp X h u q := by
  cases r with
  | cons r1 r2 =>
    obtain ⟨u, rfl, r3⟩ := r2.one
    exact ⟨_, u, rfl, r1, r3⟩

theorem Ev.len {x : Str} {np pos : Pos} {e : Expr} {t : List Nat} (hf : Ev C ρ (.Name x np) (.raw (.builtin "len"))) (ha : Ev C ρ e (.str t)) (hl : t.length < 1000000)
    (he : starEach [e] C.env = (false, eval e C.env) :: starEach [] C.env) : Ev C ρ (.Call (.Name x np) [e] [] pos) (.int t.length) :=
  Ev.callB hf (Evs.cons ha Evs.nil he) (fun s vs σ r => by
    obtain ⟨v, rfl, r1⟩ := r.one
    cases r1
    refine PyProof.Rows.len_str (by rw [S_length]; omega) ⟨?_, .toks _⟩
    rw [S_length]; exact .int _ _) he (fun _ => rfl)
theorem Ev.lenL {x : Str} {np pos : Pos} {e : Expr} {l : List PV} (hf : Ev C ρ (.Name x np) (.raw (.builtin "len"))) (ha : Ev C ρ e (.lst l)) (hl : l.length < 1000000)
    (he : starEach [e] C.env = (false, eval e C.env) :: starEach [] C.env) : Ev C ρ (.Call (.Name x np) [e] [] pos) (.int l.length) :=
  Ev.callB hf (Evs.cons ha Evs.nil he) (fun s vs σ r => by
    obtain ⟨v, rfl, r1⟩ := r.one
    cases r1 with
    | lst a vs l _ hL hr =>
      have hn := hr.length
      refine PyProof.Rows.len_list hL (by rw [List.size_toArray]; omega) ⟨?_, .toks _⟩
      rw [List.size_toArray, hn]; exact .int _ _) he (fun _ => rfl)
theorem Ev.ord {x : Str} {np pos : Pos} {e : Expr} {c : Nat} (hf : Ev C ρ (.Name x np) (.raw (.builtin "ord"))) (ha : Ev C ρ e (.str [c]))
    (he : starEach [e] C.env = (false, eval e C.env) :: starEach [] C.env) : Ev C ρ (.Call (.Name x np) [e] [] pos) (.int c) :=
  Ev.callB hf (Evs.cons ha Evs.nil he) (fun s vs σ r => by
    obtain ⟨v, rfl, r1⟩ := r.one
    cases r1
    exact P.ord_of_char ⟨.int _ _, .toks _⟩) he (fun _ => rfl)
theorem Ev.chr {x : Str} {np pos : Pos} {e : Expr} {i : Int} (hf : Ev C ρ (.Name x np) (.raw (.builtin "chr"))) (ha : Ev C ρ e (.int i)) (h0 : 0 ≤ i) (h1 : i ≤ 1114111)
    (he : starEach [e] C.env = (false, eval e C.env) :: starEach [] C.env) : Ev C ρ (.Call (.Name x np) [e] [] pos) (.str [i.toNat]) :=
  Ev.callB hf (Evs.cons ha Evs.nil he) (fun s vs σ r => by
    obtain ⟨v, rfl, r1⟩ := r.one
    cases r1
    exact P.chr_of_int (by rw [Bool.or_eq_false_iff]; exact ⟨decide_eq_false (by omega), decide_eq_false (by omega)⟩) ⟨.str [i.toNat] _, .toks _⟩) he (fun _ => rfl)
theorem Ev.min {x : Str} {np pos : Pos} {e f : Expr} {a b : Int} (hf : Ev C ρ (.Name x np) (.raw (.builtin "min"))) (ha : Ev C ρ e (.int a)) (hb : Ev C ρ f (.int b))
    (he : starEach [e, f] C.env = (false, eval e C.env) :: starEach [f] C.env) (he' : starEach [f] C.env = (false, eval f C.env) :: starEach [] C.env) (hp : ∀ pos, (backTo pos (starEach [f] C.env)).any (·.1) = false) :
    Ev C ρ (.Call (.Name x np) [e, f] [] pos) (.int (if b < a then b else a)) :=
  Ev.callB hf (Evs.cons ha (Evs.cons hb Evs.nil he') he) (fun s vs σ r => by
    obtain ⟨v, u, rfl, r1, r2⟩ := r.two
    cases r1; cases r2
    refine PySem.min_two_ints C.handled fun h' tk hk => ⟨?_, .of hk⟩
    split <;> exact .int _ _) he hp

/-- a display -/
theorem Ev.tuple {es : List Expr} {k : Nat} {pos : Pos} {ps : List PV} (h : Evs C ρ es ps) (hl : ps.length ≤ sizeLine) : Ev C ρ (.Tuple es k pos) (.tup ps) := Ev.of fun s σ =>
  PySem.wpAny_Tuple (wpAny_mono (h s pos σ) (fun vs s1 q1 => ⟨by rw [q1.1.length]; exact hl, .tup _ vs ps (σ.le q1.2).fresh ⟨_, Heap.get?_push_size _ rfl, rfl, _, rfl⟩ (q1.1.le0 (.push _ _)), q1.2.1.trans (.push _ _)⟩) fun _ _ x => x)
theorem Ev.list {es : List Expr} {pos : Pos} {ps : List PV} (h : Evs C ρ es ps) (hl : ps.length ≤ sizeLine) : Ev C ρ (.List es pos) (.lst ps) := Ev.of fun s σ =>
  PySem.wpAny_List (wpAny_mono (h s pos σ) (fun vs s1 q1 => ⟨by rw [q1.1.length]; exact hl, .lst _ vs ps (σ.le q1.2).fresh ⟨_, Heap.get?_push_size _ rfl, rfl, _, rfl⟩ (q1.1.le0 (.push _ _)), q1.2.1.trans (.push _ _)⟩) fun _ _ x => x)
/-- two lists in one -/
theorem Ev.cat {l r : Expr} {pos : Pos} {a b : List PV} (ha : Ev C ρ l (.lst a)) (hb : Ev C ρ r (.lst b)) (hs : a.length + b.length ≤ sizeLine) : Ev C ρ (.BinOp l .Add r pos) (.lst (a ++ b)) :=
  Ev.bin ha hb fun s v u σ rv ru => by
    cases rv with
    | lst x vs _ hx hl hr =>
      cases ru with
      | lst y us _ hy hl' hr' =>
        have e1 := hr.length
        have e2 := hr'.length
        obtain ⟨⟨cls, dd, data, sl⟩, ho, hc, n, hd⟩ := id hl
        obtain ⟨⟨cls2, dd2, data2, sl2⟩, ho2, hc2, n2, hd2⟩ := id hl'
        simp only at hc hd hc2 hd2
        subst hc hd hc2 hd2
        refine concat_meets ⟨_, ho, rfl⟩ ⟨_, ho2, rfl⟩ noFill_list_add seq_list_add PySem.F.slot_list_add PySem.F.entry_list_add (PySem.F.args_list_add_2 _ _) (list_addW x y vs.toArray us.toArray n n2 dd dd2 sl sl2 (by simp only [List.size_toArray]; omega)) ⟨ho, ho2, ?_⟩
        refine ⟨.lst _ (vs ++ us) _ σ.fresh ⟨_, Heap.get?_push_size _ rfl, rfl, 0, by simp⟩ ?_, .push _ _⟩
        exact (hr.append hr').le0 (.push _ s.toks)
/-- minus before a number -/
theorem Ev.neg {e : Expr} {pos : Pos} {i : Int} (h : Ev C ρ e (.int i)) : Ev C ρ (.UnaryOp .USub e pos) (.int (-i)) := Ev.of fun s σ =>
  wpAny_UnaryOp (wpAny_mono (h s σ) (fun v s1 q1 => by
    obtain ⟨r1, k1⟩ := q1
    cases r1
    exact neg_int ⟨.int _ _, k1.1.trans (.toks _)⟩) fun _ _ x => x)
/-- a method of a built-in type -/
theorem Ev.meth {o : Expr} {name : Str} {apos pos : Pos} {args : List Expr} {T id : String} {po p : PV} (ho : Ev C ρ o po)
    (hP : PlainAttrs T) (slot : Slot T name id) (ty : typeOf (.builtin id) = pure (.type "method_descriptor"))
    (hT : ∀ s v, St C ρ s → Rp C.X s.heap v po → s.TypeIs v T ∧ (∀ a, v = .ref a → ∃ ob, s.heap.get? a = some ob ∧ ob.dict = none))
    (h : ∀ s v, St C ρ s → Rp C.X s.heap v po → wpAny C.M C.A (callWith pos (.builtin id) [v] (backTo pos (starEach args C.env)) []) (fun x s' => Rp C.X s'.heap x p ∧ Le0 s s') (fun _ _ => False) s)
    (hb : attributeBase o name C.env (eval o C.env) = eval o C.env)
    (hm : (((backTo pos (starEach args C.env)).all fun x => !x.fst) && ((backToKw pos (keywordEach [] C.env)).all fun x => x.fst.isSome) && decide ((args.length + ([] : List Keyword).length + if ([] : List Keyword).isEmpty = true then 0 else 1) < 30)) = true)
    (hl : (apos.endLine == pos.line) = true) : Ev C ρ (.Call (.Attribute o name apos) args [] pos) p := Ev.of fun s σ =>
  wpAny_Call_method (T := T) (id := id) hb hm hl hP slot ty (wpAny_mono (ho s σ) (fun v s1 q1 => by
    obtain ⟨r1, k1⟩ := q1
    obtain ⟨t1, t2⟩ := hT s1 v (σ.le k1) r1
    exact ⟨t1, t2, wpAny_mono (h s1 v (σ.le k1) r1) (fun x s2 q2 => ⟨q2.1, k1.1.trans q2.2⟩) fun _ _ x => x⟩) fun _ _ x => x)
theorem str_type {s : Shared} {v : Value} {t : List Nat} (r : Rp C.X s.heap v (.str t)) : s.TypeIs v "str" ∧ (∀ a, v = .ref a → ∃ ob, s.heap.get? a = some ob ∧ ob.dict = none) := by
  cases r
  exact ⟨rfl, fun a e => nomatch e⟩
/-- a str's method without arguments -/
theorem Ev.methS0 {o : Expr} {name : Str} {apos pos : Pos} {id : String} {t : List Nat} {p : PV} (ho : Ev C ρ o (.str t)) (slot : Slot "str" name id) (ty : typeOf (.builtin id) = pure (.type "method_descriptor"))
    (h : ∀ s tk, St C ρ s → wpAny C.M C.A (call (.builtin id) [.str (S t) tk]) (fun x s' => Rp C.X s'.heap x p ∧ Le0 s s') (fun _ _ => False) s)
    (hb : attributeBase o name C.env (eval o C.env) = eval o C.env) (hl : (apos.endLine == pos.line) = true) : Ev C ρ (.Call (.Attribute o name apos) [] [] pos) p :=
  Ev.meth ho PySem.F.plainAttrs_str slot ty (fun s v σ r => str_type r) (fun s v σ r => by cases r; exact callWith_method0 (h s _ σ)) hb rfl hl
/-- a str's method with arguments -/
theorem Ev.methS {o e : Expr} {es : List Expr} {name : Str} {apos pos : Pos} {id : String} {t : List Nat} {ps : List PV} {p : PV} (ho : Ev C ρ o (.str t)) (ha : Evs C ρ (e :: es) ps) (slot : Slot "str" name id) (ty : typeOf (.builtin id) = pure (.type "method_descriptor"))
    (h : ∀ s tk vs, St C ρ s → Rps C.X s.heap vs ps → wpAny C.M C.A (call (.builtin id) (.str (S t) tk :: vs)) (fun x s' => Rp C.X s'.heap x p ∧ Le0 s s') (fun _ _ => False) s)
    (hb : attributeBase o name C.env (eval o C.env) = eval o C.env)
    (hm : (((backTo pos (starEach (e :: es) C.env)).all fun x => !x.fst) && ((backToKw pos (keywordEach [] C.env)).all fun x => x.fst.isSome) && decide (((e :: es).length + ([] : List Keyword).length + if ([] : List Keyword).isEmpty = true then 0 else 1) < 30)) = true)
    (hl : (apos.endLine == pos.line) = true) (he : starEach (e :: es) C.env = (false, eval e C.env) :: starEach es C.env) (hp : ∀ pos, (backTo pos (starEach es C.env)).any (·.1) = false) : Ev C ρ (.Call (.Attribute o name apos) (e :: es) [] pos) p :=
  Ev.meth ho PySem.F.plainAttrs_str slot ty (fun s v σ r => str_type r) (fun s v σ r => by
    cases r
    exact callWith_method1 (wpAny_mono (ha s _ σ) (fun vs s2 q2 => wpAny_mono (h s2 _ vs (σ.le q2.2) q2.1) (fun v s3 q3 => ⟨q3.1, q2.2.1.trans q3.2⟩) fun _ _ x => x) fun _ _ x => x) he (hp _)) hb hm hl

/-- a part of a list -/
def slcL (l : List PV) (lo hi : Option Int) : List PV := (l.drop (clipN l.length 0 lo)).take (clipN l.length l.length hi - clipN l.length 0 lo)
end
end Mine
end
section
open PySem PySem.W PyProof.Rows PySem.Calls
set_option Elab.async false
set_option linter.unusedVariables false
namespace Mine
section
variable {C : Cx} {ρ : Rho}

/-- an expression's value as a test -/
theorem Te.val {e : Expr} {p : PV} {b : Bool} (he : Ev C ρ e p) (h : ∀ s v, St C ρ s → Rp C.X s.heap v p → wpAny C.M C.A (truthy v) (fun t s' => t = b ∧ Le0 s s') (fun _ _ => False) s)
    (hi : isTrue e C.env (eval e C.env) = do
          let v ← eval e C.env
          standAt e.pos
          holding [v] (truthy v)) : Te C ρ e b := Te.of fun s σ =>
  wpAny_isTrue_value (wpAny_mono (he s σ) (fun v s1 q1 => wpAny_mono (h s1 v (σ.le q1.2) q1.1) (fun t s2 q2 => ⟨q2.1, q1.2.1.trans q2.2⟩) fun _ _ x => x) fun _ _ x => x) hi
theorem Te.bool {e : Expr} {b : Bool} (he : Ev C ρ e (.bool b)) (hi : isTrue e C.env (eval e C.env) = do
          let v ← eval e C.env
          standAt e.pos
          holding [v] (truthy v)) : Te C ρ e b := Te.val he (fun s v σ r => by cases r; exact wpAny_truthy_bool ⟨rfl, .rfl⟩) hi
theorem truthy_none {M : Model} {A : Around} {E : Value → Shared → Prop} {s : Shared} {Q : Bool → Shared → Prop} (h : Q false s) : wpAny M A (truthy .none) Q E s := wpAny_pure h
theorem Te.none {e : Expr} (he : Ev C ρ e .none) (hi : isTrue e C.env (eval e C.env) = do
          let v ← eval e C.env
          standAt e.pos
          holding [v] (truthy v)) : Te C ρ e false := Te.val he (fun s v σ r => by cases r; exact truthy_none ⟨rfl, .rfl⟩) hi
theorem noBool_mat : typeLookup (.type "re.Match") "__bool__" = pure none := by rw [typeLookup_type, builtinLookup_eq_fast]; kernel_rfl
theorem noLen_mat : typeLookup (.type "re.Match") "__len__" = pure none := by rw [typeLookup_type, builtinLookup_eq_fast]; kernel_rfl
theorem Te.mat {e : Expr} {t : List Nat} {b f : Nat} {g : Option (Nat × Nat)} (he : Ev C ρ e (.mat t b f g)) (hi : isTrue e C.env (eval e C.env) = do
          let v ← eval e C.env
          standAt e.pos
          holding [v] (truthy v)) : Te C ρ e true := Te.val he (fun s v σ r => by
  cases r with
  | mat a T t tk pat p lim li b e g sp n ha hT h1 h2 h3 =>
    have hty : s.TypeIs (.ref a) "re.Match" := ⟨_, h1, rfl⟩
    unfold truthy
    first
      | refine wpAny_bind (wpAny_callSpecial?_none (name := Str.ofString "__bool__") hty noBool_mat ?_)
      | refine wpAny_bind (wpAny_pure (wpAny_bind (wpAny_callSpecial?_none (name := Str.ofString "__bool__") hty noBool_mat ?_)))
    first
      | refine wpAny_bind (wpAny_specialOf (name := Str.ofString "__len__") hty noLen_mat ?_)
      | refine wpAny_bind (wpAny_pure (wpAny_bind (wpAny_specialOf (name := Str.ofString "__len__") hty noLen_mat ?_)))
    exact wpAny_pure ⟨rfl, .rfl⟩) hi
theorem operate_ {M : Model} {A : Around} {E : Value → Shared → Prop} {s : Shared} {vs : List Value} {m : Sem Value} {Q : Value → Shared → Prop} (h : wpAny M A m Q E s) : wpAny M A (operate vs m) Q E s :=
  fun Γ p hΓ => by rw [Sem.wp_operate]; exact h Γ p hΓ
/-- is none -/
theorem Te.isNone {l : Expr} {k : Nat} {p pos : Pos} {v : PV} (b : Bool) (ha : Ev C ρ l v) (hb : ∀ X h x, Rp X h x v → (x == Value.none) = b) : Te C ρ (.Compare l [.Is] [.Constant .none k p] pos) b :=
  Te.cmp ha Ev.cnone (fun s x u _ rv ru => by
    cases ru
    exact is_none ⟨by rw [hb _ _ _ rv], .rfl⟩) rfl
/-- a chain of two comparisons of ints -/
theorem Te.chain {l m r : Expr} {pos : Pos} {a b c : Int} (ha : Ev C ρ l (.int a)) (hb : Ev C ρ m (.int b)) (hc : Ev C ρ r (.int c)) (hm : lastMarks [CmpOp.LtE, CmpOp.LtE] [m, r] = false) :
    Te C ρ (.Compare l [.LtE, .LtE] [m, r] pos) (decide (a ≤ b) && decide (b ≤ c)) := Te.of fun s σ =>
  isTrue_chain (wpAny_mono (ha s σ) (fun v s1 q1 => by
    obtain ⟨r1, k1⟩ := q1
    cases r1
    unfold testChain
    refine wpAny_bind (wpAny_holding (wpAny_mono (hb s1 (σ.le k1)) (fun u s2 q2 => wpAny_bind (wpAny_standAt ?_)) fun _ _ x => x))
    obtain ⟨r2, k2⟩ := q2
    cases r2
    refine wpAny_bind (wpAny_holding (PyProof.Rows.le_int ?_))
    refine wpAny_bind (wpAny_release (wpAny_bind (wpAny_holding (wpAny_truthy_bool ?_))))
    by_cases h : a ≤ b
    · simp only [h, decide_true, if_true, Bool.true_and]
      show wpAny C.M C.A (testChain pos (.int b _) [.LtE] [eval r C.env]) _ _ _
      unfold testChain
      refine wpAny_bind (wpAny_holding (wpAny_mono (hc s2 (σ.le (k1.trans k2))) (fun u s3 q3 => wpAny_bind (wpAny_standAt ?_)) fun _ _ x => x))
      obtain ⟨r3, k3⟩ := q3
      cases r3
      refine wpAny_bind (operate_ (PyProof.Rows.le_int ?_))
      exact wpAny_holding (wpAny_truthy_bool ⟨rfl, ((k1.trans k2).trans k3).1⟩)
    · simp only [h, decide_false, Bool.false_and]
      exact wpAny_pure ⟨rfl, (k1.trans k2).1⟩) fun _ _ x => x) hm
end
end Mine
end
section
open PySem PySem.W PyProof.Rows PySem.Calls
set_option Elab.async false
set_option linter.unusedVariables false
namespace Mine
section
variable {C : Cx} {ρ : Rho}

theorem Cx.plainEnv (C : Cx) : (C.env.scope.kind == .class || (C.env.scope.kind == .module && C.env.locals != C.env.globals)) = false := by rw [C.kind]; rfl
/-- a store into the frame -/
theorem store_wpK {x : Str} {v : Value} {e : EV} {ρ' : Rho} {s : Shared} {Q : Unit → Shared → Prop} {E : Value → Shared → Prop} (σ : St C ρ s) (hp : Put ρ x e ρ') (he : e.At C.X s.heap v)
    (h : ∀ s', St C ρ' s' → LeX C.own s s' → (∀ b o, b ≠ C.env.locals → s.heap.get? b = some o → s'.heap.get? b = some o) → Q () s') : wpAny C.M C.A (storeName C.env x v) Q E s := by
  obtain ⟨m, hn, hm⟩ := σ.ns
  have hLX : C.env.locals ∈ C.X := C.sub _ C.here
  refine wpAny_storeName_local (σ.loc x hp.mem_names).1 hn (fun h' hn' hs => h _ ?_ ⟨⟨h', _, rfl, fun b o hb e => hs.extBut b o (fun q => hb (q ▸ C.here)) e⟩, Nat.le_succ _⟩ fun b o hb e => hs.extBut b o hb e) C.plainEnv
  have keep : ∀ b o, b ≠ C.env.locals → s.heap.get? b = some o → h'.get? b = some o := fun b o hb e => hs.extBut b o hb e
  have keepX : ∀ b o, b ∉ C.X → s.heap.get? b = some o → h'.get? b = some o := fun b o hb e => keep b o (fun q => hb (q ▸ hLX)) e
  have at' : ∀ (e : EV) (u : Value), e.At C.X s.heap u → e.At C.X h' u := by
    intro e u a
    cases e with
    | undef => trivial
    | val p => exact Rp.mono keepX a
    | own D l =>
      obtain ⟨e1, hD, vs, hl, hr⟩ := a
      refine ⟨e1, hD, vs, hl.at fun o ho => keep D o ?_ ho, hr.mono keepX⟩
      intro q
      obtain ⟨n, ho1⟩ := hl
      obtain ⟨o2, es, ep, ho2, hd2, _⟩ := hn
      rw [q, ho2] at ho1
      cases ho1
      cases hd2
  refine ⟨fun b o e => keep b o (fun q => ?_) (σ.base b o e), Nat.le_succ_of_le σ.toks, fun a ha => ?_, hp.names ▸ σ.nd, hp.names ▸ σ.loc, _, hn', fun y d hy hu => ?_⟩
  · have h1 := C.above _ hLX
    subst q
    rw [h1] at e
    cases e
  · by_cases q : a = C.env.locals
    · subst q
      obtain ⟨o, es, ep, ho, _⟩ := hn'
      exact ⟨o, ho⟩
    · exact (σ.inX a ha).imp fun o e => keep a o q e
  · rcases hp.old σ.nd y d hy with ⟨rfl, rfl⟩ | ⟨hne, hmem⟩
    · exact ⟨v, by simp, at' _ _ he⟩
    · obtain ⟨u, hu', ha⟩ := hm y d hmem hu
      exact ⟨u, by simp [hne, hu'], at' _ _ ha⟩

theorem store_wp {x : Str} {v : Value} {e : EV} {ρ' : Rho} {s : Shared} {Q : Unit → Shared → Prop} {E : Value → Shared → Prop} (σ : St C ρ s) (hp : Put ρ x e ρ') (he : e.At C.X s.heap v)
    (h : ∀ s', St C ρ' s' → LeX C.own s s' → Q () s') : wpAny C.M C.A (storeName C.env x v) Q E s := store_wpK σ hp he fun s' a b _ => h s' a b

theorem Ex.nil {Q : Out → Prop} (h : Q (.next ρ)) : Ex C ρ [] Q := fun s σ => wpAny_execs_nil ⟨_, h, σ, (Le.rfl).x⟩
/-- a statement, then the rest -/
def Out.then (C : Cx) (rest : List Stmt) (Q : Out → Prop) : Out → Prop
  | .next ρ => Ex C ρ rest Q
  | o => Q o
theorem Ex.cons {st : Stmt} {rest : List Stmt} {Q : Out → Prop} (h : Ex1 C ρ st (Out.then C rest Q)) : Ex C ρ (st :: rest) Q := fun s σ =>
  wpAny_execs_cons (wpAny_mono (h s σ) (fun f s1 q => by
    obtain ⟨o, ho, hi, k⟩ := q
    cases o with
    | next ρ1 =>
      cases f with
      | next => exact wpAny_mono (ho s1 hi) (fun f2 s2 q2 => let ⟨o2, a, b, c⟩ := q2; ⟨o2, a, b, k.trans c⟩) fun _ _ x => x
      | _ => exact hi.elim
    | cont ρ1 =>
      cases f with
      | cont => exact ⟨_, ho, hi, k⟩
      | _ => exact hi.elim
    | brk ρ1 =>
      cases f with
      | brk => exact ⟨_, ho, hi, k⟩
      | _ => exact hi.elim
    | ret p =>
      cases f with
      | ret => exact ⟨_, ho, hi, k⟩
      | _ => exact hi.elim) fun _ _ x => x)
theorem Ex.mono {ss : List Stmt} {Q Q' : Out → Prop} (h : Ex C ρ ss Q) (hq : ∀ o, Q o → Q' o) : Ex C ρ ss Q' := fun s σ =>
  wpAny_mono (h s σ) (fun f s1 q => let ⟨o, a, b, c⟩ := q; ⟨o, hq o a, b, c⟩) fun _ _ x => x

theorem Ex1.assign {x : Str} {xp pos : Pos} {value : Expr} {p : PV} {ρ' : Rho} {Q : Out → Prop} (he : Ev C ρ value p) (hp : Put ρ x (.val p) ρ') (h : Q (.next ρ'))
    (hs : swapsWith value (some (.Name x xp)) pos.line C.env = pure false) : Ex1 C ρ (.Assign [.Name x xp] value pos) Q := fun s σ =>
  wpAny_Assign_Name (wpAny_mono (he s σ) (fun v s1 q1 => store_wp (σ.le q1.2) hp q1.1 fun s2 σ2 k2 => ⟨_, h, σ2, q1.2.x.trans k2⟩) fun _ _ x => x) hs
theorem Ex1.ret {e : Expr} {pos : Pos} {p : PV} {Q : Out → Prop} (he : Ev C ρ e p) (h : Q (.ret p)) : Ex1 C ρ (.Return (some e) pos) Q := fun s σ =>
  wpAny_Return_some (wpAny_mono (he s σ) (fun v s1 q1 => ⟨_, h, q1.1, q1.2.x⟩) fun _ _ x => x)
theorem Ex1.cont {pos : Pos} {Q : Out → Prop} (h : Q (.cont ρ)) : Ex1 C ρ (.Continue pos) Q := fun s σ => wpAny_Continue ⟨_, h, σ, (Le.rfl).x⟩
theorem Ex1.if {t : Expr} {a b : List Stmt} {pos : Pos} {c : Bool} {Q : Out → Prop} (ht : Te C ρ t c) (ha : c = true → Ex C ρ a Q) (hb : c = false → Ex C ρ b Q) : Ex1 C ρ (.If t a b pos) Q := fun s σ =>
  wpAny_If (wpAny_mono (ht s σ) (fun t s1 q => by
    obtain ⟨rfl, k⟩ := q
    cases t with
    | true => exact wpAny_mono (ha rfl s1 (σ.le k)) (fun f s2 q2 => let ⟨o, x, y, z⟩ := q2; ⟨o, x, y, k.x.trans z⟩) fun _ _ x => x
    | false => exact wpAny_mono (hb rfl s1 (σ.le k)) (fun f s2 q2 => let ⟨o, x, y, z⟩ := q2; ⟨o, x, y, k.x.trans z⟩) fun _ _ x => x) fun _ _ x => x)
/-- a += b, ints -/
theorem Ex1.augInt {x : Str} {xp pos : Pos} {value : Expr} {a b : Int} {ρ' : Rho} {Q : Out → Prop} (hx : At ρ x (.val (.int a))) (he : Ev C ρ value (.int b)) (hp : Put ρ x (.val (.int (a + b))) ρ') (h : Q (.next ρ')) :
    Ex1 C ρ (.AugAssign (.Name x xp) .Add value pos) Q := fun s σ => by
  obtain ⟨m, hn, hm⟩ := σ.ns
  obtain ⟨v, hv, ha⟩ := hm x _ hx.mem (by simp)
  have hl := σ.loc x (List.mem_map.mpr ⟨_, hx.mem, rfl⟩)
  refine wpAny_AugAssign_Name (wpAny_loadName_local C.kind hl.1 hn hv (wpAny_mono (he s σ) (fun u s1 q1 => ?_) fun _ _ x => x))
  obtain ⟨r1, k1⟩ := q1
  cases ha
  cases r1
  exact PyProof.Rows.iadd_int (store_wp (s := { s1 with toks := s1.toks + 1 }) (σ.le (k1.trans ⟨.toks _, Nat.le_succ _⟩)) hp (.int _ _) fun s2 σ2 k2 => ⟨_, h, σ2, (k1.trans ⟨.toks _, Nat.le_succ _⟩).x.trans k2⟩)
/-- a += b, texts -/
theorem Ex1.augStr {x : Str} {xp pos : Pos} {value : Expr} {a b : List Nat} {ρ' : Rho} {Q : Out → Prop} (hx : At ρ x (.val (.str a))) (he : Ev C ρ value (.str b)) (hp : Put ρ x (.val (.str (a ++ b))) ρ') (hl : a.length + b.length ≤ sizeLine) (h : Q (.next ρ')) :
    Ex1 C ρ (.AugAssign (.Name x xp) .Add value pos) Q := fun s σ => by
  obtain ⟨m, hn, hm⟩ := σ.ns
  obtain ⟨v, hv, ha⟩ := hm x _ hx.mem (by simp)
  have hlo := σ.loc x (List.mem_map.mpr ⟨_, hx.mem, rfl⟩)
  refine wpAny_AugAssign_Name (wpAny_loadName_local C.kind hlo.1 hn hv (wpAny_mono (he s σ) (fun u s1 q1 => ?_) fun _ _ x => x))
  obtain ⟨r1, k1⟩ := q1
  cases ha
  cases r1
  refine wpAny_with_toks (n := s1.toks) (Nat.le_refl _) (PyProof.Rows.iadd_str (fun t' tk => ?_) (by rw [S_length, S_length]; exact hl))
  rw [S_append]
  intro htk
  exact store_wp (s := { s1 with toks := tk }) (σ.le (k1.trans ⟨.toks _, htk⟩)) hp (.str _ _) fun s2 σ2 k2 => ⟨_, h, σ2, (k1.trans ⟨.toks _, htk⟩).x.trans k2⟩
/-- two names from a pair -/
theorem unpack_wp {t : Addr} {items : Array Value} {s : Shared} {Q : List Value → Shared → Prop} {E : Value → Shared → Prop} (σ : St C ρ s) (ht : s.heap.IsTuple t items)
    (h : ∀ s', St C ρ s' → Le s s' → Q items.toList s') : wpAny C.M C.A (unpackItems (.ref t) items.size none) Q E s :=
  wpAny_unpackItems_tuple C.handled ht fun h' he => by
    have k : Heap.le s.heap h' := fun b o e => he b o (Nat.ne_of_lt (Heap.lt_size e)) e
    exact h _ (σ.le ⟨.of k, Nat.le_refl _⟩) ⟨.of k, Nat.le_refl _⟩
theorem Ex1.assign2 {x y : Str} {xp yp tp vp pos : Pos} {k kv : Nat} {e f : Expr} {p q : PV} {ρ' ρ'' : Rho} {Q : Out → Prop} (he : Evs C ρ [e, f] [p, q])
    (hy : Put ρ y (.val q) ρ') (hx : Put ρ' x (.val p) ρ'') (h : Q (.next ρ''))
    (hs : swapsWithSole [.Tuple [.Name x xp, .Name y yp] k tp] (.Tuple [e, f] kv vp) pos.line C.env = pure false)
    (hw : swappedStores [.Tuple [.Name x xp, .Name y yp] k tp] (.Tuple [e, f] kv vp) C.env = pure (some [x, y])) : Ex1 C ρ (.Assign [.Tuple [.Name x xp, .Name y yp] k tp] (.Tuple [e, f] kv vp) pos) Q := fun s σ =>
  Assign_Tuple_swapped (names := [x, y]) (wpAny_mono (Ev.tuple he (by show 2 ≤ sizeLine; rw [sizeLine_eq]; omega) s σ) (fun v s1 q1 => by
    obtain ⟨r1, k1⟩ := q1
    cases r1 with
    | tup a vs l ha ht hr =>
      obtain ⟨v, u, rfl, rv, ru⟩ := hr.two
      refine unpack_wp (items := #[v, u]) (σ.le k1) ht fun s2 σ2 k2 => ?_
      show wpAny C.M C.A (assignInOrder [bindName C.env y, bindName C.env x] [u, v]) _ _ s2
      refine wpAny_assignInOrder_more (wpAny_bindName (store_wp σ2 hy (ru.le0 k2.1) fun s3 σ3 k3 => ?_))
      refine wpAny_assignInOrder_more (wpAny_bindName (store_wp σ3 hx ((rv.le0 k2.1).mono fun b o hb e => k3.heap b o (fun q => hb (C.sub _ q)) e) fun s4 σ4 k4 => ?_))
      exact wpAny_assignInOrder_none ⟨_, h, σ4, ((k1.trans k2).x.trans k3).trans k4⟩) fun _ _ x => x) hs hw
theorem Ex1.unpack {x y : Str} {xp yp tp pos : Pos} {k : Nat} {value : Expr} {p q : PV} {ρ' ρ'' : Rho} {Q : Out → Prop} (he : Ev C ρ value (.tup [p, q]))
    (hx : Put ρ x (.val p) ρ') (hy : Put ρ' y (.val q) ρ'') (h : Q (.next ρ''))
    (hs : swapsWithSole [.Tuple [.Name x xp, .Name y yp] k tp] value pos.line C.env = pure false)
    (hw : swappedStores [.Tuple [.Name x xp, .Name y yp] k tp] value C.env = pure none) : Ex1 C ρ (.Assign [.Tuple [.Name x xp, .Name y yp] k tp] value pos) Q := fun s σ =>
  Assign_Tuple (wpAny_mono (he s σ) (fun v s1 q1 => by
    obtain ⟨r1, k1⟩ := q1
    cases r1 with
    | tup a vs l ha ht hr =>
      obtain ⟨v, u, rfl, rv, ru⟩ := hr.two
      show wpAny C.M C.A (do standAt tp; PySem.unpack (.ref a) (assignEach [.Name x xp, .Name y yp] C.env)) _ _ s1
      refine wpAny_bind (wpAny_standAt (wpAny_bind (wpAny_holding (unpack_wp (items := #[v, u]) (σ.le k1) ht fun s2 σ2 k2 => ?_))))
      show wpAny C.M C.A (assignInOrder [PySem.assign (.Name x xp) C.env, PySem.assign (.Name y yp) C.env] [v, u]) _ _ s2
      refine wpAny_assignInOrder_more (wpAny_assign_Name (store_wp σ2 hx (rv.le0 k2.1) fun s3 σ3 k3 => ?_))
      refine wpAny_assignInOrder_more (wpAny_assign_Name (store_wp σ3 hy ((ru.le0 k2.1).mono fun b o hb e => k3.heap b o (fun q => hb (C.sub _ q)) e) fun s4 σ4 k4 => ?_))
      exact wpAny_assignInOrder_none ⟨_, h, σ4, ((k1.trans k2).x.trans k3).trans k4⟩) fun _ _ x => x) hs hw

/-- how a loop's turn ends -/
def Out.turn (I : Rho → Prop) (Q : Out → Prop) : Out → Prop
  | .next ρ => I ρ
  | .cont ρ => I ρ
  | .brk ρ => Q (.next ρ)
  | .ret p => Q (.ret p)
theorem Ex1.while {test : Expr} {body : List Stmt} {pos : Pos} {Q : Out → Prop} (I : Nat → Rho → Prop) (n : Nat) (h0 : I n ρ)
    (step : ∀ n ρ1, I n ρ1 → ∃ b, Te C ρ1 test b ∧ (b = true → Ex C ρ1 body (Out.turn (fun ρ2 => ∃ m, m < n ∧ I m ρ2) Q)) ∧ (b = false → Q (.next ρ1))) : Ex1 C ρ (.While test body [] pos) Q := fun s σ => by
  refine wpAny_While (codeAny_whileLoop (fun n s1 => ∃ ρ1, I n ρ1 ∧ St C ρ1 s1 ∧ LeX C.own s s1) (fun n s1 hI => ?_) n ⟨ρ, h0, σ, (Le.rfl).x⟩)
  obtain ⟨ρ1, hI, σ1, k1⟩ := hI
  obtain ⟨b, ht, hb, he⟩ := step n ρ1 hI
  refine wpAny_mono (ht s1 σ1) (fun t s2 q => ?_) no
  obtain ⟨rfl, k2⟩ := q
  cases t with
  | false =>
    refine wpAny_execs_nil ?_
    exact ⟨_, he rfl, σ1.le k2, k1.trans k2.x⟩
  | true =>
    refine wpAny_mono (hb rfl s2 (σ1.le k2)) (fun f s3 q3 => ?_) no
    obtain ⟨o, ho, hi, k3⟩ := q3
    have k := (k1.trans k2.x).trans k3
    cases o <;> cases f <;> first | exact hi.elim | skip
    · obtain ⟨m, hm, hI'⟩ := ho
      exact ⟨m, hm, _, hI', hi, k⟩
    · obtain ⟨m, hm, hI'⟩ := ho
      exact ⟨m, hm, _, hI', hi, k⟩
    · exact ⟨_, ho, hi, k⟩
    · exact ⟨_, ho, hi, k⟩
end
end Mine
end
section
open PySem PySem.W PyProof.Rows PySem.Calls
set_option Elab.async false
set_option linter.unusedVariables false
namespace Mine

/-- a def of the text: at this place, with this body -/
def Def (hB : Heap) (a : Addr) (name : Str) (params : Arguments) (body : List Stmt) (scope : Scope) : Prop :=
  ∃ o pm cd doc, hB.get? a = some o ∧ o.data = .func (docDef name params body scope pm cd doc) ∧ hB.CodeRec cd name

/-- a call of the thing at a: on such arguments it returns such a value; n frames are enough -/
def Fn (prog : Program) (w : World) (hB : Heap) (a : Addr) (n : Nat) (ps : List PV) (p : PV) : Prop :=
  ∀ (X : List Addr) (A : Around) (s : Shared) (vs : List Value), A.handled = none → A.depth + n < recursionLimit → A.units + 100 * n + 100 < cLine →
    (∀ b ∈ X, hB.get? b = none) → (∀ b ∈ X, ∃ o, s.heap.get? b = some o) → Heap.le hB s.heap → 1 ≤ s.toks → Rps X s.heap vs ps →
    wpAny (model prog w) A (call (.ref a) vs) (fun v s' => Rp X s'.heap v p ∧ Le0 s s') (fun _ _ => False) s

/-- the activation of a def -/
def inner (prog : Program) (w : World) (hB : Heap) (A : Around) (name : Str) (scope : Scope) (L a : Addr) (cd : Value) (X : List Addr) (n : Nat) (hk : scope.kind = .function)
    (hL : hB.get? L = none) (hX : ∀ b ∈ X, hB.get? b = none) (hh : A.handled = none) (hd : A.depth + (n + 1) < recursionLimit) (hu : A.units + 100 * (n + 1) + 100 < cLine) : Cx where
  prog := prog
  w := w
  hB := hB
  A := A.deeper (envOf name scope L a cd)
  env := envOf name scope L a cd
  X := L :: X
  own := [L]
  n := n
  kind := hk
  glob := rfl
  blt := rfl
  here := .head _
  sub := fun b hb => by cases hb with | head => exact .head _ | tail _ h => cases h
  above := fun b hb => by cases hb with | head => exact hL | tail _ h => exact hX b h
  handled := hh
  depth := by show A.depth + 1 + n < recursionLimit; omega
  units := by show A.units + 3 + 100 * n + 100 < cLine; omega

/-- the frame's words at the start: the parameters, then the names not bound yet -/
def Rho0 (xs : List Str) (ps : List PV) (us : List Str) : Rho := (xs.zip ps).map (fun x => (x.1, .val x.2)) ++ us.map fun x => (x, .undef)

theorem zip_get {X : List Addr} {h : Heap} : ∀ {xs : List Str} {vs : List Value} {ps : List PV}, Rps X h vs ps → (xs.zip ps).map (·.1) = xs → xs.Nodup → ∀ x p, (x, p) ∈ xs.zip ps → ∃ v, (xs.zip vs).lookup x = some v ∧ Rp X h v p := by
  intro xs
  induction xs with
  | nil => intro vs ps _ _ _ x p hm; simp at hm
  | cons y xs ih =>
    intro vs ps hr hz hn x p hm
    cases hr with
    | nil => simp at hm
    | cons h1 h2 =>
      simp only [List.zip_cons_cons, List.mem_cons, Prod.mk.injEq] at hm
      rw [List.nodup_cons] at hn
      simp only [List.zip_cons_cons, List.map_cons, List.cons.injEq, true_and] at hz
      rw [List.zip_cons_cons, List.lookup_cons]
      rcases hm with ⟨rfl, rfl⟩ | hm
      · exact ⟨_, by simp, h1⟩
      · obtain ⟨v, hv, r⟩ := ih h2 hz hn.2 x p hm
        have : x ∈ xs := (List.of_mem_zip hm).1
        have hne : (x == y) = false := by
          rw [beq_eq_false_iff_ne]; rintro rfl; exact hn.1 this
        exact ⟨v, by rw [hne]; exact hv, r⟩

theorem lookup_rev {α : Type} : ∀ {l : List (Str × α)}, (l.map (·.1)).Nodup → ∀ x, l.reverse.lookup x = l.lookup x
  | [], _, x => rfl
  | (y, v) :: l, h, x => by
    rw [List.map_cons, List.nodup_cons] at h
    rw [List.reverse_cons, List.lookup_append, lookup_rev h.2, List.lookup_cons]
    by_cases e : x = y
    · subst e
      have : l.lookup x = none := by
        rw [List.lookup_eq_none_iff]
        intro p hp
        rw [bne_iff_ne]
        rintro rfl
        exact h.1 (List.mem_map.mpr ⟨p, hp, rfl⟩)
      simp [this]
    · have : (x == y) = false := beq_eq_false_iff_ne.mpr e
      simp [this, List.lookup_cons]

theorem Rho0_names {xs us : List Str} {ps : List PV} (hz : (xs.zip ps).map (·.1) = xs) : (Rho0 xs ps us).map (·.1) = xs ++ us := by
  unfold Rho0
  rw [List.map_append, List.map_map, List.map_map, show ((fun x => x.1) ∘ fun x : Str × PV => (x.1, EV.val x.2)) = fun x => x.1 from rfl, hz]
  show _ ++ us.map (fun x => x) = _
  simp
theorem zip_fst {xs : List Str} {ps : List PV} (h : xs.length = ps.length) : (xs.zip ps).map (·.1) = xs := by
  show (xs.zip ps).map Prod.fst = xs
  rw [List.map_fst_zip]; omega
/-- what the frame of a def holds at its start -/
theorem St.start {C : Cx} {s : Shared} {h₁ : Heap} {k : Nat} {xs us : List Str} {vs : List Value} {ps : List PV} {X : List Addr} (hX : C.X = C.env.locals :: X) (hb : Heap.le C.hB s.heap) (ht : 1 ≤ k)
    (hin : ∀ b ∈ X, ∃ o, s.heap.get? b = some o) (hr : Rps X s.heap vs ps) (hlen : xs.length = ps.length) (hnd : (xs ++ us).Nodup)
    (hloc : ∀ x ∈ xs ++ us, C.env.kindOf x = some .local ∧ (x == ("__debug__" : Str)) = false) (F : Fr s.heap s.heap.objs.size h₁ (fun x => (xs.zip vs).reverse.lookup x)) (hL : C.env.locals = s.heap.objs.size) :
    St C (Rho0 xs ps us) { s with heap := h₁, toks := k } := by
  have hz := zip_fst hlen
  have hnm := Rho0_names (us := us) hz
  have hxn := (List.nodup_append.mp hnd).1
  refine ⟨fun b o e => F.keep b o (hb b o e), ht, fun b hb' => ?_, hnm ▸ hnd, hnm ▸ hloc, _, hL ▸ F.ns, fun x e hx hu => ?_⟩
  · rw [hX] at hb'
    cases hb' with
    | head =>
      rw [hL]
      obtain ⟨o, es, ep, ho, _⟩ := F.ns
      exact ⟨o, ho⟩
    | tail _ h => exact (hin b h).imp fun o => F.keep b o
  · unfold Rho0 at hx
    rw [List.mem_append] at hx
    rcases hx with hx | hx
    · obtain ⟨⟨y, p⟩, hy, he⟩ := List.mem_map.mp hx
      cases he
      obtain ⟨v, hv, r⟩ := zip_get hr hz hxn y p hy
      have hvl : (xs.zip vs).map (·.1) = xs := by
        show (xs.zip vs).map Prod.fst = xs
        rw [List.map_fst_zip]; rw [hr.length]; omega
      refine ⟨v, ?_, ?_⟩
      · show ((xs.zip vs).reverse).lookup y = some v
        rw [lookup_rev (by rw [hvl]; exact hxn)]; exact hv
      · show Rp C.X h₁ v p
        have r1 : Rp X h₁ v p := r.mono fun b o _ => F.keep b o
        rw [hX, hL]
        exact (r.more (X' := s.heap.objs.size :: X) fun a ha => by
          cases ha with
          | head => exact .inr (get_size _)
          | tail _ h => exact .inl h).mono fun b o _ => F.keep b o
    · obtain ⟨y, _, he⟩ := List.mem_map.mp hx
      cases he
      exact absurd rfl hu

theorem Fn.of {prog : Program} {w : World} {hB : Heap} {a : Addr} {n : Nat} {name : Str} {params : Arguments} {body : List Stmt} {scope : Scope} {ps : List PV} {p : PV} (D : Def hB a name params body scope) (us : List Str) (hl : hB.NoLimit)
    (h : ∀ C : Cx, C.prog = prog → C.w = w → C.hB = hB → C.env.scope = scope → C.n = n → Ex C (Rho0 (params.args.map (·.arg)) ps us) body (fun o => o = .ret p))
    (hlen : (params.args.map (·.arg)).length = ps.length) (hnd : ((params.args.map (·.arg)) ++ us).Nodup)
    (hloc : ∀ x ∈ (params.args.map (·.arg)) ++ us, scope.names.lookup x = some .local ∧ (x == ("__debug__" : Str)) = false)
    (hbind : ∀ pm cd doc (vs : List Value), vs.length = (params.args.map (·.arg)).length → bindArgs (docDef name params body scope pm cd doc) ⟨vs, []⟩ = pure ((params.args.map (·.arg)).zip vs))
    (hco : scope.isCoroutine = false := by rfl) (hgen : scope.isGenerator = false := by rfl) (hk : scope.kind = .function := by rfl)
    (hcell : ∀ x ∈ scope.names, x.2 ≠ .cell := by decide) : Fn prog w hB a (n + 1) ps p := by
  intro X A s vs hh hd hu hX hin hb ht hr
  obtain ⟨o, pm, cd, doc, ho, hdat, hcd⟩ := D
  have hvl : vs.length = (params.args.map (·.arg)).length := by rw [hr.length, hlen]
  refine wpAny_call (call_pos (by omega) (hb _ _ ho) hdat (hl.keeps hb) (hcd.keeps hb) (hbind pm cd doc vs hvl) (fun x hx => (hloc x.1 (List.mem_append_left _ (List.of_mem_zip hx).1)).1) (fun h₁ F => ?_) hco hgen hk hcell)
  have hL : hB.get? s.heap.objs.size = none := by
    cases e : hB.get? s.heap.objs.size with
    | none => rfl
    | some o => exact absurd (Heap.lt_size (hb _ _ e)) (Nat.lt_irrefl _)
  refine wpAny_mono ((h (inner prog w hB A name scope s.heap.objs.size a cd X n hk hL hX hh hd hu) rfl rfl rfl rfl rfl) _ (St.start rfl hb (show 1 ≤ s.toks + _ from Nat.le_trans ht (Nat.le_add_right _ _)) hin hr hlen hnd hloc F rfl)) (fun f s' q => ?_) fun _ _ x => x.elim
  obtain ⟨o, rfl, hi, k⟩ := q
  cases f with
  | ret v =>
    have hi : Rp (s.heap.objs.size :: X) s'.heap v p := hi
    refine ⟨hi.less fun b hb => .tail _ hb, ?_⟩
    obtain ⟨⟨h', tk, rfl, kk⟩, _⟩ := k
    refine ⟨h', tk, rfl, fun b o e => kk b o (fun q => ?_) (F.keep b o e)⟩
    have : b = s.heap.objs.size := by cases q with | head => rfl | tail _ h => cases h
    subst this
    exact absurd (Heap.lt_size e) (Nat.lt_irrefl _)
  | next => exact hi.elim
  | brk => exact hi.elim
  | cont => exact hi.elim
end Mine
end
section
open PySem PySem.W PyProof.Rows PySem.Calls
set_option Elab.async false
set_option linter.unusedVariables false
namespace Mine
section
variable {C : Cx} {ρ : Rho}

/-- a value of the world below, seen from an activation -/
theorem Rp.up {X : List Addr} {hB h : Heap} {v : Value} {p : PV} (r : Rp [] hB v p) (hX : ∀ a ∈ X, hB.get? a = Option.none) (k : Heap.le hB h) : Rp X h v p :=
  (r.more (X' := X) fun a ha => .inr (hX a ha)).mono fun b o _ e => k b o e
theorem Ev.globP {x : Str} {pos : Pos} {v : Value} {p : PV} (g : GlobIs C.hB x v) (r : Rp [] C.hB v p) (hx : C.env.kindOf x = some .globalImplicit) (hd : (x == ("__debug__" : Str)) = false) : Ev C ρ (.Name x pos) p := Ev.of fun s σ =>
  wpAny_mono (Ev.glob g hx hd s σ) (fun u s' q => by
    obtain ⟨q1, q2⟩ := q
    cases q1
    exact ⟨r.up C.above (σ.le q2).base, q2.1⟩) fun _ _ x => x

/-- a call of a def -/
theorem Ev.callF {x : Str} {np pos : Pos} {a : Addr} {n : Nat} {e : Expr} {es : List Expr} {ps : List PV} {p : PV} {o : Obj} {fd : FuncData} (hf : Ev C ρ (.Name x np) (.raw (.ref a))) (ha : Evs C ρ (e :: es) ps)
    (ho : C.hB.get? a = some o) (hdat : o.data = .func fd) (F : Fn C.prog C.w C.hB a n ps p) (hn : n ≤ C.n)
    (he : starEach (e :: es) C.env = (false, eval e C.env) :: starEach es C.env) : Ev C ρ (.Call (.Name x np) (e :: es) [] pos) p := Ev.of fun s σ =>
  wpAny_Call_NameR (wpAny_mono (hf s σ) (fun f s1 q1 => by
    obtain ⟨r1, k1⟩ := q1
    cases r1
    refine PyProof.Rows.callWith_def hdat (wpAny_mono (ha s1 _ (σ.le k1)) (fun vs s2 q2 => ?_) fun _ _ x => x) he
    have σ2 := σ.le (k1.trans q2.2)
    have := C.depth
    have := C.units
    exact ⟨σ2.base _ _ ho, wpAny_mono (F C.X C.A s2 vs C.handled (by omega) (by omega) C.above σ2.inX σ2.base σ2.toks q2.1) (fun v s3 q3 => ⟨q3.1, (k1.trans q2.2).1.trans q3.2⟩) fun _ _ x => x⟩) fun _ _ x => x)

/-- a global that is a def which answers so -/
def Can (prog : Program) (w : World) (hB : Heap) (x : Str) (n : Nat) (ps : List PV) (p : PV) : Prop :=
  ∃ a o fd, GlobIs hB x (.ref a) ∧ hB.get? a = some o ∧ o.data = .func fd ∧ Fn prog w hB a n ps p
theorem Ev.can {x : Str} {np pos : Pos} {n : Nat} {e : Expr} {es : List Expr} {ps : List PV} {p : PV} (F : Can C.prog C.w C.hB x n ps p) (ha : Evs C ρ (e :: es) ps) (hn : n ≤ C.n)
    (hx : C.env.kindOf x = some .globalImplicit) (hd : (x == ("__debug__" : Str)) = false) (he : starEach (e :: es) C.env = (false, eval e C.env) :: starEach es C.env) : Ev C ρ (.Call (.Name x np) (e :: es) [] pos) p :=
  let ⟨a, o, fd, g, ho, hdat, f⟩ := F
  Ev.callF (Ev.glob g hx hd) ha ho hdat f hn he

/-! the str methods -/
def lowerL (t : List Nat) : List Nat := (Txt.lower (S t)).cps.toList
def findL (t y : List Nat) (i : Int) : Int := Txt.find3 (S t) (S y) i
theorem Ev.lower {o : Expr} {apos pos : Pos} {t : List Nat} (ho : Ev C ρ o (.str t)) (hl : t.length ≤ 5592405)
    (hb : attributeBase o "lower" C.env (eval o C.env) = eval o C.env) (hp : (apos.endLine == pos.line) = true) : Ev C ρ (.Call (.Attribute o "lower" apos) [] [] pos) (.str (lowerL t)) :=
  Ev.methS0 ho PySem.F.slot_str_lower PySem.F.type_str_lower (fun s tk σ => SC.lower (fit_lower (by rw [S_length]; exact hl)) ⟨by
    have := Rp.str (X := C.X) (h := s.heap) (lowerL t) s.toks
    rw [show S (lowerL t) = Txt.lower (S t) from (S_of _).symm] at this
    exact this, .toks _⟩) hb hp
theorem Ev.isalnum {o : Expr} {apos pos : Pos} {t : List Nat} (ho : Ev C ρ o (.str t))
    (hb : attributeBase o "isalnum" C.env (eval o C.env) = eval o C.env) (hp : (apos.endLine == pos.line) = true) : Ev C ρ (.Call (.Attribute o "isalnum" apos) [] [] pos) (.bool (Txt.isalnum (S t))) :=
  Ev.methS0 ho PySem.F.slot_str_isalnum PySem.F.type_str_isalnum (fun s tk σ => SC.isalnum ⟨.bool _, .rfl⟩) hb hp
theorem Ev.isalpha {o : Expr} {apos pos : Pos} {t : List Nat} (ho : Ev C ρ o (.str t))
    (hb : attributeBase o "isalpha" C.env (eval o C.env) = eval o C.env) (hp : (apos.endLine == pos.line) = true) : Ev C ρ (.Call (.Attribute o "isalpha" apos) [] [] pos) (.bool (Txt.isalpha (S t))) :=
  Ev.methS0 ho PySem.F.slot_str_isalpha PySem.F.type_str_isalpha (fun s tk σ => SC.isalpha ⟨.bool _, .rfl⟩) hb hp
theorem Ev.index {o e : Expr} {apos pos : Pos} {t y : List Nat} {i : Nat} {rest : List Nat} (ho : Ev C ρ o (.str t)) (he' : Ev C ρ e (.str y)) (hi : Builtin.Str.occurrences (S t) (S y) 0 (S t).length 1 = i :: rest)
    (hb : attributeBase o "index" C.env (eval o C.env) = eval o C.env) (hp : (apos.endLine == pos.line) = true) (he : starEach [e] C.env = (false, eval e C.env) :: starEach [] C.env) : Ev C ρ (.Call (.Attribute o "index" apos) [e] [] pos) (.int i) :=
  Ev.methS ho (Evs.cons he' Evs.nil he) PySem.F.slot_str_index PySem.F.type_str_index (fun s tk vs σ r => by
    obtain ⟨v, rfl, r1⟩ := r.one
    cases r1
    exact SC.index hi ⟨.int _ _, .toks _⟩) hb (by rw [he]; rfl) hp he (fun _ => rfl)
theorem Ev.find3 {o e f : Expr} {apos pos : Pos} {t y : List Nat} {i : Int} (ho : Ev C ρ o (.str t)) (h1 : Ev C ρ e (.str y)) (h2 : Ev C ρ f (.int i))
    (hb : attributeBase o "find" C.env (eval o C.env) = eval o C.env) (hp : (apos.endLine == pos.line) = true) (he : starEach [e, f] C.env = (false, eval e C.env) :: starEach [f] C.env) (he' : starEach [f] C.env = (false, eval f C.env) :: starEach [] C.env) :
    Ev C ρ (.Call (.Attribute o "find" apos) [e, f] [] pos) (.int (findL t y i)) :=
  Ev.methS ho (Evs.cons h1 (Evs.cons h2 Evs.nil he') he) PySem.F.slot_str_find PySem.F.type_str_find (fun s tk vs σ r => by
    obtain ⟨v, u, rfl, r1, r2⟩ := r.two
    cases r1; cases r2
    exact SC.find3 ⟨.int _ _, .toks _⟩) hb (by rw [he, he']; rfl) hp he (fun _ => by rw [he']; rfl)
/-- a replacement of one sign by one, both written out -/
theorem Ev.replace {o : Expr} {x y : Str} {k1 k2 : Nat} {p1 p2 apos pos : Pos} {t : List Nat} (ho : Ev C ρ o (.str t)) (hne : (x == y) = false) (hl : t.length + (t.length + 1) * y.length ≤ 16777216)
    (hb : attributeBase o "replace" C.env (eval o C.env) = eval o C.env) (hp : (apos.endLine == pos.line) = true) :
    Ev C ρ (.Call (.Attribute o "replace" apos) [.Constant (.str x) k1 p1, .Constant (.str y) k2 p2] [] pos) (.str (Txt.replace (S t) x y).cps.toList) :=
  Ev.meth ho PySem.F.plainAttrs_str PySem.F.slot_str_replace PySem.F.type_str_replace (fun s v σ r => str_type r) (fun s v σ r => by
    cases r
    refine callWith_method1 (PyProof.Rows.args_cons (wpAny_Constant_str (PyProof.Rows.args_cons (wpAny_Constant_str (PyProof.Rows.args_nil ?_)) rfl)) rfl) rfl rfl
    have ht := σ.toks
    refine SC.replace (by show s.toks ≠ 0; omega) (by show s.toks + 1 ≠ 0; omega) (by show s.toks ≠ s.toks + 1; omega) hne (by rw [S_length]; exact hl) (fun t' k => ?_)
    refine ⟨?_, .toks _⟩
    have := Rp.str (X := C.X) (h := s.heap) (Txt.replace (S t) x y).cps.toList t'
    rw [← S_of] at this
    exact this) hb rfl hp
end
end Mine
end
section
open PySem PySem.W PyProof.Rows PySem.Calls
set_option Elab.async false
set_option linter.unusedVariables false
namespace Mine

/-- the activation with one place more of its own -/
def Cx.with (C : Cx) (D : Addr) (hD : C.hB.get? D = none) : Cx where
  prog := C.prog
  w := C.w
  hB := C.hB
  A := C.A
  env := C.env
  X := D :: C.X
  own := D :: C.own
  n := C.n
  kind := C.kind
  glob := C.glob
  blt := C.blt
  here := .tail _ C.here
  sub := fun a ha => by cases ha with | head => exact .head _ | tail _ h => exact .tail _ (C.sub a h)
  above := fun a ha => by cases ha with | head => exact hD | tail _ h => exact C.above a h
  handled := C.handled
  depth := C.depth
  units := C.units

section
variable {C : Cx} {ρ : Rho}

theorem none_below {hB h : Heap} (k : Heap.le hB h) {a : Addr} (e : h.get? a = none) : hB.get? a = none := by
  cases q : hB.get? a with
  | none => rfl
  | some o => rw [k _ _ q] at e; cases e
theorem St.free {s : Shared} (σ : St C ρ s) : C.hB.get? s.heap.objs.size = none := none_below σ.base (get_size _)
theorem EV.At.more {X : List Addr} {h : Heap} {v : Value} {e : EV} {D : Addr} (a : e.At X h v) (hD : h.get? D = none) : e.At (D :: X) h v := by
  cases e with
  | undef => trivial
  | val p => exact Rp.more (fun b hb => by cases hb with | head => exact .inr hD | tail _ q => exact .inl q) a
  | own E l =>
    obtain ⟨e1, hE, vs, hl, hr⟩ := a
    exact ⟨e1, .tail _ hE, vs, hl, hr.more fun b hb => by cases hb with | head => exact .inr hD | tail _ q => exact .inl q⟩
/-- a place just made is taken as its own -/
theorem St.with {s : Shared} (σ : St C ρ s) (o : Obj) (k : Nat) (hk : s.toks ≤ k) (ho : o.isFreed = false) : St (C.with s.heap.objs.size σ.free) ρ { s with heap := s.heap.push o, toks := k } := by
  obtain ⟨m, hn, hm⟩ := σ.ns
  have kp : Heap.le s.heap (s.heap.push o) := fun _ _ e => Heap.get?_push_of_some _ e
  refine ⟨σ.base.trans kp, Nat.le_trans σ.toks hk, fun a ha => ?_, σ.nd, σ.loc, m, hn.keeps kp, fun y e hy hu => ?_⟩
  · cases ha with
    | head => exact ⟨o, Heap.get?_push_size _ ho⟩
    | tail _ h => exact (σ.inX a h).imp fun o' e => kp a o' e
  · obtain ⟨v, hv, ha⟩ := hm y e hy hu
    exact ⟨v, hv, (ha.more (get_size _)).le kp⟩
/-- what an activation with one place more ends in -/
theorem wind {s s1 : Shared} {D : Addr} {hD : C.hB.get? D = none} {Q : Out → Prop} {f : Flow} {s' : Shared} (hQ : ∀ o, Q o → ∃ p, o = .ret p) (hs : s.heap.get? D = none) (k : Le s s1)
    (h : ∃ o, Q o ∧ o.Is (C.with D hD) s' f ∧ LeX (C.with D hD).own s1 s') : ∃ o, Q o ∧ o.Is C s' f ∧ LeX C.own s s' := by
  obtain ⟨o, ho, hi, k'⟩ := h
  obtain ⟨p, rfl⟩ := hQ o ho
  refine ⟨_, ho, ?_, ?_⟩
  · cases f with
    | ret v =>
      have hi : Rp (D :: C.X) s'.heap v p := hi
      exact hi.less fun a ha => .tail _ ha
    | next => exact hi.elim
    | brk => exact hi.elim
    | cont => exact hi.elim
  · obtain ⟨⟨h1, t1, rfl, k1⟩, kt⟩ := k
    obtain ⟨⟨h2, t2, rfl, k2⟩, kt2⟩ := k'
    exact ⟨⟨h2, t2, rfl, fun b o hb e => k2 b o (fun q => by cases q with | head => rw [hs] at e; cases e | tail _ q => exact hb q) (k1 b o e)⟩, Nat.le_trans kt kt2⟩

theorem own_ne_locals {s : Shared} (σ : St C ρ s) {D : Addr} {its : Array Value} (hl : s.heap.PlainList D its) : D ≠ C.env.locals := by
  rintro rfl
  obtain ⟨n, ho⟩ := hl
  obtain ⟨m, ⟨o, es, ep, ho', hd, _⟩, _⟩ := σ.ns
  rw [ho] at ho'
  cases ho'
  cases hd

def EV.isOwn : EV → Bool
  | .own _ _ => true
  | _ => false

/-- result.append(e) -/
theorem Ex1.append {x : Str} {xp apos pos epos : Pos} {e : Expr} {D : Addr} {l : List PV} {p : PV} {ρ' : Rho} {Q : Out → Prop} (hx : At ρ x (.own D l)) (hD : D ∈ C.own) (he : Ev C ρ e p) (hp : Put ρ x (.own D (l ++ [p])) ρ')
    (hone : (ρ.all fun y => y.1 == x || !y.2.isOwn) = true) (hl : l.length ≤ sizeLine) (h : Q (.next ρ'))
    (hfew : ((backTo pos (starEach [e] C.env)).all (fun x => !x.1) && (backToKw pos (keywordEach [] C.env)).all (fun x => x.1.isSome) && decide (([e] : List Expr).length + ([] : List Keyword).length + (if ([] : List Keyword).isEmpty then 0 else 1) < 30)) = true)
    (hline : (apos.endLine == pos.line) = true) (htrees : backTo pos (starEach [e] C.env) = [(false, eval e C.env)])
    (hbase : attributeBase (.Name x xp) "append" C.env (eval (.Name x xp) C.env) = eval (.Name x xp) C.env) (hi : interactive C.env = false)
    (hsw : swapsWith (.Call (.Attribute (.Name x xp) "append" apos) [e] [] pos) none epos.line C.env = pure false) : Ex1 C ρ (.Expr (.Call (.Attribute (.Name x xp) "append" apos) [e] [] pos) epos) Q := fun s σ => by
  obtain ⟨m, hn, hm⟩ := σ.ns
  obtain ⟨v, hv, hat⟩ := hm x _ hx.mem (by simp)
  have hlo := σ.loc x (List.mem_map.mpr ⟨_, hx.mem, rfl⟩)
  obtain ⟨rfl, hDX, vs, hL, hr⟩ := hat
  refine wpAny_Expr (wpAny_Call_append hbase hfew hline htrees (wpAny_Name (wpAny_loadName_local C.kind hlo.1 hn hv ⟨D, vs.toArray, rfl, ?_, wpAny_mono (he s σ) (fun u s1 q1 => ?_) no⟩) hlo.2)) hi hsw
  · obtain ⟨n, ho⟩ := hL
    exact ⟨_, n, ho, rfl, rfl, rfl⟩
  · obtain ⟨ru, k1⟩ := q1
    have σ1 := σ.le k1
    have hL1 : s1.heap.PlainList D vs.toArray := hL.at fun o e => k1.heap D o e
    have hvl := hr.length
    refine wpAny_list_append_plain hL1 (fun h' hL' hs => ?_) (by rw [List.size_toArray, hvl]; exact hl)
    have keep : ∀ b o, b ≠ D → s1.heap.get? b = some o → h'.get? b = some o := fun b o hb e => hs.extBut b o hb e
    have keepX : ∀ b o, b ∉ C.X → s1.heap.get? b = some o → h'.get? b = some o := fun b o hb e => keep b o (fun q => hb (q ▸ hDX)) e
    have hDl := own_ne_locals σ1 hL1
    obtain ⟨m1, hn1, hm1⟩ := σ1.ns
    refine ⟨_, h, ⟨fun b o e => keep b o (fun q => ?_) (σ1.base b o e), σ1.toks, fun a ha => ?_, hp.names ▸ σ1.nd, hp.names ▸ σ1.loc, m1, ?_, fun y d hy hu => ?_⟩, k1.x.trans ⟨⟨h', s1.toks, rfl, fun b o hb e => keep b o (fun q => hb (q ▸ hD)) e⟩, Nat.le_refl _⟩⟩
    · have := C.above D hDX
      subst q
      rw [this] at e
      cases e
    · by_cases q : a = D
      · subst q
        obtain ⟨n, ho⟩ := hL'
        exact ⟨_, ho⟩
      · exact (σ1.inX a ha).imp fun o e => keep a o q e
    · obtain ⟨o, es, ep, ho, r⟩ := hn1
      exact ⟨o, es, ep, keep _ o (fun q => hDl q.symm) ho, r⟩
    · rcases hp.old σ1.nd y d hy with ⟨rfl, rfl⟩ | ⟨hne, hmem⟩
      · obtain ⟨v2, hv2, h2⟩ := hm1 y _ hx.mem (by simp)
        obtain ⟨rfl, _⟩ := h2
        refine ⟨_, hv2, rfl, hDX, vs ++ [u], ?_, ?_⟩
        · rw [show (vs ++ [u]).toArray = vs.toArray.push u by simp]
          exact hL'
        · exact ((hr.le0 k1.1).append (.cons ru .nil)).mono keepX
      · obtain ⟨v2, hv2, h2⟩ := hm1 y d hmem hu
        refine ⟨v2, hv2, ?_⟩
        cases d with
        | undef => trivial
        | val p => exact Rp.mono keepX h2
        | own E l2 =>
          have := List.all_eq_true.mp hone _ hmem
          simp only [EV.isOwn, Bool.not_true, Bool.or_false] at this
          exact absurd (eq_of_beq this) hne

/-- x, y = [], e: the list is the activation's own -/
theorem Ex.own {x y : Str} {xp yp tp vp lp pos : Pos} {k kv : Nat} {e : Expr} {q : PV} {ρ' : Rho} {rest : List Stmt} {Q : Out → Prop} (hQ : ∀ o, Q o → ∃ p, o = .ret p)
    (he : ∀ D hD, Ev (C.with D hD) ρ e q) (hy : Put ρ y (.val q) ρ') (h : ∀ D hD, ∃ ρ'', Put ρ' x (.own D []) ρ'' ∧ Ex (C.with D hD) ρ'' rest Q)
    (hs : swapsWithSole [.Tuple [.Name x xp, .Name y yp] k tp] (.Tuple [.List [] lp, e] kv vp) pos.line C.env = pure false)
    (hw : swappedStores [.Tuple [.Name x xp, .Name y yp] k tp] (.Tuple [.List [] lp, e] kv vp) C.env = pure (some [x, y]))
    (hst : starEach [e] C.env = (false, eval e C.env) :: starEach [] C.env) : Ex C ρ (.Assign [.Tuple [.Name x xp, .Name y yp] k tp] (.Tuple [.List [] lp, e] kv vp) pos :: rest) Q := fun s σ => by
  have σ0 := σ.with { cls := .type "list", data := .seq #[] } s.toks (Nat.le_refl _) rfl
  obtain ⟨ρ'', hx, hr⟩ := h s.heap.objs.size σ.free
  have k0 : Le s { s with heap := s.heap.push { cls := .type "list", data := .seq #[] }, toks := s.toks } := ⟨.push _ _, Nat.le_refl _⟩
  have hD0 : ({ s with heap := s.heap.push { cls := .type "list", data := .seq #[] }, toks := s.toks } : Shared).heap.PlainList s.heap.objs.size #[] := ⟨_, Heap.get?_push_size _ rfl⟩
  refine wpAny_execs_cons (Assign_Tuple_swapped (names := [x, y]) (PySem.wpAny_Tuple (PyProof.Rows.args_cons (PySem.wpAny_List (PyProof.Rows.args_nil ⟨Nat.zero_le _, PyProof.Rows.args_cons (wpAny_mono (he _ σ.free _ σ0) (fun u s1 q1 => PyProof.Rows.args_nil ?_) no) hst⟩)) rfl)) hs hw)
  obtain ⟨ru, k1⟩ := q1
  have σ1 := σ0.le k1
  refine ⟨by show 2 ≤ sizeLine; rw [sizeLine_eq]; omega, ?_⟩
  have kT : Le s1 { s1 with heap := s1.heap.push { cls := .type "tuple", data := .seq #[.ref s.heap.objs.size, u] }, toks := s1.toks } := ⟨.push _ _, Nat.le_refl _⟩
  refine unpack_wp (C := C.with s.heap.objs.size σ.free) (items := #[.ref s.heap.objs.size, u]) (σ1.le kT) ⟨_, Heap.get?_push_size _ rfl, rfl, _, rfl⟩ fun s2 σ2 k2 => ?_
  show wpAny C.M C.A (assignInOrder [bindName C.env y, bindName C.env x] [u, .ref s.heap.objs.size]) _ _ s2
  have k3 := (k1.trans kT).trans k2
  refine wpAny_assignInOrder_more (wpAny_bindName (store_wpK (C := C.with s.heap.objs.size σ.free) σ2 hy (ru.le0 (kT.trans k2).1) fun s3 σ3 k4 kk => ?_))
  refine wpAny_assignInOrder_more (wpAny_bindName (store_wp (C := C.with s.heap.objs.size σ.free) σ3 hx ⟨rfl, .head _, [], ?_, .nil⟩ fun s4 σ4 k5 => ?_))
  · have hD2 := hD0.at fun o e => k3.heap _ o e
    exact hD2.at fun o e => kk _ o (own_ne_locals σ2 hD2) e
  · refine wpAny_assignInOrder_none (wpAny_mono (hr s4 σ4) (fun f s5 q5 => ?_) no)
    refine wind (hD := σ.free) hQ (get_size _) k0 ?_
    obtain ⟨o, ho, hi, k6⟩ := q5
    exact ⟨o, ho, hi, ((k3.x.trans k4).trans k5).trans k6⟩
end
end Mine
end
section
open PySem PySem.W PyProof.Rows PySem.Calls
set_option Elab.async false
set_option linter.unusedVariables false
namespace Mine
section
variable {C : Cx} {ρ : Rho}

theorem IsPart_of {o : Option (Int × Tok)} : IsPart (partValue o) (o.map (·.1)) := by
  cases o with
  | none => exact .none
  | some p => exact .int p.1 p.2
theorem sliceBounds_clip (lo hi : Option Int) (n : Nat) : sliceBounds lo hi none n = ((clipN n 0 lo : Int), (clipN n n hi : Int), 1) := by
  have e (i : Int) : max 0 (min (if i < 0 then i + (n : Int) else i) (n : Int)) = ((max 0 (min (if i < 0 then i + (n : Int) else i) (n : Int))).toNat : Int) := by omega
  unfold sliceBounds
  cases lo <;> cases hi <;> simp only [Option.getD_none, Int.zero_lt_one, gt_iff_lt, if_true, clipN] <;> simp only [Prod.mk.injEq, and_true] <;> (try constructor) <;> first | rfl | exact e _ 
theorem picked_L (vs : List Value) (lo hi : Option Int) : (slicePick vs.toArray lo hi none).toList = (vs.drop (clipN vs.length 0 lo)).take (clipN vs.length vs.length hi - clipN vs.length 0 lo) := by
  unfold slicePick
  rw [List.size_toArray, sliceBounds_clip, sliceRange_one]
  show (List.filterMap _ _) = _
  rw [pick_run]
theorem Rps.drop {X : List Addr} {h : Heap} : ∀ {vs ps} (n : Nat), Rps X h vs ps → Rps X h (vs.drop n) (ps.drop n)
  | _, _, 0, r => by simpa using r
  | _, _, n + 1, .nil => by simpa using Rps.nil
  | _, _, n + 1, .cons _ r => by simpa using r.drop n
theorem Rps.take {X : List Addr} {h : Heap} : ∀ {vs ps} (n : Nat), Rps X h vs ps → Rps X h (vs.take n) (ps.take n)
  | _, _, 0, r => by simpa using Rps.nil
  | _, _, n + 1, .nil => by simpa using Rps.nil
  | _, _, n + 1, .cons h1 r => by simpa using Rps.cons h1 (r.take n)
/-- a part of a list -/
theorem Ev.sliceL {o : Expr} {lo hi : Option Expr} {a b : Option Int} {p pos : Pos} {l : List PV} (ho : Ev C ρ o (.lst l)) (hlo : EvO C ρ lo a) (hhi : EvO C ρ hi b) (hl : l.length ≤ sizeLine) (ht : ∀ v r, letTemporaryGo o v r = pure ()) : Ev C ρ (.Subscript o (.Slice lo hi none p) pos) (.lst (slcL l a b)) := Ev.of fun s σ =>
  wpAny_Subscript_list_slice (wpAny_mono (ho s σ) (fun v s1 q1 => wpAny_mono (hlo.use (σ.le q1.2)) (fun vl s2 q2 => wpAny_mono (hhi.use (σ.le (q1.2.trans q2.2))) (fun vu s3 q3 => by
    obtain ⟨r, k1⟩ := q1
    obtain ⟨⟨o1, rfl, rfl⟩, k2⟩ := q2
    obtain ⟨⟨o2, rfl, rfl⟩, k3⟩ := q3
    have σ3 := σ.le ((k1.trans k2).trans k3)
    cases r with
    | lst A vs _ hx hL hr =>
      have hvl := hr.length
      refine ⟨A, vs.toArray, _, _, rfl, isList_at hL fun o e => (k2.trans k3).heap _ o e, by rw [List.size_toArray, hvl]; exact hl, IsPart_of, IsPart_of, ?_, ?_⟩
      · refine .lst _ ((vs.drop (clipN vs.length 0 (o1.map (·.1)))).take (clipN vs.length vs.length (o2.map (·.1)) - clipN vs.length 0 (o1.map (·.1)))) _ (fun hm => ?_) ⟨{ cls := .type "list", data := .seq ((vs.drop (clipN vs.length 0 (o1.map (·.1)))).take (clipN vs.length vs.length (o2.map (·.1)) - clipN vs.length 0 (o1.map (·.1)))).toArray }, ?_, rfl, 0, rfl⟩ ?_
        · exact Nat.lt_irrefl _ (Nat.lt_of_succ_lt (Heap.lt_size (σ3.inX _ hm).choose_spec))
        · have e1 := Heap.get?_push_size (s3.heap.push { cls := .type "slice", data := .fields #[partValue o1, partValue o2, .none] }) (o := { cls := .type "list", data := .seq (slicePick vs.toArray (o1.map (·.1)) (o2.map (·.1)) none) }) rfl
          rw [Heap.size_push] at e1
          rw [e1, ← picked_L vs]
        · unfold slcL
          rw [← hvl]
          have hr3 := (hr.le0 (k2.trans k3).1).mono (h' := (s3.heap.push { cls := .type "slice", data := .fields #[partValue o1, partValue o2, .none] }).push { cls := .type "list", data := .seq (slicePick vs.toArray (o1.map (·.1)) (o2.map (·.1)) none) }) fun b o _ e => Heap.get?_push_of_some _ (Heap.get?_push_of_some _ e)
          exact (hr3.drop _).take _
      · exact ((k1.trans k2).trans k3).1.trans (.of (fun b o e => Heap.get?_push_of_some _ (Heap.get?_push_of_some _ e)))) no) no) no) ht

/-- the activation with one place shut out -/
def Cx.hide (C : Cx) (D : Addr) (hD : C.hB.get? D = none) : Cx where
  prog := C.prog
  w := C.w
  hB := C.hB
  A := C.A
  env := C.env
  X := D :: C.X
  own := C.own
  n := C.n
  kind := C.kind
  glob := C.glob
  blt := C.blt
  here := C.here
  sub := fun a ha => .tail _ (C.sub a ha)
  above := fun a ha => by cases ha with | head => exact hD | tail _ h => exact C.above a h
  handled := C.handled
  depth := C.depth
  units := C.units
theorem St.hide {s : Shared} (σ : St C ρ s) (o : Obj) (k : Nat) (hk : s.toks ≤ k) (ho : o.isFreed = false) : St (C.hide s.heap.objs.size σ.free) ρ { s with heap := s.heap.push o, toks := k } :=
  let τ := σ.with o k hk ho
  ⟨τ.base, τ.toks, τ.inX, τ.nd, τ.loc, τ.ns⟩
theorem windH {s s1 : Shared} {D : Addr} {hD : C.hB.get? D = none} {Q : Out → Prop} {f : Flow} {s' : Shared} (hQ : ∀ o, Q o → ∃ p, o = .ret p) (hs : s.heap.get? D = none) (k : Le s s1)
    (h : ∃ o, Q o ∧ o.Is (C.hide D hD) s' f ∧ LeX (D :: C.own) s1 s') : ∃ o, Q o ∧ o.Is C s' f ∧ LeX C.own s s' :=
  wind (hD := hD) hQ hs k (let ⟨o, a, b, c⟩ := h; ⟨o, a, by cases o <;> cases f <;> first | exact b.elim | exact b | exact ⟨b.base, b.toks, b.inX, b.nd, b.loc, b.ns⟩, c⟩)

/-- how a turn of a for ends -/
def Out.step (J : Rho → Prop) : Out → Prop
  | .next ρ => J ρ
  | .cont ρ => J ρ
  | _ => False
/-- for x in a list -/
theorem Ex.for {x : Str} {xp pos : Pos} {iter : Expr} {body rest : List Stmt} {l : List PV} {Q : Out → Prop} (J : Nat → Rho → Prop) (hQ : ∀ o, Q o → ∃ p, o = .ret p) (hi : Ev C ρ iter (.lst l)) (h0 : J 0 ρ)
    (step : ∀ D hD i ρ1 p, J i ρ1 → l[i]? = some p → ∃ ρ2, Put ρ1 x (.val p) ρ2 ∧ Ex (C.hide D hD) ρ2 body (Out.step (J (i + 1))))
    (last : ∀ ρ1, J l.length ρ1 → Ex C ρ1 rest Q)
    (hs : ∀ x, foldedSetIterable iter C.env x = pure x) (ht : ∀ it v, letOwnedTupleGo (.Name x xp) it v = pure ()) : Ex C ρ (.For (.Name x xp) iter body [] pos :: rest) Q := fun s σ => by
  refine wpAny_execs_cons (wpAny_For (wpAny_mono (hi s σ) (fun v s1 q1 => ?_) no) hs)
  obtain ⟨r, k1⟩ := q1
  cases r with
  | lst A vs _ hAX hL hr =>
  refine wpAny_pyIter_list hL ?_
  have σ1 := σ.le k1
  let I := s1.heap.objs.size
  let C' := C.hide I σ1.free
  have σ2 : St C' ρ { s1 with heap := s1.heap.push { cls := .type "list_iterator", data := .fields #[.ref A, .int 0 0] } } := σ1.hide _ s1.toks (Nat.le_refl _) rfl
  have kI : Le s1 { s1 with heap := s1.heap.push { cls := .type "list_iterator", data := .fields #[.ref A, .int 0 0] } } := ⟨.push _ s1.toks, Nat.le_refl _⟩
  have hL2 := isList_at hL fun o e => kI.heap A o e
  have hr2 : Rps C'.X (s1.heap.push { cls := .type "list_iterator", data := .fields #[.ref A, .int 0 0] }) vs l := (hr.more (X' := I :: C.X) fun a ha => by
    cases ha with
    | head => exact .inr (get_size _)
    | tail _ q => exact .inl q).mono fun b o _ e => kI.heap b o e
  have hAX' : A ∉ C'.X := by
    intro hm
    rcases List.mem_cons.mp hm with q | q
    · obtain ⟨o, ho, _⟩ := hL
      exact absurd (Heap.lt_size ho) (by rw [q]; exact Nat.lt_irrefl _)
    · exact hAX q
  have hvl := hr.length
  refine codeAny_forLoop (fun n s3 => ∃ i ρ1, n = l.length - i ∧ i ≤ l.length ∧ J i ρ1 ∧ St C' ρ1 s3 ∧ s3.heap.IsListIter I A i ∧ LeX (I :: C.own) { s1 with heap := s1.heap.push { cls := .type "list_iterator", data := .fields #[.ref A, .int 0 0] } } s3) (fun n s3 hI => ?_) l.length
    ⟨0, ρ, by simp, Nat.zero_le _, h0, σ2, ⟨_, Heap.get?_push_size _ rfl, rfl, rfl⟩, (Le.rfl).x⟩ (ht _)
  obtain ⟨i, ρ1, rfl, hil, hJ, σ3, hit, k3⟩ := hI
  have keep3 : ∀ b o, b ∉ C'.X → (s1.heap.push { cls := .type "list_iterator", data := .fields #[.ref A, .int 0 0] }).get? b = some o → s3.heap.get? b = some o := fun b o hb e => k3.heap b o (fun q => hb (by cases q with | head => exact .head _ | tail _ q => exact .tail _ (C.sub _ q))) e
  have hL3 := isList_at hL2 fun o e => keep3 A o hAX' e
  have hr3 := hr2.mono keep3
  have hne : ∀ (h' : Heap), Heap.ExtBut I s3.heap h' → ∀ b o, s3.heap.get? b = some o → (∀ x, o.data ≠ .fields x) → h'.get? b = some o := fun h' hsb b o e hd => hsb b o (by
      rintro rfl
      obtain ⟨o', ho', _, hd'⟩ := hit
      rw [e] at ho'
      cases ho'
      exact hd _ hd') e
  have hIl : ∀ h', Heap.ExtBut I s3.heap h' → St C ρ1 { s3 with heap := h' } ∧ ((∃ o, h'.get? I = some o) → St C' ρ1 { s3 with heap := h' }) ∧ LeX (I :: C.own) s3 { s3 with heap := h' } := by
    intro h' hsb
    have keep : ∀ b o, b ≠ I → s3.heap.get? b = some o → h'.get? b = some o := fun b o hb e => hsb b o hb e
    have kX : ∀ b o, b ∉ C'.X → s3.heap.get? b = some o → h'.get? b = some o := fun b o hb e => keep b o (fun q => hb (q ▸ .head _)) e
    have hb' : Heap.le C.hB h' := fun b o e => keep b o (fun q => by
      have := σ1.free
      rw [q] at e
      rw [e] at this
      cases this) (σ3.base b o e)
    obtain ⟨m, ⟨o, es, ep, ho, hd, hr⟩, hm⟩ := σ3.ns
    have hns : h'.Ns C.env.locals m := ⟨o, es, ep, hne h' hsb _ _ ho (by rw [hd]; intro x q; cases q), hd, hr⟩
    have hw : ∀ x e, (x, e) ∈ ρ1 → e ≠ .undef → ∃ v, m x = some v ∧ e.At C'.X h' v := fun y d hy hu => by
      obtain ⟨v, hv, ha⟩ := hm y d hy hu
      refine ⟨v, hv, ?_⟩
      cases d with
      | undef => trivial
      | val p => exact Rp.mono kX ha
      | own E l2 =>
        obtain ⟨e1, hE, vs, ⟨n, hl⟩, hr⟩ := ha
        exact ⟨e1, hE, vs, ⟨n, hne h' hsb _ _ hl (by intro x q; cases q)⟩, hr.mono kX⟩
    have hin : ∀ a ∈ C.X, ∃ o, h'.get? a = some o := fun a ha => (σ3.inX a (.tail _ ha)).imp fun o e => keep a o (fun q => σ1.fresh (show I ∈ C.X by rw [← q]; exact ha)) e
    refine ⟨⟨hb', σ3.toks, hin, σ3.nd, σ3.loc, m, hns, fun y d hy hu => ?_⟩, fun hI => ⟨hb', σ3.toks, fun a ha => ?_, σ3.nd, σ3.loc, m, hns, hw⟩, ⟨h', _, rfl, fun b o hb e => keep b o (fun q => hb (q ▸ .head _)) e⟩, Nat.le_refl _⟩
    · obtain ⟨v, hv, ha⟩ := hm y d hy hu
      refine ⟨v, hv, ?_⟩
      cases d with
      | undef => trivial
      | val p => exact Rp.less (X := C'.X) (fun a ha => .tail _ ha) (Rp.mono kX ha)
      | own E l2 =>
        obtain ⟨e1, hE, vs, ⟨n, hl⟩, hr⟩ := ha
        refine ⟨e1, ?_, vs, ⟨n, hne h' hsb _ _ hl (by intro x q; cases q)⟩, Rps.less (X := C'.X) (fun a ha => .tail _ ha) (hr.mono kX)⟩
        rcases List.mem_cons.mp hE with q | q
        · obtain ⟨oi, hoi, hci, hdi⟩ := hit
          rw [← q, hl] at hoi
          cases hoi
          cases hdi
        · exact q
    · rcases List.mem_cons.mp ha with q | q
      · rw [q]; exact hI
      · exact hin a q
  rcases Nat.lt_or_ge i l.length with hlt | hge
  · obtain ⟨p, hp⟩ : ∃ p, l[i]? = some p := ⟨_, List.getElem?_eq_getElem hlt⟩
    obtain ⟨u, hu, ru⟩ := hr3.get i hp
    refine wpAny_pyNext_list_item hit hL3 (x := u) (by rw [List.getElem?_toArray]; exact hu) fun h' hit' hsb => ?_
    obtain ⟨_, σ4, k4⟩ := hIl h' hsb.extBut
    replace σ4 := σ4 (let ⟨o, ho, _⟩ := hit'; ⟨o, ho⟩)
    obtain ⟨ρ2, hput, hbody⟩ := step I σ1.free i ρ1 p hJ hp
    refine wpAny_assign_Name (store_wpK (C := C') σ4 hput (Rp.mono (fun b o hb e => k4.heap b o (fun q => hb (by cases q with | head => exact .head _ | tail _ q => exact .tail _ (C.sub _ q))) e) ru) fun s5 σ5 k5 kk => ?_)
    refine wpAny_mono (hbody s5 σ5) (fun f s6 q6 => ?_) no
    obtain ⟨o, ho, hi, k6⟩ := q6
    have own' : ∀ {a b : Shared}, LeX C'.own a b → LeX (I :: C.own) a b := fun x => ⟨let ⟨h', tk, e, k⟩ := x.1; ⟨h', tk, e, fun b o hb => k b o fun q => hb (.tail _ q)⟩, x.2⟩
    have hit6 : s6.heap.IsListIter I A (i + 1) := by
      obtain ⟨oi, hoi, r⟩ := hit'
      refine ⟨oi, k6.heap I oi (fun q => ?_) (kk I oi ?_ hoi), r⟩
      · exact σ1.fresh (C.sub _ q)
      · intro q
        have : I ∈ C.X := q ▸ C.sub _ C.here
        exact σ1.fresh this
    have kAll := ((k3.trans k4).trans (own' k5)).trans (own' k6)
    cases o <;> cases f <;> first | exact hi.elim | exact ho.elim | skip
    · exact ⟨l.length - (i + 1), by omega, i + 1, _, rfl, hlt, ho, hi, hit6, kAll⟩
    · exact ⟨l.length - (i + 1), by omega, i + 1, _, rfl, hlt, ho, hi, hit6, kAll⟩
  · have hi' : i = l.length := by omega
    subst hi'
    refine wpAny_pyNext_list_end C.handled hit hL3 (by rw [List.getElem?_toArray, List.getElem?_eq_none]; omega) fun h' hsb => ?_
    obtain ⟨σ4, _, k4⟩ := hIl h' hsb
    refine wpAny_execs_nil ?_
    show wpAny C.M C.A (execs rest C.env) _ _ _
    refine wpAny_mono (last ρ1 hJ _ σ4) (fun f s6 q6 => ?_) no
    obtain ⟨o, ho, hi, k6⟩ := q6
    refine ⟨o, ho, hi, ?_⟩
    have own' : ∀ {a b : Shared}, LeX C.own a b → LeX (I :: C.own) a b := fun x => ⟨let ⟨h', tk, e, k⟩ := x.1; ⟨h', tk, e, fun b o hb => k b o fun q => hb (.tail _ q)⟩, x.2⟩
    obtain ⟨⟨h2, t2, rfl, kk2⟩, kt2⟩ := (k3.trans k4).trans (own' k6)
    obtain ⟨⟨h1, t1, rfl, kk1⟩, kt1⟩ := k1
    refine ⟨⟨h2, t2, rfl, fun b o hb e => kk2 b o (fun q => ?_) (Heap.get?_push_of_some _ (kk1 b o e))⟩, Nat.le_trans kt1 kt2⟩
    cases q with
    | head => exact absurd (Heap.lt_size (kk1 _ _ e)) (Nat.lt_irrefl _)
    | tail _ q => exact hb q
end
end Mine
end
section
open PySem PySem.W PyProof.Rows PySem.Calls
set_option Elab.async false
set_option linter.unusedVariables false
set_option maxRecDepth 100000
namespace Mine
section
variable {C : Cx} {ρ : Rho}
theorem strs_of {X : List Addr} {h : Heap} : ∀ {vs : List Value} {ts : List (List Nat)}, Rps X h vs (ts.map PV.str) → ∃ l, vs = strValues l ∧ l.map (·.1) = ts.map S
  | _, [], .nil => ⟨[], rfl, rfl⟩
  | _, t :: ts, .cons h1 h2 => by
    obtain ⟨l, rfl, e⟩ := strs_of h2
    cases h1 with
    | str _ tk => exact ⟨(S t, tk) :: l, rfl, by simp [e]⟩
theorem glued_S : ∀ ts : List (List Nat), Txt.join (S []) (ts.map S) = S ts.flatten := by
  have h : ∀ (ts : List (List Nat)) (acc : Array Nat), (ts.map S).foldl (fun acc p => acc ++ (S []).cps ++ p.cps) acc = acc ++ ts.flatten.toArray := by
    intro ts
    induction ts with
    | nil => intro acc; simp
    | cons t ts ih =>
      intro acc
      rw [List.map_cons, List.foldl_cons, ih]
      simp [S]
  intro ts
  cases ts with
  | nil => rfl
  | cons t ts =>
    show Str.mk ((ts.map S).foldl (fun acc p => acc ++ (S []).cps ++ p.cps) (S t).cps) = _
    rw [h]
    simp [S]
theorem Ev.idxN {v i : Expr} {pos : Pos} {t : List Nat} {k : Nat} (hv : Ev C ρ v (.str t)) (hi : Ev C ρ i (.int k)) (hk : k < t.length) (hl : t.length < 1000000)
    (hs : ∀ o j, subscripted i false o j = operate [o, j] (getItem o j)) : Ev C ρ (.Subscript v i pos) (.str [t.getD k 0]) :=
  Ev.idx hv hi (by omega) (by rw [Int.toNat_natCast, List.getD_eq_getElem?_getD, List.getElem?_eq_getElem hk]; rfl) hl hs
/-- ''.join(result) -/
theorem Ev.joinOwn {x : Str} {xp kp apos pos : Pos} {k : Nat} {D : Addr} {ts : List (List Nat)} (hx : At ρ x (.own D (ts.map .str))) (hl : ts.length ≤ 1000000) (hB : ∀ t ∈ ts, t.length ≤ 1)
    (hb : attributeBase (.Constant (.str (S [])) k kp) "join" C.env (eval (.Constant (.str (S [])) k kp) C.env) = eval (.Constant (.str (S [])) k kp) C.env) (hp : (apos.endLine == pos.line) = true) : Ev C ρ (.Call (.Attribute (.Constant (.str (S [])) k kp) "join" apos) [.Name x xp] [] pos) (.str ts.flatten) :=
  Ev.meth (po := .str []) (Ev.cstr rfl) PySem.F.plainAttrs_str PySem.F.slot_str_join PySem.F.type_str_join (fun s v σ r => str_type r) (fun s v σ r => by
    cases r
    obtain ⟨m, hn, hm⟩ := σ.ns
    obtain ⟨v, hv, hat⟩ := hm x _ hx.mem (by simp)
    have hlo := σ.loc x (List.mem_map.mpr ⟨_, hx.mem, rfl⟩)
    obtain ⟨rfl, hDX, vs, hL, hr⟩ := hat
    obtain ⟨l, rfl, el⟩ := strs_of hr
    refine callWith_method1 (PyProof.Rows.args_cons (wpAny_Name (wpAny_loadName_local C.kind hlo.1 hn hv (PyProof.Rows.args_nil ?_)) hlo.2) rfl) rfl rfl
    refine SC.join hL.isList el ?_ (fun t' tk => ⟨?_, .toks _⟩)
    · unfold JoinOk
      rw [StrLaws.joinFits (B := 1)]
      · rfl
      · intro y hy
        obtain ⟨t, ht, rfl⟩ := List.mem_map.mp hy
        rw [S_length]
        exact hB t ht
      · rw [List.length_map, S_length]
        simp only [List.length_nil]
        omega
    · rw [glued_S]; exact .str _ _) hb rfl hp
end
end Mine
end
section
open PySem PySem.W PyProof.Rows PySem.Calls
set_option Elab.async false
set_option linter.unusedVariables false
set_option maxRecDepth 100000
namespace Mine
/-- what the classes' rules look at -/
noncomputable def KG (P : Params) : Frag := [(2, o53 P), (57, o64 P), (58, o71 P), (70, o80 P), (71, o81 P), (86, o98 P), (87, o99 P), (107, o119 P), (108, o120 P), (109, o121 P), (115, o127 P), (116, o128 P), (117, o129 P), (126, o138 P), (127, o146 P), (128, o140 P), (144, o159 P), (145, o160 P), (154, o169 P), (155, o170 P), (156, o171 P)]
theorem KG_here (P : Params) : (KG P).In (hF P) := Frag.in_of (as := [2, 57, 58, 70, 71, 86, 87, 107, 108, 109, 115, 116, 117, 126, 127, 128, 144, 145, 154, 155, 156]) (by kernel_rfl) (by kernel_rfl)
theorem KG_in {P : Params} {h : Heap} (k : Heap.le (hF P) h) : (KG P).In h := (KG_here P).keeps k

end Mine
end
section
open PySem PySem.W PyProof.Rows PySem.Calls
set_option Elab.async false
set_option linter.unusedVariables false
set_option maxRecDepth 100000
namespace Mine
/-- a def of a class: at this place, with this body -/
def MDef (hB : Heap) (a : Addr) (name qual : Str) (params : Arguments) (body : List Stmt) (scope : Scope) : Prop :=
  ∃ o pm cd doc, hB.get? a = some o ∧ o.data = .func { docDef name params body scope pm cd doc with qualname := qual } ∧ hB.CodeRec cd qual
theorem call_m {prog : Program} {w : World} {A : Around} {R : Result → Shared → Prop} {s : Shared} {name qual : Str} {params : Arguments} {body : List Stmt} {scope : Scope}
    {pm cd doc : Value} {a : Addr} {o : Obj} {args : List Value}
    (hroom : A.depth < recursionLimit) (ho : s.heap.get? a = some o) (hdata : o.data = .func { docDef name params body scope pm cd doc with qualname := qual }) (hlim : s.heap.NoLimit) (hcd : s.heap.CodeRec cd qual)
    (hbind : bindArgs { docDef name params body scope pm cd doc with qualname := qual } ⟨args, []⟩ = pure ((params.args.map (·.arg)).zip args))
    (hloc : ∀ x ∈ (params.args.map (·.arg)).zip args, scope.names.lookup x.1 = some .local)
    (h : ∀ h₁, Fr s.heap s.heap.objs.size h₁ (fun x => ((params.args.map (·.arg)).zip args).reverse.lookup x) →
      wpAny (model prog w) (A.deeper (envOf qual scope s.heap.objs.size a cd)) (execs body (envOf qual scope s.heap.objs.size a cd))
        (fun f s' => R (.ok (.ret (match f with | .ret v => v | _ => .none))) s') (fun _ _ => False)
        { s with heap := h₁, toks := s.toks + ((params.args.map (·.arg)).zip args).length })
    (hco : scope.isCoroutine = false) (hgen : scope.isGenerator = false) (hk : scope.kind = .function)
    (hcell : ∀ x ∈ scope.names, x.2 ≠ .cell) :
    codeAny (model prog w) A (.call (.ref a) ⟨args, []⟩) R s := by
  refine codeAny_call_function hroom ho hdata hco hgen rfl hcd ?_
  rw [hbind]
  refine wpAny_pure (wpAny_newFunctionEnv hcell hloc (fun h₁ hns hsb => ⟨hlim.fresh _ hsb, ?_⟩) hk)
  show codeAny _ _ (.func body (envOf qual scope s.heap.objs.size a cd)) _ _
  exact codeAny_func (wpAny_mono (h h₁ ⟨hns, fun b o e => hsb.extBut b o (Nat.ne_of_lt (Heap.lt_size e)) (Heap.get?_push_of_some _ e), Nat.le_refl _⟩) (fun _ _ x => x) (fun _ _ x => x.elim))

/-- a call of the thing at a, as the code that runs -/
def FnC (prog : Program) (w : World) (hB : Heap) (a : Addr) (n : Nat) (ps : List PV) (p : PV) : Prop :=
  ∀ (X : List Addr) (A : Around) (s : Shared) (vs : List Value), A.handled = none → A.depth + n < recursionLimit → A.units + 100 * n + 100 < cLine →
    (∀ b ∈ X, hB.get? b = none) → (∀ b ∈ X, ∃ o, s.heap.get? b = some o) → Heap.le hB s.heap → 1 ≤ s.toks → Rps X s.heap vs ps →
    codeAny (model prog w) A (.call (.ref a) ⟨vs, []⟩) (fun r s' => match r with | .ok (.ret v) => Rp X s'.heap v p ∧ Le0 s s' | _ => False) s
theorem FnC.fn {prog : Program} {w : World} {hB : Heap} {a : Addr} {n : Nat} {ps : List PV} {p : PV} (h : FnC prog w hB a n ps p) : Fn prog w hB a n ps p := fun X A s vs h1 h2 h3 h4 h5 h6 h7 h8 =>
  wpAny_call (codeAny_mono (h X A s vs h1 h2 h3 h4 h5 h6 h7 h8) fun r s' z => by rcases r with _ | (_ | _ | _ | _) <;> first | exact z | exact z.elim)
theorem FnC.ofM {prog : Program} {w : World} {hB : Heap} {a : Addr} {n : Nat} {name qual : Str} {params : Arguments} {body : List Stmt} {scope : Scope} {ps : List PV} {p : PV} (D : MDef hB a name qual params body scope) (us : List Str) (hl : hB.NoLimit)
    (h : ∀ C : Cx, C.prog = prog → C.w = w → C.hB = hB → C.env.scope = scope → C.n = n → Ex C (Rho0 (params.args.map (·.arg)) ps us) body (fun o => o = .ret p))
    (hlen : (params.args.map (·.arg)).length = ps.length) (hnd : ((params.args.map (·.arg)) ++ us).Nodup)
    (hloc : ∀ x ∈ (params.args.map (·.arg)) ++ us, scope.names.lookup x = some .local ∧ (x == ("__debug__" : Str)) = false)
    (hbind : ∀ pm cd doc (vs : List Value), vs.length = (params.args.map (·.arg)).length → bindArgs { docDef name params body scope pm cd doc with qualname := qual } ⟨vs, []⟩ = pure ((params.args.map (·.arg)).zip vs))
    (hco : scope.isCoroutine = false) (hgen : scope.isGenerator = false) (hk : scope.kind = .function)
    (hcell : ∀ x ∈ scope.names, x.2 ≠ .cell) : FnC prog w hB a (n + 1) ps p := by
  intro X A s vs hh hd hu hX hin hb ht hr
  obtain ⟨o, pm, cd, doc, ho, hdat, hcd⟩ := D
  have hvl : vs.length = (params.args.map (·.arg)).length := by rw [hr.length, hlen]
  refine call_m (by omega) (hb _ _ ho) hdat (hl.keeps hb) (hcd.keeps hb) (hbind pm cd doc vs hvl) (fun x hx => (hloc x.1 (List.mem_append_left _ (List.of_mem_zip hx).1)).1) (fun h₁ F => ?_) hco hgen hk hcell
  have hL : hB.get? s.heap.objs.size = none := by
    cases e : hB.get? s.heap.objs.size with
    | none => rfl
    | some o => exact absurd (Heap.lt_size (hb _ _ e)) (Nat.lt_irrefl _)
  refine wpAny_mono ((h (inner prog w hB A qual scope s.heap.objs.size a cd X n hk hL hX hh hd hu) rfl rfl rfl rfl rfl) _ (St.start rfl hb (show 1 ≤ s.toks + _ from Nat.le_trans ht (Nat.le_add_right _ _)) hin hr hlen hnd hloc F rfl)) (fun f s' q => ?_) fun _ _ x => x.elim
  obtain ⟨o, rfl, hi, k⟩ := q
  cases f with
  | ret v =>
    have hi : Rp (s.heap.objs.size :: X) s'.heap v p := hi
    refine ⟨hi.less fun b hb => .tail _ hb, ?_⟩
    obtain ⟨⟨h', tk, rfl, kk⟩, _⟩ := k
    refine ⟨h', tk, rfl, fun b o e => kk b o (fun q => ?_) (F.keep b o e)⟩
    have : b = s.heap.objs.size := by cases q with | head => rfl | tail _ h => cases h
    subst this
    exact absurd (Heap.lt_size e) (Nat.lt_irrefl _)
  | next => exact hi.elim
  | brk => exact hi.elim
  | cont => exact hi.elim
end Mine
end
section
open PySem PySem.W PyProof.Rows PySem.Calls
set_option Elab.async false
set_option linter.unusedVariables false
set_option maxRecDepth 100000
namespace Mine
/-- the classes of the tokens -/
def IsTok (c : Addr) : Prop := c = 127 ∨ c = 155
section
variable {prog : Program} {w : World} {A : Around} {E : Value → Shared → Prop} {s : Shared} {P : Params} {a c d : Addr}
theorem tok_getitem (hc : IsTok c) : findIn (KG P) (.ref c) "__getitem__" = some (some (.builtin "tuple.__getitem__")) := by rcases hc with rfl | rfl <;> kernel_rfl
theorem tok_noSeq (hc : IsTok c) : noSeq (KG P) c = true := by rcases hc with rfl | rfl <;> kernel_rfl
theorem tok_isTuple (hc : IsTok c) : mroIn (KG P) c (.type "tuple") = some true := by rcases hc with rfl | rfl <;> kernel_rfl
theorem tok_isObject (hc : IsTok c) : mroIn (KG P) c (.type "object") = some true := by rcases hc with rfl | rfl <;> kernel_rfl
theorem tok_ga (hc : IsTok c) : findIn (KG P) (.ref c) "__getattribute__" = some (some (.builtin "tuple.__getattribute__")) := by rcases hc with rfl | rfl <;> kernel_rfl
theorem tok_noga (hc : IsTok c) : findIn (KG P) (.ref c) "__getattr__" = some none := by rcases hc with rfl | rfl <;> kernel_rfl
theorem getItem_tok {ob : Obj} {od : Option Obj} {items : Array Value} {n : Nat} {k : Int} {u : Tok} {j : Nat} {x : Value} {Q : Value → Shared → Prop} (X : (KG P).In s.heap) (hc : IsTok c) (I : InstAt s.heap a ob c od)
    (hd : ob.data = .seq items n) (hlo : -(2 ^ 63) ≤ k) (hhi : k < 2 ^ 63) (hj : seqIndex? k items.size = some j) (hx : items[j]? = some x) (h : Q x s) : wpAny (model prog w) A (getItem (.ref a) (.int k u)) Q E s := by
  unfold getItem sequenceKey
  refine wpAny_holding (wpAny_bind (wpAny_bind (I.type.here ?_)))
  refine wpAny_bind ((anyM_none X (tok_noSeq hc)).here ?_)
  rw [if_pos (show (!false) = true from rfl)]
  refine wpAny_pure (wpAny_bind ?_)
  unfold callSpecial? specialOf
  refine wpAny_bind (wpAny_bind (I.type.here ((looks_findIn X (tok_getitem hc)).here ?_)))
  refine wpAny_holding (wpAny_bind ?_)
  rw [slot_tuple_getitem.bind]
  refine wpAny_pure (wpAny_bind (wpAny_call (codeAny_call_builtin slot_tuple_getitem.plain entry_tuple_getitem (@check_slot (model prog w) _ _ s "tuple.__getitem__" "tuple" "__getitem__" (.ref a) [.int k u] [] _ (by decide +kernel) (by decide +kernel) (I.type.andThen (looks_mroIn X (tok_isTuple hc))) (args_tuple_getitem _ _) ?_))))
  show wpAny _ _ (Builtin.Tuple.tupleItemsOf (.ref a) >>= _) _ _ s
  refine wpAny_bind ?_
  unfold Builtin.Tuple.tupleItemsOf
  refine wpAny_bind (wpAny_seqItems I.at_ hd (wpAny_pure ?_))
  refine wpAny_bind (wpAny_typeOf (typeIs_int s k u) ?_)
  rw [if_neg (by decide)]
  refine wpAny_bind (wpAny_specialOf (T := "int") (typeIs_int s k u) int_index ?_)
  rw [if_neg (by simp)]
  refine wpAny_bind (wpAny_of_eq (a := k) rfl ?_)
  rw [if_neg (by simp only [Bool.or_eq_true, decide_eq_true_eq]; omega)]
  simp only [hj, Option.bind_some, hx]
  exact wpAny_pure (show wpAny _ _ (pure (some x)) _ _ _ from wpAny_pure (wpAny_pure h))
theorem tok_open {ob : Obj} {od : Option Obj} {name : Str} {expr : Bool} {Q : Value → Shared → Prop} (X : (KG P).In s.heap) (hc : IsTok c) (I : InstAt s.heap a ob c od)
    (h : wpAny (model prog w) A.in1 (Builtin.«object.__getattribute__» ⟨[.ref a, .str name s.toks], []⟩) (fun fin s' => match fin with | PySem.Fin.done (.ret v) => wpAny (model prog w) A (handedOut v) Q E s' | _ => False) (fun _ _ => False) { s with toks := s.toks + 1 }) :
    wpAny (model prog w) A (getAttr (.ref a) name expr) Q E s := by
  refine wpAny_bind (wpAny_mkText (wpAny_holding (wpAny_bind (I.type _ _ _ _ (fun _ _ e => e) (wpAny_bind (looks_findIn X (tok_ga hc) _ _ _ _ (fun _ _ e => e) ?_))))))
  dsimp only
  rw [if_neg (by rw [show (Value.builtin "tuple.__getattribute__" == Value.builtin "object.__getattribute__") = false from by decide +kernel, Bool.and_false]; decide)]
  refine wpAny_bind ((looks_hook X (r := none) (mc := .ref c) (by rw [if_pos (show onTheHeap (.ref c) = true from rfl)]; exact tok_noga hc)) _ _ _ _ (fun _ _ e => e) (wpAny_bind (wpAny_attempt (wpAny_holding ?_))))
  unfold callGetattribute
  rw [show (expr && onTheHeap (Value.builtin "tuple.__getattribute__")) = false from Bool.and_false _, if_neg (by decide)]
  unfold boundAndCalled
  rw [F.slot_tuple_getattribute.bind]
  refine wpAny_bind (wpAny_pure ?_)
  show wpAny _ _ (call (.builtin "tuple.__getattribute__") [.ref a, .str name s.toks]) _ _ _
  refine wpAny_call ?_
  refine codeAny_call_builtin F.slot_tuple_getattribute.plain am_entry_tuple_getattribute ?_
  refine @check_slot (model prog w) _ _ { s with toks := s.toks + 1 } "tuple.__getattribute__" "tuple" "__getattribute__" (.ref a) [.str name s.toks] [] _ (by decide +kernel) (by decide +kernel) (I.type.andThen (looks_mroIn X (tok_isTuple hc))) (F.args_tuple_getattribute_2 _ _) ?_
  refine wpAny_mono h (fun fin s' z => ?_) fun _ _ z => z.elim
  rcases fin with (_ | _ | _ | _) | _ <;> first | exact z | exact z.elim
theorem tok_value {ob : Obj} {od : Option Obj} {name : Str} {expr : Bool} {v : Value} {Q : Value → Shared → Prop} (X : (KG P).In s.heap) (hc : IsTok c) (I : InstAt s.heap a ob c od) (hf : findObj (KG P) c od name = some (.value v)) (hh : handedIn v = true)
    (h : Q v { s with toks := s.toks + 1 }) : wpAny (model prog w) A (getAttr (.ref a) name expr) Q E s := by
  refine tok_open X hc I ?_
  obtain ⟨hh', g, d, t, os⟩ := s
  refine wpAny_bind (wpAny_pure (wpAny_bind (wpAny_pure (wpAny_bind ((I.type (M := model prog w)).at (wpAny_bind ((looks_find (M := model prog w) X I hf).at ?_)))))))
  refine wpAny_pure ?_
  show wpAny _ _ (handedOut v) _ _ _
  rw [handedOut_of hh]; exact wpAny_pure h
theorem tok_bind {ob : Obj} {od : Option Obj} {name : Str} {expr : Bool} {g b : Value} {Q : Value → Shared → Prop} (X : (KG P).In s.heap) (hc : IsTok c) (I : InstAt s.heap a ob c od) (hf : findObj (KG P) c od name = some (.bind g b))
    (h : wpAny (model prog w) A.in1 (call g [b, .ref a, .ref c]) (fun v s' => wpAny (model prog w) A (handedOut v) Q E s') (fun _ _ => False) { s with toks := s.toks + 1 }) : wpAny (model prog w) A (getAttr (.ref a) name expr) Q E s := by
  refine tok_open X hc I ?_
  obtain ⟨hh', gg, d, t, os⟩ := s
  refine wpAny_bind (wpAny_pure (wpAny_bind (wpAny_pure (wpAny_bind ((I.type (M := model prog w)).at (wpAny_bind ((looks_find (M := model prog w) X I hf).at ?_)))))))
  show wpAny _ _ (holding [b] (call g [b, .ref a, .ref c]) >>= ret) _ _ _
  exact wpAny_bind (wpAny_holding (wpAny_mono h (fun v s' z => wpAny_pure z) fun _ _ z => z))
end
end Mine
end
section
open PySem PySem.W PyProof.Rows PySem.Calls
set_option Elab.async false
set_option linter.unusedVariables false
set_option maxRecDepth 100000
namespace Mine

/-- the i-th def of the text -/
def nth (i : Nat) : DefRec := ((PySem.Challenge.pw_vu0001_01.main.body.filterMap DefRec.ofStmt?)[i]?).getD ⟨"", ⟨[], [], none, [], [], none, []⟩, [], { kind := .module, names := [], isGenerator := false, isCoroutine := false }, ⟨0, 0, 0, 0⟩⟩

/-- the built-ins that the text calls -/
def used : List (Str × Value) := [("len", .builtin "len"), ("ord", .builtin "ord"), ("chr", .builtin "chr"), ("min", .builtin "min"), ("int", .type "int")]
def sixteen : List Nat := [48, 49, 50, 51, 52, 53, 54, 55, 56, 57, 97, 98, 99, 100, 101, 102, 65, 66, 67, 68, 69, 70]
def signs : List Nat := [97, 92, 49, 32, 39, 45, 35, 46, 47, 42, 10, 48, 102, 100, 103, 43, 34, 13, 233, 95, 0, 12, 52, 9, 65, 44, 128512, 92, 39, 42, 47, 127, 122, 57, 56, 55, 101, 128]
/-- what stands below all activations -/
structure Base (prog : Program) (w : World) (hB : Heap) : Prop where
  lim : hB.NoLimit
  fn : ∀ i, i < 13 → ∃ a, GlobIs hB (nth i).name (.ref a) ∧ Def hB a (nth i).name (nth i).params (nth i).body (nth i).scope
  bi : ∀ x ∈ used, GlobIs hB x.1 x.2
  pats : ∀ r ∈ PySem.Flt.patsOf PySem.Challenge.pw_vu0001_01, ∃ a, GlobIs hB r.name (.ref a) ∧ PySem.Flt.IsPattern hB a r
  six : ∃ t, GlobIs hB "_law_sixteen" (.str (S sixteen) t)
  signs : ∃ v, GlobIs hB "_law_signs" v ∧ Rp [] hB v (.tup (signs.map fun c => .str [c]))

theorem kindG {C : Cx} {sc : Scope} {x : Str} (hs : C.env.scope = sc) (h : sc.names.lookup x = some .globalImplicit) : C.env.kindOf x = some .globalImplicit := by show C.env.scope.names.lookup x = _; rw [hs]; exact h
theorem swap_of {env : Env} {sc : Scope} {ts : List Expr} {v : Expr} (h : env.scope = sc) : swappedStores ts v env = swappedStores ts v { scope := sc, locals := 0, globals := 0, cells := [] } := by subst h; rfl
theorem len1 {vs : List Value} (h : vs.length = 1) : ∃ a, vs = [a] := List.length_eq_one_iff.mp h
theorem len2 {vs : List Value} (h : vs.length = 2) : ∃ a b, vs = [a, b] := by match vs, h with | [a, b], _ => exact ⟨a, b, rfl⟩
theorem Can.of {prog : Program} {w : World} {hB : Heap} {n : Nat} {ps : List PV} {p : PV} (B : Base prog w hB) (i : Nat) (us : List Str) 
    (h : ∀ C : Cx, Base C.prog C.w C.hB → C.prog = prog → C.w = w → C.hB = hB → C.env.scope = (nth i).scope → C.n = n → Ex C (Rho0 ((nth i).params.args.map (·.arg)) ps us) (nth i).body (fun o => o = .ret p))
    (hi : i < 13 := by decide) (hlen : ((nth i).params.args.map (·.arg)).length = ps.length := by rfl) (hnd : (((nth i).params.args.map (·.arg)) ++ us).Nodup := by decide +kernel)
    (hloc : ∀ x ∈ ((nth i).params.args.map (·.arg)) ++ us, (nth i).scope.names.lookup x = some .local ∧ (x == ("__debug__" : Str)) = false := by decide +kernel)
    (hbind : ∀ pm cd doc (vs : List Value), vs.length = ((nth i).params.args.map (·.arg)).length → bindArgs (docDef (nth i).name (nth i).params (nth i).body (nth i).scope pm cd doc) ⟨vs, []⟩ = pure (((nth i).params.args.map (·.arg)).zip vs) := by first | (intro pm cd doc vs h; obtain ⟨a, rfl⟩ := len1 h; rfl) | (intro pm cd doc vs h; obtain ⟨a, b, rfl⟩ := len2 h; rfl))
    (hco : (nth i).scope.isCoroutine = false := by rfl) (hgen : (nth i).scope.isGenerator = false := by rfl) (hk : (nth i).scope.kind = .function := by rfl)
    (hcell : ∀ x ∈ (nth i).scope.names, x.2 ≠ .cell := by decide +kernel) : Can prog w hB (nth i).name (n + 1) ps p := by
  obtain ⟨a, g, D⟩ := B.fn i hi
  obtain ⟨o, pm, cd, doc, ho, hd, hc⟩ := id D
  exact ⟨a, o, _, g, ho, hd, Fn.of D us B.lim (fun C h1 h2 h3 h4 h5 => h C (by rw [h1, h2, h3]; exact B) h1 h2 h3 h4 h5) hlen hnd hloc hbind hco hgen hk hcell⟩

def isFig (c : Nat) : Bool := 48 ≤ c && c ≤ 57
def figs (t : List Nat) (i : Nat) : Nat := i + ((t.drop i).takeWhile isFig).length

theorem figs_ge (t : List Nat) (i : Nat) : i ≤ figs t i := Nat.le_add_right _ _
theorem figs_step {t : List Nat} {i : Nat} (h : i < t.length) (hc : isFig t[i] = true) : figs t (i + 1) = figs t i := by
  unfold figs
  rw [List.drop_eq_getElem_cons h, List.takeWhile_cons, hc]
  simp only [if_true, List.length_cons]
  omega
theorem figs_stop {t : List Nat} {i : Nat} (h : i < t.length) (hc : isFig t[i] = false) : figs t i = i := by
  unfold figs
  rw [List.drop_eq_getElem_cons h, List.takeWhile_cons, hc]
  simp
theorem figs_end {t : List Nat} {i : Nat} (h : t.length ≤ i) : figs t i = i := by
  unfold figs
  rw [List.drop_of_length_le h]
  rfl
theorem mem_figs (c : Nat) : decide (c ∈ [48, 49, 50, 51, 52, 53, 54, 55, 56, 57]) = isFig c := by
  unfold isFig
  rw [← Bool.decide_and]
  apply decide_eq_decide.mpr
  simp only [List.mem_cons, List.not_mem_nil, or_false]
  omega

theorem figures {prog : Program} {w : World} {hB : Heap} (B : Base prog w hB) (t : List Nat) (i : Nat) (ht : t.length < 1000) : Can prog w hB "_law_figures" 1 [.str t, .int i] (.int (figs t i)) :=
  Can.of B 10 [] (fun C B h1 h2 h3 hs hn => by
    have kl : C.env.kindOf "len" = some .globalImplicit := by show C.env.scope.names.lookup _ = _; rw [hs]; decide +kernel
    conv => arg 3; whnf
    refine Ex.cons (Ex1.while (fun n ρ => ∃ j : Nat, n = t.length - j ∧ figs t j = figs t i ∧ ρ = ([("text", EV.val (.str t)), ("i", EV.val (.int j))] : Rho)) (t.length - i) ⟨i, rfl, rfl, rfl⟩ ?_)
    rintro n ρ1 ⟨j, rfl, e, rfl⟩
    refine ⟨_, Te.and (Tes.and_cons (Te.lt (Ev.name (.there .here)) (Ev.len (Ev.glob (B.bi ("len", _) (by decide +kernel)) kl rfl) (Ev.name .here) (by omega) rfl) rfl) fun h => Tes.and_cons (c := true)
      (Te.in_str (Ev.idxN (Ev.name .here) (Ev.name (.there .here)) (by have := of_decide_eq_true h; omega) (by omega) (fun _ _ => rfl)) (Ev.cstr rfl) rfl) fun _ => Tes.and_nil), ?_, ?_⟩
    · intro h
      simp only [Bool.and_true, Bool.and_eq_true, decide_eq_true_eq] at h
      have h1 : j < t.length := by omega
      have h2 : isFig t[j] = true := by
        rw [← mem_figs]
        have := h.2
        rw [List.getD_eq_getElem?_getD, List.getElem?_eq_getElem h1] at this
        exact decide_eq_true this
      exact Ex.cons (Ex1.augInt (.there .here) Ev.cint (.there .here) (Ex.nil ⟨t.length - (j + 1), by omega, j + 1, rfl, (figs_step h1 h2).trans e, rfl⟩))
    · intro h
      refine Ex.cons (Ex1.ret (Ev.name (.there .here)) ?_)
      show Out.ret _ = _
      congr 3
      rw [← e]
      by_cases h1 : j < t.length
      · have h2 : isFig t[j] = false := by
          rw [← mem_figs]
          simp only [Bool.and_true, Bool.and_eq_false_imp, decide_eq_true_eq] at h
          have := h (by omega)
          rw [List.getD_eq_getElem?_getD, List.getElem?_eq_getElem h1] at this
          exact this
        rw [figs_stop h1 h2]
      · rw [figs_end (by omega)])
end Mine
end
section
open PySem PySem.W PyProof.Rows PySem.Calls
set_option Elab.async false
set_option linter.unusedVariables false
set_option maxRecDepth 100000
namespace Mine
/-- the program's parts, from the given form -/
def fdP (i : Nat) : Stmt := (PySem.Challenge.pw_vu0001_01.main.body[i]?).getD (.Pass ⟨0, 0, 0, 0⟩)
def mtP (i j : Nat) : Stmt := ((cBody (fdP i))[j]?).getD (.Pass ⟨0, 0, 0, 0⟩)
theorem fd_eq (i : Nat) : fd i = fdP i := by unfold fd fdP; rw [← pq_eq]
theorem mt_eq (i j : Nat) : mt i j = mtP i j := by unfold mt mtP; rw [fd_eq]
section
variable {C : Cx} {ρ : Rho}
theorem Rp.tok_inst {X : List Addr} {h : Heap} {v : Value} {c : Nat} {ty : List Nat} {pv : PV} {pos : Int} (r : Rp X h v (.tok c ty pv pos)) : ∃ a d hs tk tt x n nn pt, v = .ref a ∧ IsTok c ∧
    InstAt h a { cls := .ref c, dict := some d, data := .seq #[.str (S ty) tt, x] n } c (some { cls := .type "dict", data := .dict #[⟨hs, .str "pos" tk, .int pos pt⟩] nn }) ∧ Rp X h x pv := by
  cases r with
  | tok a d c hs tk ty tt x pv pos n nn pt hc ha hd h1 h2 h4 => exact ⟨a, d, hs, tk, tt, x, n, nn, pt, rfl, hc, ⟨h1, rfl, rfl, h2⟩, h4⟩
/-- an item of a token -/
theorem Ev.idxTok {v i : Expr} {pos : Pos} {c : Nat} {ty : List Nat} {pv : PV} {p : Int} {k : Nat} {q : PV} (hF' : Heap.le (hF C.w.params) C.hB) (hv : Ev C ρ v (.tok c ty pv p)) (hi : Ev C ρ i (.int k)) (hk : (k = 0 ∧ q = .str ty) ∨ (k = 1 ∧ q = pv))
    (hs : ∀ o j, subscripted i false o j = operate [o, j] (getItem o j)) (ht : ∀ o r, letTemporaryGo v o r = pure ()) : Ev C ρ (.Subscript v i pos) q := Ev.of fun s σ =>
  Subscript_ (wpAny_mono (hv s σ) (fun o s1 q1 => wpAny_mono (hi s1 (σ.le q1.2)) (fun j s2 q2 => by
    obtain ⟨r1, k1⟩ := q1
    obtain ⟨r2, k2⟩ := q2
    have σ2 := σ.le (k1.trans k2)
    have X := KG_in (hF'.trans σ2.base)
    obtain ⟨a, d, hs', tk, tt, x, n, nn, pt, rfl, hc, I, rx⟩ := (r1.le0 k2.1).tok_inst
    cases r2 with
    | int _ u =>
    unfold subscriptTail getitemInPython specialOf
    refine wpAny_bind (wpAny_bind (wpAny_bind (I.type.here ((looks_findIn X (tok_getitem hc)).here (wpAny_pure ?_)))))
    rw [hs]
    refine wpAny_bind (wpAny_operating ?_)
    rcases hk with ⟨rfl, rfl⟩ | ⟨rfl, rfl⟩
    · refine getItem_tok (j := 0) (x := .str (S ty) tt) X hc I rfl (by decide) (by decide) rfl rfl ?_
      exact wpAny_bind (wpAny_of_eq (ht _ _) (wpAny_pure ⟨.str _ _, (k1.trans k2).1⟩))
    · refine getItem_tok (j := 1) (x := x) X hc I rfl (by decide) (by decide) rfl rfl ?_
      exact wpAny_bind (wpAny_of_eq (ht _ _) (wpAny_pure ⟨rx, (k1.trans k2).1⟩))) no) no)
end
end Mine
end
section
open PySem PySem.W PyProof.Rows PySem.Calls
set_option Elab.async false
set_option linter.unusedVariables false
set_option maxRecDepth 100000
namespace Mine
section
variable {prog : Program} {w : World} {hB : Heap} {P : Params}
theorem kg_at (k : Heap.le (hF P) hB) {a : Addr} {o : Obj} (e : (KG P).lookup a = some o) : hB.get? a = some o := KG_in k a o e
theorem mdef_type (k : Heap.le (hF P) hB) : MDef hB 108 "type" "Token.type" (fArgs (mtP 7 3)) (fBody (mtP 7 3)) (fScope (mtP 7 3)) := by
  refine ⟨_, .str "cssselect.parser" 289, .ref 107, .none, kg_at k (o := o120 P) (by kernel_rfl), ?_, 107, o119 P, _, 642, rfl, kg_at k (by kernel_rfl), rfl, ?_⟩
  · rw [← mt_eq]; kernel_rfl
  · kernel_rfl
theorem mdef_value (k : Heap.le (hF P) hB) : MDef hB 116 "value" "Token.value" (fArgs (mtP 7 4)) (fBody (mtP 7 4)) (fScope (mtP 7 4)) := by
  refine ⟨_, .str "cssselect.parser" 289, .ref 115, .none, kg_at k (o := o128 P) (by kernel_rfl), ?_, 115, o127 P, _, 650, rfl, kg_at k (by kernel_rfl), rfl, ?_⟩
  · rw [← mt_eq]; kernel_rfl
  · kernel_rfl
theorem fn_type (k : Heap.le (hF w.params) hB) (hl : hB.NoLimit) (c : Nat) (ty : List Nat) (pv : PV) (pos : Int) : FnC prog w hB 108 1 [.tok c ty pv pos] (.str ty) := by
  refine FnC.ofM (mdef_type k) [] hl (fun C h1 h2 h3 h4 h5 => ?_) rfl (by decide +kernel) (by decide +kernel) ?_ rfl rfl rfl (by decide +kernel)
  · conv => arg 3; whnf
    have hF' : Heap.le (hF C.w.params) C.hB := by rw [h2, h3]; exact k
    exact Ex.cons (Ex1.ret (Ev.idxTok (k := 0) hF' (Ev.name .here) Ev.cint (.inl ⟨rfl, rfl⟩) (fun _ _ => rfl) (fun _ _ => rfl)) rfl)
  · intro pm cd doc vs h
    obtain ⟨a, rfl⟩ := len1 h
    rfl
theorem fn_value (k : Heap.le (hF w.params) hB) (hl : hB.NoLimit) (c : Nat) (ty : List Nat) (pv : PV) (pos : Int) : FnC prog w hB 116 1 [.tok c ty pv pos] pv := by
  refine FnC.ofM (mdef_value k) [] hl (fun C h1 h2 h3 h4 h5 => ?_) rfl (by decide +kernel) (by decide +kernel) ?_ rfl rfl rfl (by decide +kernel)
  · conv => arg 3; whnf
    have hF' : Heap.le (hF C.w.params) C.hB := by rw [h2, h3]; exact k
    exact Ex.cons (Ex1.ret (Ev.idxTok (k := 1) hF' (Ev.name .here) Ev.cint (.inr ⟨rfl, rfl⟩) (fun _ _ => rfl) (fun _ _ => rfl)) rfl)
  · intro pm cd doc vs h
    obtain ⟨a, rfl⟩ := len1 h
    rfl
end
end Mine
end
section
open PySem PySem.W PyProof.Rows PySem.Calls
set_option Elab.async false
set_option linter.unusedVariables false
set_option maxRecDepth 100000
namespace Mine
section
variable {C : Cx} {ρ : Rho}
theorem eval_attr {o : Expr} {name : Str} {pos : Pos} {po p : PV} (ho : Ev C ρ o po) (hb : attributeBase o name C.env (eval o C.env) = eval o C.env) (ht : ∀ x r, letTemporaryGo o x r = pure ())
    (h : ∀ s v, St C ρ s → Rp C.X s.heap v po → wpAny C.M C.A (getAttr v name true) (fun x s' => Rp C.X s'.heap x p ∧ Le0 s s') (fun _ _ => False) s) : Ev C ρ (.Attribute o name pos) p := Ev.of fun s σ => by
  rw [arm_eval_Attribute, hb]
  refine wpAny_bind (wpAny_mono (ho s σ) (fun v s1 q1 => wpAny_bind (wpAny_standAt (wpAny_bind (wpAny_holding (wpAny_mono (h s1 v (σ.le q1.2) q1.1) (fun x s2 q2 => ?_) no))))) no)
  exact wpAny_bind (wpAny_of_eq (ht _ _) (wpAny_pure ⟨q2.1, q1.2.1.trans q2.2⟩))
theorem Ev.tokPos {o : Expr} {pos : Pos} {c : Nat} {ty : List Nat} {pv : PV} {p : Int} (hF' : Heap.le (hF C.w.params) C.hB) (ho : Ev C ρ o (.tok c ty pv p)) (hb : attributeBase o "pos" C.env (eval o C.env) = eval o C.env) (ht : ∀ x r, letTemporaryGo o x r = pure ()) :
    Ev C ρ (.Attribute o "pos" pos) (.int p) := eval_attr ho hb ht fun s v σ r => by
  obtain ⟨a, d, hs', tk, tt, x, n, nn, pt, rfl, hc, I, rx⟩ := r.tok_inst
  refine tok_value (v := .int p pt) (KG_in (hF'.trans σ.base)) hc I ?_ rfl ⟨.int _ _, .toks _⟩
  rcases hc with rfl | rfl <;> kernel_rfl
theorem Ev.tokProp {o : Expr} {name : Str} {pos : Pos} {c : Nat} {ty : List Nat} {pv q : PV} {p : Int} {pa fa : Addr} {rest : List Value} (hF' : Heap.le (hF C.w.params) C.hB) (hl : C.hB.NoLimit) (ho : Ev C ρ o (.tok c ty pv p)) (hb : attributeBase o name C.env (eval o C.env) = eval o C.env) (ht : ∀ x r, letTemporaryGo o x r = pure ())
    (hf : ∀ c od, IsTok c → findObj (KG C.w.params) c od name = some (.bind (.builtin "property.__get__") (.ref pa))) (hp : recIn (KG C.w.params) pa "property" = some (.ref fa :: rest)) (fn : FnC C.prog C.w C.hB fa 1 [.tok c ty pv p] q)
    (hq : ∀ X h v, Rp X h v q → handedIn v = true) (hn : 2 ≤ C.n) : Ev C ρ (.Attribute o name pos) q := eval_attr ho hb ht fun s v σ r => by
  obtain ⟨a, d, hs', tk, tt, x, n, nn, pt, rfl, hc, I, rx⟩ := id r.tok_inst
  have X := KG_in (hF'.trans σ.base)
  refine tok_bind X hc I (hf c _ hc) (wpAny_call (prop_get (s := { s with toks := s.toks + 1 }) X hp ?_))
  have h1 := C.depth
  have h2 := C.units
  refine codeAny_mono (fn C.X C.A.in1 { s with toks := s.toks + 1 } [.ref a] C.handled (show C.A.depth + 1 < _ by omega) (show C.A.units + 1 + 100 * 1 + 100 < cLine by omega) C.above σ.inX σ.base (Nat.le_succ_of_le σ.toks) (.cons r .nil)) fun r' s' z => ?_
  rcases r' with _ | (_ | _ | _ | v) <;> first | exact z.elim | skip
  show wpAny _ _ (handedOut v) _ _ _
  rw [handedOut_of (hq _ _ _ z.1)]
  exact wpAny_pure ⟨z.1, (Le0.toks _).trans z.2⟩
theorem Ev.tokType {o : Expr} {pos : Pos} {c : Nat} {ty : List Nat} {pv : PV} {p : Int} (hF' : Heap.le (hF C.w.params) C.hB) (hl : C.hB.NoLimit) (ho : Ev C ρ o (.tok c ty pv p)) (hb : attributeBase o "type" C.env (eval o C.env) = eval o C.env) (ht : ∀ x r, letTemporaryGo o x r = pure ()) (hn : 2 ≤ C.n) :
    Ev C ρ (.Attribute o "type" pos) (.str ty) := Ev.tokProp hF' hl ho hb ht (fun c od hc => by rcases hc with rfl | rfl <;> kernel_rfl) (pa := 109) (fa := 108) (rest := [.none, .none, .none, .str "type" 648, .bool false]) (by kernel_rfl) (fn_type hF' hl c ty pv p) (fun X h v r => by cases r; rfl) hn
theorem Ev.tokValue {o : Expr} {pos : Pos} {c : Nat} {ty : List Nat} {pv : PV} {p : Int} (hF' : Heap.le (hF C.w.params) C.hB) (hl : C.hB.NoLimit) (ho : Ev C ρ o (.tok c ty pv p)) (hb : attributeBase o "value" C.env (eval o C.env) = eval o C.env) (ht : ∀ x r, letTemporaryGo o x r = pure ()) (hn : 2 ≤ C.n)
    (hv : pv = .none ∨ ∃ l, pv = .str l) : Ev C ρ (.Attribute o "value" pos) pv := Ev.tokProp hF' hl ho hb ht (fun c od hc => by rcases hc with rfl | rfl <;> kernel_rfl) (pa := 117) (fa := 116) (rest := [.none, .none, .none, .str "value" 656, .bool false]) (by kernel_rfl) (fn_value hF' hl c ty pv p) (fun X h v r => by rcases hv with rfl | ⟨l, rfl⟩ <;> cases r <;> rfl) hn
end
end Mine
end
section
open PySem PySem.W PyProof.Rows PySem.Calls
set_option Elab.async false
set_option linter.unusedVariables false
set_option maxRecDepth 100000
namespace Mine
section
variable {prog : Program} {w : World} {A : Around} {E : Value → Shared → Prop} {s : Shared} {P : Params} {c : Addr}
theorem pk_isType (S : Setting) (hc : IsTok c) : peek (KG P) S (isType (.ref c)) = some true := by rcases hc with rfl | rfl <;> kernel_rfl
theorem pk_check (S : Setting) (hc : IsTok c) (t : Addr) : peek (KG P) S (checkBuiltinCall "tuple.__new__" ⟨[.ref c, .ref t], []⟩) = some () := by rcases hc with rfl | rfl <;> kernel_rfl
theorem pk_madeHere (S : Setting) (hc : IsTok c) : peek (KG P) S (Bind.madeHere "tuple.__new__" (.ref c)) = some () := by rcases hc with rfl | rfl <;> kernel_rfl
theorem pk_madeBy (S : Setting) (hc : IsTok c) : peek (KG P) S (Bind.madeBy (.ref c)) = some none := by rcases hc with rfl | rfl <;> kernel_rfl
def tokMro (c : Addr) : List Value := if c = 127 then [.ref 127, .type "tuple", .type "object"] else [.ref 155, .ref 127, .type "tuple", .type "object"]
theorem pk_mroOf (S : Setting) (hc : IsTok c) : peek (KG P) S (mroOf (.ref c)) = some (tokMro c) := by rcases hc with rfl | rfl <;> kernel_rfl
theorem tok_init (hc : IsTok c) : findIn (KG P) (.ref c) "__init__" = some (some (.builtin "object.__init__")) := by rcases hc with rfl | rfl <;> kernel_rfl
theorem pk_hasDel (S : Setting) (hc : IsTok c) : peek (KG P) S (classHasDel c) = some false := by rcases hc with rfl | rfl <;> kernel_rfl
theorem new_tok {t : Addr} {items : Array Value} {R : Result → Shared → Prop} (X : (KG P).In s.heap) (hP : P = w.params) (hc : IsTok c) (ht : s.heap.IsTuple t items) (hsz : items.size ≤ sizeLine)
    (h : ∀ h' d a, Heap.le s.heap h' → s.heap.get? d = none → s.heap.get? a = none → d ≠ a → h'.get? d = some { cls := .type "dict", data := .dict #[] } → h'.get? a = some { cls := .ref c, dict := some d, data := .seq items } →
      R (.ok (.ret (.ref a))) { s with heap := h' }) : codeAny (model prog w) A (.call (.builtin "tuple.__new__") ⟨[.ref c, .ref t], []⟩) R s := by
  obtain ⟨ot, hot, hct, nt, hdt⟩ := id ht
  have L {α : Type} {x : Sem α} {r : α} (e : peek (KG P) ⟨prog, w.params⟩ x = some r) : Looks (model prog w) s.heap x r := Looks.of_peek X e
  refine codeAny_call_builtin (show plainId "tuple.__new__" = true by decide +kernel) F.entry_tuple_new ((L (pk_check _ hc t)).here ?_)
  unfold Builtin.«tuple.__new__»
  refine wpAny_bind ((L (pk_isType _ hc)).here ?_)
  refine wpAny_bind ((looks_mroIn X (tok_isTuple hc)).here ?_)
  show wpAny _ _ (Bind.madeHere "tuple.__new__" (.ref c) >>= fun _ => _) _ _ _
  refine wpAny_bind ((L (pk_madeHere _ hc)).here ?_)
  refine wpAny_bind ((looks_findIn X (tok_init hc)).here ?_)
  dsimp only
  rw [if_pos (show (some (Value.builtin "object.__init__") == some (Value.builtin "object.__init__")) = true by decide +kernel)]
  refine wpAny_bind (wpAny_of_eq (a := ()) rfl ?_)
  refine wpAny_bind (wpAny_of_eq (a := ()) rfl ?_)
  rw [if_neg (show ¬ (Value.ref c == Value.type "tuple") = true from fun q => by cases beq_iff_eq.mp q)]
  refine wpAny_bind (wpAny_collect_seq t (.inr rfl) hot hct hdt (fun h' k => ?_) hsz)
  refine wpAny_bind (wpAny_pure ?_)
  refine wpAny_bind (wpAny_alloc ?_)
  refine wpAny_bind ?_
  unfold newObj
  have hsz' : items.toList.toArray = items := by simp
  rw [hsz']
  show wpAny _ _ (if items.size > sizeLine then _ else newObjAsIs _ _ _) _ _ _
  rw [if_neg (Nat.not_lt.mpr hsz)]
  unfold newObjAsIs
  refine wpAny_bind (wpAny_alloc ?_)
  have kk : Heap.le s.heap ((h'.push { cls := .type "dict", data := .dict #[] }).push { cls := .ref c, dict := some h'.objs.size, data := .seq items }) := fun b o e => Heap.get?_push_of_some _ (Heap.get?_push_of_some _ (k b o e))
  refine wpAny_bind ((L (pk_hasDel _ hc)) _ _ _ _ kk ?_)
  show wpAny _ _ (pure _) _ _ _
  have hd : s.heap.get? h'.objs.size = none := none_below (show Heap.le s.heap h' from k) (get_size _)
  have ha : s.heap.get? (h'.push { cls := .type "dict", data := .dict #[] }).objs.size = none := none_below (show Heap.le s.heap (h'.push { cls := .type "dict", data := .dict #[] }) from fun b o e => Heap.get?_push_of_some _ (k b o e)) (get_size _)
  refine wpAny_pure (wpAny_pure (h _ h'.objs.size _ kk hd ha ?_ (Heap.get?_push_of_some _ (Heap.get?_push_size _ rfl)) (Heap.get?_push_size _ rfl)))
  rw [Heap.size_push]; exact Nat.ne_of_lt (Nat.lt_succ_self _)
end
end Mine
end
section
open PySem PySem.W PyProof.Rows PySem.Calls Builtin Builtin.ObjectAttr
set_option Elab.async false
set_option linter.unusedVariables false
set_option maxRecDepth 100000
namespace Mine
section
variable {prog : Program} {w : World} {A : Around} {E : Value → Shared → Prop} {s : Shared} {P : Params} {c : Addr}
theorem method_tuple {pl : Sem Bool} {Q : Value × List Value → Shared → Prop} (X : (KG P).In s.heap) (h : Q (.builtin "tuple.__new__", []) { s with toks := s.toks + 1 }) :
    wpAny (model prog w) A (getMethod (.type "tuple") "__new__" pl) Q E s := by
  have LO : Looks (model prog w) s.heap (opaqueClassAbove (.type "tuple")) none := Looks.of_pure (by kernel_rfl)
  have L0 : Looks (model prog w) s.heap (typeOf (.type "tuple")) (.type "type") := Looks.of_pure (by kernel_rfl)
  have hg : findIn (KG P) (.type "type") "__getattribute__" = some (some (.builtin "type.__getattribute__")) := type_tga
  unfold getMethod specialOf
  refine wpAny_bind (wpAny_bind (L0.here ((looks_findIn X hg).here ?_)))
  dsimp only
  rw [if_pos canon_tga]
  refine wpAny_bind (wpAny_mono (Q := fun v => Q (v, [])) (E := E) ?_ (fun _ _ z => wpAny_pure z) fun _ _ z => z)
  exact cls_open X LO L0 hg (looks_hook X (r := none) (by rfl)) (by show subIn _ _ _ = _; rfl) (r := .val (.builtin "tuple.__new__")) (by kernel_rfl)
    (wpAny_pure (by show wpAny _ _ (handedOut _) _ _ _; rw [handedOut_of (by kernel_rfl)]; exact wpAny_pure h))
theorem tok_setattr (hc : IsTok c) : findIn (KG P) (.ref c) "__setattr__" = some (some (.builtin "object.__setattr__")) := by rcases hc with rfl | rfl <;> kernel_rfl
theorem tok_nopos (hc : IsTok c) : findIn (KG P) (.ref c) "pos" = some none := by rcases hc with rfl | rfl <;> kernel_rfl
theorem tok_hasDict (hc : IsTok c) : (clsIn (KG P) c).any (·.hasDict) = true := by rcases hc with rfl | rfl <;> kernel_rfl
theorem tok_refuse (self : Value) (hc : IsTok c) : refuseLoop self "__setattr__" (tokMro c) = pure () := by
  rcases hc with rfl | rfl
  · rw [show tokMro 127 = [.ref 127, .type "tuple", .type "object"] from rfl, refuseLoop_ref]; kernel_rfl
  · rw [show tokMro 155 = [.ref 155, .ref 127, .type "tuple", .type "object"] from rfl, refuseLoop_ref, refuseLoop_ref]; kernel_rfl
/-- obj.pos = v, the dict being empty -/
theorem set_tok {a d : Addr} {ob : Obj} {v : Value} {Q : Unit → Shared → Prop} (X : (KG P).In s.heap) (hc : IsTok c) (I : InstAt s.heap a ob c (some { cls := .type "dict", data := .dict #[] })) (hd : ob.dict = some d)
    (h : ∀ h' hs tk nn k, Heap.ExtBut d s.heap h' → h'.get? d = some { cls := .type "dict", data := .dict #[⟨hs, .str "pos" tk, v⟩] nn } → Q () { s with heap := h', toks := s.toks + k }) :
    wpAny (model prog w) A (setAttr (.ref a) "pos" v) Q E s := by
  have SF := PySem.F.store_object
  have L {α : Type} {x : Sem α} {r : α} (e : peek (KG P) ⟨prog, w.params⟩ x = some r) : Looks (model prog w) s.heap x r := Looks.of_peek X e
  have D : s.heap.get? d = some { cls := .type "dict", data := .dict #[] } := by
    have := I.dict
    rw [hd] at this
    exact this
  obtain ⟨cd, hcd, hdict⟩ := any_some (tok_hasDict (P := P) hc)
  unfold setAttr
  refine wpAny_bind (wpAny_mkText (wpAny_bind ?_))
  unfold callSpecial? specialOf
  refine wpAny_bind (wpAny_bind (I.type _ _ _ _ (fun _ _ e => e) (looks_findIn X (tok_setattr hc) _ _ _ _ (fun _ _ e => e) ?_)))
  refine wpAny_holding (wpAny_bind ?_)
  rw [SF.slot.bind]
  refine wpAny_pure (wpAny_bind (wpAny_call (codeAny_call_builtin SF.slot.plain SF.entry (@check_slot (model prog w) _ _ { s with toks := s.toks + 1 } "object.__setattr__" "object" "__setattr__" (.ref a) [.str "pos" s.toks, v] [] _ SF.kind SF.split (I.type.andThen (looks_mroIn X (tok_isObject hc))) (SF.args _ _ _) ?_))))
  show wpAny _ _ (Builtin.«object.__setattr__» ⟨[.ref a, .str "pos" s.toks, v], []⟩) _ _ _
  rw [osa_eq, refuse_eq]
  refine wpAny_bind (wpAny_bind (I.type _ _ _ _ (fun _ _ e => e) (wpAny_bind ((L (pk_mroOf _ hc)) _ _ _ _ (fun _ _ e => e) ?_))))
  rw [tok_refuse _ hc]
  refine wpAny_pure (wpAny_bind (I.type _ _ _ _ (fun _ _ e => e) (wpAny_bind (looks_findIn X (tok_nopos hc) _ _ _ _ (fun _ _ e => e) (wpAny_bind (wpAny_pure ?_))))))
  show wpAny _ _ (storeInOwnDict (.ref a) (.ref c) (.str "pos" s.toks) "pos" v false) _ _ _
  obtain ⟨hx, hcl, hn, -⟩ := I
  obtain ⟨oc, odi, oda, osl⟩ := ob
  dsimp only at hcl hd
  subst hcl hd
  refine wpAny_bind (wpAny_pure (wpAny_bind (wpAny_bind (wpAny_loadPart hx (wpAny_bind ((looks_clsIn X hcd) _ _ _ _ (fun _ _ e => e) ?_))))))
  rw [hdict]
  refine wpAny_pure (a := some d) (wpAny_bind (wpAny_pure (wpAny_bind ?_)))
  unfold nsSet
  refine wpAny_bind (wpAny_bind (wpAny_askSetting (wpAny_pure (wpAny_bind (wpAny_mkText (wpAny_bind (wpAny_loadPart D ?_)))))))
  dsimp only
  rw [if_neg (show ¬ aRefKeyMayBeTheName "pos" #[] = true by decide +kernel)]
  generalize (if (Str.ofString "pos").cps.isEmpty = true then (0 : Int) else _) = hs
  have e : Obj.putName "pos" hs (.str "pos" (s.toks + 1)) v { cls := .type "dict", data := .dict #[] } = { cls := .type "dict", data := .dict #[⟨hs, .str "pos" (s.toks + 1), v⟩] 1 } := by kernel_rfl
  have D' := Heap.get?_update_self (Obj.putName "pos" hs (.str "pos" (s.toks + 1)) v) D (by rw [e]; rfl)
  rw [e] at D'
  refine wpAny_updatePart D ?_
  refine wpAny_bind (wpAny_lookBehind D' (pastItsLine_dict (by rw [sizeLine_eq]; show 1 ≤ _; omega)) ?_)
  refine wpAny_pure (wpAny_pure ?_)
  exact wpAny_pure (h _ hs (s.toks + 1) 1 (1 + 1) (Heap.SameBut.update ..).extBut D')
end
end Mine
end
section
open PySem PySem.W PyProof.Rows PySem.Calls
set_option Elab.async false
set_option linter.unusedVariables false
set_option maxRecDepth 100000
namespace Mine
theorem len4 {vs : List Value} (h : vs.length = 4) : ∃ a b c d, vs = [a, b, c, d] := by match vs, h with | [a, b, c, d], _ => exact ⟨a, b, c, d, rfl⟩
section
variable {prog : Program} {w : World} {hB : Heap} {P : Params}
theorem mdef_new (k : Heap.le (hF P) hB) : MDef hB 87 "__new__" "Token.__new__" (fArgs (mtP 7 0)) (fBody (mtP 7 0)) (fScope (mtP 7 0)) := by
  refine ⟨_, .str "cssselect.parser" 289, .ref 86, .none, kg_at k (o := o99 P) (by kernel_rfl), ?_, 86, o98 P, _, 616, rfl, kg_at k (by kernel_rfl), rfl, ?_⟩
  · rw [← mt_eq]; kernel_rfl
  · kernel_rfl
theorem fn_new (k : Heap.le (hF w.params) hB) (hl : hB.NoLimit) (bt : GlobIs hB "tuple" (.type "tuple")) {c : Addr} (hc : IsTok c) (ty : List Nat) (pv : PV) (pos : Int) : FnC prog w hB 87 1 [.raw (.ref c), .str ty, pv, .int pos] (.tok c ty pv pos) := by
  refine FnC.ofM (mdef_new k) ["obj"] hl (fun C h1 h2 h3 h4 h5 => ?_) rfl (by decide +kernel) (by decide +kernel) ?_ rfl rfl rfl (by decide +kernel)
  · conv => arg 3; whnf
    have hF' : Heap.le (hF C.w.params) C.hB := by rw [h2, h3]; exact k
    have kt : C.env.kindOf "tuple" = some .globalImplicit := kindG h4 (by decide +kernel)
    have bt' : GlobIs C.hB "tuple" (.type "tuple") := h3 ▸ bt
    intro s σ
    refine wpAny_execs_cons (wpAny_Assign_Name (methodCall_KW (wpAny_mono (Ev.glob bt' kt rfl s σ) (fun ov s1 q1 => ?_) no)) rfl)
    obtain ⟨r1, k1⟩ := q1
    cases r1
    have σ1 := σ.le k1
    refine method_tuple (KG_in (hF'.trans σ1.base)) ?_
    have σ2 := σ1.le (show Le s1 { s1 with toks := s1.toks + 1 } from ⟨.toks _, Nat.le_succ _⟩)
    refine callWith_builtin1 (wpAny_mono ((Evs.cons (p := .raw (.ref c)) (Ev.name .here) (Evs.cons (p := .tup [.str ty, pv]) (Ev.tuple (Evs.cons (Ev.name (.there .here)) (Evs.cons (Ev.name (.there (.there .here))) Evs.nil rfl) rfl) (by show 2 ≤ sizeLine; rw [sizeLine_eq]; omega)) Evs.nil rfl) rfl) _ _ σ2) (fun vs s3 q3 => ?_) no) rfl rfl
    obtain ⟨r3, k3⟩ := q3
    obtain ⟨v, u, rfl, rv, ru⟩ := r3.two
    cases rv
    cases ru with
    | tup t its l hx ht hr =>
    obtain ⟨x1, x2, rfl, rx1, rx2⟩ := hr.two
    cases rx1 with
    | str _ tt =>
    have σ3 := σ2.le k3
    refine wpAny_call (new_tok (KG_in (hF'.trans σ3.base)) rfl hc ht (by show 2 ≤ sizeLine; rw [sizeLine_eq]; omega) (fun h' d a kk nd na dna hd ha => ?_))
    have k4 : Le s3 { s3 with heap := h' } := ⟨.of kk, Nat.le_refl _⟩
    have σ4 := σ3.le k4
    have hloc : ∀ b, s3.heap.get? b = none → b ≠ C.env.locals := by
      rintro b e rfl
      obtain ⟨o, ho⟩ := σ3.inX _ (C.sub _ C.here)
      rw [ho] at e
      cases e
    refine store_wpK (e := .val (.raw (.ref a))) σ4 (.there (.there (.there (.there .here)))) (.raw _) (fun s5 σ5 k5 keep => ?_)
    have ha5 := keep a _ (hloc a na) ha
    have hd5 := keep d _ (hloc d nd) hd
    refine wpAny_execs_cons (plainObj_wpAny_Assign_Attribute (wpAny_mono (Ev.name (.there (.there (.there .here))) s5 σ5) (fun v6 s6 q6 => wpAny_mono (Ev.name (.there (.there (.there (.there .here)))) s6 (σ5.le q6.2)) (fun ov s7 q7 => ?_) no) no) rfl)
    obtain ⟨r6, k6⟩ := q6
    obtain ⟨r7, k7⟩ := q7
    cases r6 with
    | int _ pt =>
    cases r7
    have σ7 := (σ5.le k6).le k7
    have ha7 := k7.heap a _ (k6.heap a _ ha5)
    have hd7 := k7.heap d _ (k6.heap d _ hd5)
    refine set_tok (KG_in (hF'.trans σ7.base)) hc ⟨ha7, rfl, rfl, hd7⟩ rfl (fun h8 hs tk nn kt8 ext hd8 => ?_)
    obtain ⟨m, hn, hm⟩ := σ7.ns
    obtain ⟨vo, hvo, hao⟩ := hm "obj" (.val (.raw (.ref a))) (.tail _ (.tail _ (.tail _ (.tail _ (.head _))))) (by simp)
    cases hao
    have hlo := σ7.loc "obj" (.tail _ (.tail _ (.tail _ (.tail _ (.head _)))))
    have dl : d ≠ C.env.locals := hloc d nd
    have hn8 : h8.Ns C.env.locals m := by
      obtain ⟨o, es, ep, ho, r⟩ := hn
      exact ⟨o, es, ep, ext _ o dl.symm ho, r⟩
    refine wpAny_execs_cons (wpAny_Return_some (wpAny_Name (wpAny_loadName_local C.kind hlo.1 hn8 hvo ⟨_, rfl, ?_, ?_⟩) hlo.2))
    · have fX : ∀ b, s3.heap.get? b = none → b ∉ C.X := fun b e hb => by
        obtain ⟨o, ho⟩ := σ3.inX b hb
        rw [ho] at e
        cases e
      have rx : Rp C.X h8 x2 pv := by
        have r1 : Rp (d :: C.X) s3.heap x2 pv := rx2.more fun b hb => by
          cases hb with
          | head => exact .inr nd
          | tail _ h => exact .inl h
        exact (r1.mono fun b o hb e => ext b o (fun q => hb (q ▸ .head _)) (k7.heap b o (k6.heap b o (k5.heap b o (fun q => hb (.tail _ (C.sub _ q))) (kk b o e))))).less fun b hb => .tail _ hb
      exact .tok a d c hs tk ty tt x2 pv pos 0 nn pt hc (fX a na) (fX d nd) (ext a _ dna.symm ha7) hd8 rx
    · have kA := ((k1.trans (show Le s1 { s1 with toks := s1.toks + 1 } from ⟨.toks _, Nat.le_succ _⟩)).trans k3)
      have kB := (((kA.trans k4).x.trans k5).trans (k6.trans k7).x)
      obtain ⟨⟨h9, t9, rfl, k9⟩, kt9⟩ := kB
      refine ⟨⟨h8, _, rfl, fun b o hb e => ext b o (fun q => ?_) (k9 b o hb e)⟩, Nat.le_trans kt9 (Nat.le_add_right _ _)⟩
      subst q
      rw [kA.heap b o e] at nd
      cases nd
  · intro pm cd doc vs h
    obtain ⟨a, b, c, d, rfl⟩ := len4 h
    rfl
end
end Mine
end
section
open PySem PySem.W PyProof.Rows PySem.Calls Builtin Builtin.ObjectAttr
set_option Elab.async false
set_option linter.unusedVariables false
set_option maxRecDepth 100000
namespace Mine
section
variable {prog : Program} {w : World} {hB : Heap} {P : Params} {c : Addr} {s : Shared} {A : Around}
theorem tok_self (hc : IsTok c) : mroIn (KG P) c (.ref c) = some true := by rcases hc with rfl | rfl <;> kernel_rfl
theorem tok_isCls (hc : IsTok c) : instIn (KG P) (.ref c) (.type "type") = some true := by rcases hc with rfl | rfl <;> kernel_rfl
theorem tok_call (hc : IsTok c) : specialIn (KG P) (.ref c) "__call__" = some (some (.builtin "type.__call__")) := by rcases hc with rfl | rfl <;> kernel_rfl
theorem tok_reads (hc : IsTok c) : readsIn (KG P) c (.type "type") = true := by rcases hc with rfl | rfl <;> kernel_rfl
theorem tokMro_ne (hc : IsTok c) : (tokMro c).isEmpty = false := by rcases hc with rfl | rfl <;> rfl
theorem oi_args' (a b : Value) (r : List Value) : argsOk "object.__init__" ⟨a :: b :: r, []⟩ := by unfold argsOk; kernel_rfl
theorem tok_obj (hc : IsTok c) : ∃ oc od cd sl, (KG P).lookup c = some ⟨oc, od, .cls cd, sl⟩ := by
  have e : (clsIn (KG P) c).isSome = true := by rcases hc with rfl | rfl <;> kernel_rfl
  unfold clsIn at e
  split at e
  · exact ⟨_, _, _, _, by assumption⟩
  · cases e
theorem type_call_depth (A : Around) (C : Addr) (rest : List Value) : (A.under (.builtin "type.__call__" ⟨.ref C :: rest, []⟩)).depth = A.depth + 1 := congrArg (A.depth + ·) (show Code.weight _ = 1 by kernel_rfl)
theorem type_call_units (A : Around) (C : Addr) (rest : List Value) : (A.under (.builtin "type.__call__" ⟨.ref C :: rest, []⟩)).units = A.units + 1 := congrArg (A.units + ·) (show Code.cUnits _ = 1 by kernel_rfl)
theorem make_tok {n : Nat} {sm f : Addr} {p1 : PV} {ps : List PV} {ty : List Nat} {pv : PV} {pos : Int} {rest : List Value} (k : Heap.le (hF w.params) hB) (hc : IsTok c)
    (e : findCls (KG w.params) (.ref c) (.type "type") "__new__" = some (.get (.builtin "staticmethod.__get__") (.ref sm) .none (.ref c))) (hsm : recIn (KG w.params) sm "staticmethod" = some (.ref f :: rest))
    (fn : FnC prog w hB f n (.raw (.ref c) :: p1 :: ps) (.tok c ty pv pos)) : FnC prog w hB c (n + 1) (p1 :: ps) (.tok c ty pv pos) := by
  intro X A s vs hh hd hu hX hin hb ht hr
  have KX := KG_in (k.trans hb)
  have L {α : Type} {x : Sem α} {r : α} (e : peek (KG w.params) ⟨prog, w.params⟩ x = some r) : Looks (model prog w) s.heap x r := Looks.of_peek KX e
  obtain ⟨oc, od, cd, sl, hlk⟩ := tok_obj (P := w.params) hc
  have hC := KX c _ hlk
  refine codeAny_of_tree ?_
  show wpAny _ _ (callAny (.ref c) _) _ _ _
  refine nd_load hC ?_
  show wpAny _ _ (callAny.viaDunder (.ref c) _) _ _ _
  unfold callAny.viaDunder
  refine wpAny_bind ((looks_specialIn KX (tok_call hc)).here ?_)
  dsimp only
  rw [tc_bind]
  refine wpAny_bind (wpAny_pure (wpAny_bind (wpAny_pure ?_)))
  refine wpAny_pure (a := PySem.Fin.again (.call (.builtin "type.__call__") ⟨.ref c :: vs, []⟩)) (And.intro rfl ?_)
  refine codeAny_call_builtin_at (Code.quiet_builtin _ (by decide +kernel)) entry_typeCall (@check_slot (model prog w) _ _ s "type.__call__" "type" "__call__" (.ref c) vs [] _ tc_kind tc_split (looks_instIn KX (tok_isCls hc)) (tc_args _ _ _) ?_)
  show wpAny _ _ (mroOf (.ref c) >>= _) _ _ _
  refine wpAny_bind ((L (pk_mroOf _ hc)).here ?_)
  rw [tokMro_ne hc, if_neg (by decide)]
  refine wpAny_bind ((L (pk_madeBy _ hc)).here ?_)
  refine wpAny_bind (cls_bind KX (tok_reads hc) e (wpAny_call (sm_get (s := { s with toks := s.toks + 1 }) KX hsm (by
    show wpAny _ _ (handedOut (.ref f)) _ _ _
    refine handed_on rfl ?_
    refine wpAny_bind (wpAny_holding (wpAny_call ?_))
    refine codeAny_mono (fn X (A.under (.builtin "type.__call__" ⟨.ref c :: vs, []⟩)) { s with toks := s.toks + 1 } (.ref c :: vs) hh ?_ ?_ hX hin hb (Nat.le_succ_of_le ht) (.cons (.raw _) hr)) fun r' s' z => ?_
    · rw [type_call_depth]; omega
    · rw [type_call_units]; omega
    rcases r' with _ | (_ | _ | _ | v) <;> first | exact z.elim | skip
    obtain ⟨rx, k1⟩ := z
    obtain ⟨a, d, hs', tk, tt, x, n, nn, pt, rfl, _, I, rv⟩ := rx.tok_inst
    have hb' := hb.trans k1.heap
    have KX' := KG_in (k.trans hb')
    have LI : Looks (model prog w) s'.heap (isInstance (.ref a) (.ref c)) true := I.type.andThen (looks_mroIn KX' (tok_self hc))
    refine wpAny_bind (LI.here ?_)
    rw [if_neg (by decide)]
    refine wpAny_bind (wpAny_holding ?_)
    unfold callSpecial? specialOf
    refine wpAny_bind (wpAny_bind (I.type.here ((looks_findIn KX' (tok_init hc)).here ?_)))
    refine wpAny_holding (wpAny_bind ?_)
    rw [oi_bind]
    refine wpAny_pure (wpAny_bind (wpAny_call (codeAny_call_builtin oi_plain entry_oi (@check_slot (model prog w) _ _ s' "object.__init__" "object" "__init__" (.ref a) vs [] _ oi_kind oi_split (I.type.andThen (looks_mroIn KX' (tok_isObject hc))) ?_ ?_))))
    · cases hr with | cons h1 h2 => exact oi_args' _ _ _
    · cases hr with
      | cons h1 h2 =>
      show wpAny _ _ (typeOf (.ref a) >>= _) _ _ _
      have L' {α : Type} {x : Sem α} {r : α} (e : peek (KG w.params) ⟨prog, w.params⟩ x = some r) : Looks (model prog w) s'.heap x r := Looks.of_peek KX' e
      refine wpAny_bind (I.type.here (wpAny_bind ((looks_findIn KX' (tok_init hc)).here ?_)))
      refine wpAny_bind ((L' (pk_madeBy _ hc)).here ?_)
      dsimp only
      rw [if_neg (show ¬ (some (Value.builtin "object.__init__") != some (Value.builtin "object.__init__")) = true by simp)]
      refine wpAny_pure ?_
      show wpAny _ _ (pure _) _ _ _
      refine wpAny_pure (wpAny_pure ⟨rx, (Le0.toks _).trans k1⟩)))))
end
end Mine
end
section
open PySem PySem.W PyProof.Rows PySem.Calls
set_option Elab.async false
set_option linter.unusedVariables false
set_option maxRecDepth 100000
namespace Mine
section
variable {prog : Program} {w : World} {hB : Heap} {P : Params} {C : Cx} {ρ : Rho}
/-- a call of a thing of the program by its global name -/
theorem Ev.callC {x : Str} {np pos : Pos} {a : Addr} {n : Nat} {e : Expr} {es : List Expr} {ps : List PV} {p : PV} (hF' : Heap.le (hF C.w.params) C.hB) (hk : keepIn (KG C.w.params) (.ref a) = true) (g : GlobIs C.hB x (.ref a)) (hx : C.env.kindOf x = some .globalImplicit) (hd : (x == ("__debug__" : Str)) = false)
    (ha : Evs C ρ (e :: es) ps) (F : FnC C.prog C.w C.hB a n ps p) (hn : n ≤ C.n)
    (he : starEach (e :: es) C.env = (false, eval e C.env) :: starEach es C.env) (hs : (backTo pos (starEach es C.env)).any (·.1) = false) : Ev C ρ (.Call (.Name x np) (e :: es) [] pos) p := Ev.of fun s σ =>
  wpAny_Call_NameR (wpAny_mono (Ev.glob g hx hd s σ) (fun f s1 q1 => by
    obtain ⟨r1, k1⟩ := q1
    cases r1
    refine callWith_K (KG_in hF') hk (wpAny_mono (ha s1 _ (σ.le k1)) (fun vs s2 q2 => ?_) fun _ _ x => x) he hs
    have σ2 := σ.le (k1.trans q2.2)
    have := C.depth
    have := C.units
    exact ⟨KG_in (hF'.trans σ2.base), wpAny_mono (F.fn C.X C.A s2 vs C.handled (by omega) (by omega) C.above σ2.inX σ2.base σ2.toks q2.1) (fun v s3 q3 => ⟨q3.1, (k1.trans q2.2).1.trans q3.2⟩) fun _ _ x => x⟩) fun _ _ x => x)
theorem tok_find_new : findCls (KG P) (.ref 127) (.type "type") "__new__" = some (.get (.builtin "staticmethod.__get__") (.ref 128) .none (.ref 127)) := by kernel_rfl
theorem eof_find_new : findCls (KG P) (.ref 155) (.type "type") "__new__" = some (.get (.builtin "staticmethod.__get__") (.ref 156) .none (.ref 155)) := by kernel_rfl
theorem tok_sm : recIn (KG P) 128 "staticmethod" = some [.ref 87] := by kernel_rfl
theorem eof_sm : recIn (KG P) 156 "staticmethod" = some [.ref 145] := by kernel_rfl
theorem keep_tok : keepIn (KG P) (.ref 127) = true := by kernel_rfl
theorem keep_eof : keepIn (KG P) (.ref 155) = true := by kernel_rfl
theorem keep_new : keepIn (KG P) (.ref 87) = true := by kernel_rfl
/-- Token(type, value, pos) -/
theorem fn_tok (k : Heap.le (hF w.params) hB) (hl : hB.NoLimit) (bt : GlobIs hB "tuple" (.type "tuple")) (ty : List Nat) (pv : PV) (pos : Int) : FnC prog w hB 127 2 [.str ty, pv, .int pos] (.tok 127 ty pv pos) :=
  make_tok k (.inl rfl) tok_find_new tok_sm (fn_new k hl bt (.inl rfl) ty pv pos)
theorem mdef_eof (k : Heap.le (hF P) hB) : MDef hB 145 "__new__" "EOFToken.__new__" (fArgs (mtP 8 0)) (fBody (mtP 8 0)) (fScope (mtP 8 0)) := by
  refine ⟨_, .str "cssselect.parser" 289, .ref 144, .none, kg_at k (o := o160 P) (by kernel_rfl), ?_, 144, o159 P, _, 684, rfl, kg_at k (by kernel_rfl), rfl, ?_⟩
  · rw [← mt_eq]; kernel_rfl
  · kernel_rfl
theorem tok_spec_ga : specialIn (KG P) (.ref 127) "__getattribute__" = some (some (.builtin "type.__getattribute__")) := by kernel_rfl
theorem fn_eofnew (k : Heap.le (hF w.params) hB) (hl : hB.NoLimit) (bt : GlobIs hB "tuple" (.type "tuple")) (gt : GlobIs hB "Token" (.ref 127)) (pos : Int) : FnC prog w hB 145 2 [.raw (.ref 155), .int pos] (.tok 155 [69, 79, 70] .none pos) := by
  refine FnC.ofM (mdef_eof k) [] hl (fun C h1 h2 h3 h4 h5 => ?_) rfl (by decide +kernel) (by decide +kernel) ?_ rfl rfl rfl (by decide +kernel)
  · conv => arg 3; whnf
    have hF' : Heap.le (hF C.w.params) C.hB := by rw [h2, h3]; exact k
    have kt : C.env.kindOf "Token" = some .globalImplicit := kindG h4 (by decide +kernel)
    have gt' : GlobIs C.hB "Token" (.ref 127) := h3 ▸ gt
    have F : FnC C.prog C.w C.hB 87 1 [.raw (.ref 155), .str [69, 79, 70], .none, .int pos] (.tok 155 [69, 79, 70] .none pos) := by rw [h1, h2, h3]; exact fn_new k hl bt (.inr rfl) _ _ _
    refine Ex.cons (Ex1.ret (Ev.of fun s σ => methodCall_KW (wpAny_mono (Ev.glob gt' kt rfl s σ) (fun ov s1 q1 => ?_) no)) rfl)
    obtain ⟨r1, k1⟩ := q1
    cases r1
    have σ1 := σ.le k1
    have X1 := KG_in (hF'.trans σ1.base)
    refine method_cls X1 tok_spec_ga (cls_bind X1 (tok_reads (.inl rfl)) tok_find_new (wpAny_call (sm_get (s := { s1 with toks := s1.toks + 1 }) X1 tok_sm (by
      show wpAny _ _ (handedOut (.ref 87)) _ _ _
      refine handed_on rfl ?_
      have σ2 := σ1.le (show Le s1 { s1 with toks := s1.toks + 1 } from ⟨.toks _, Nat.le_succ _⟩)
      refine callWith_K (KG_in hF') keep_new (wpAny_mono ((Evs.cons (p := .raw (.ref 155)) (Ev.name .here) (Evs.cons (p := .str [69, 79, 70]) (Ev.cstr rfl) (Evs.cons (p := .none) Ev.cnone (Evs.cons (p := .int pos) (Ev.name (.there .here)) Evs.nil rfl) rfl) rfl) rfl) _ _ σ2) (fun vs s3 q3 => ?_) no) rfl rfl
      have σ3 := σ2.le q3.2
      have := C.depth
      have := C.units
      exact ⟨KG_in (hF'.trans σ3.base), wpAny_mono (F.fn C.X C.A s3 vs C.handled (by omega) (by omega) C.above σ3.inX σ3.base σ3.toks q3.1) (fun v s4 q4 => ⟨q4.1, ((k1.1.trans (Le0.toks _)).trans q3.2.1).trans q4.2⟩) no⟩))))
  · intro pm cd doc vs h
    obtain ⟨a, b, rfl⟩ := len2 h
    rfl
/-- EOFToken(pos) -/
theorem fn_eof (k : Heap.le (hF w.params) hB) (hl : hB.NoLimit) (bt : GlobIs hB "tuple" (.type "tuple")) (gt : GlobIs hB "Token" (.ref 127)) (pos : Int) : FnC prog w hB 155 3 [.int pos] (.tok 155 [69, 79, 70] .none pos) :=
  make_tok k (.inr rfl) eof_find_new eof_sm (fn_eofnew k hl bt gt pos)
end
end Mine
end
section
open PySem PySem.W PyProof.Rows PySem.Calls
set_option Elab.async false
set_option linter.unusedVariables false
set_option maxRecDepth 100000
namespace Mine
/-- what another activation leaves of the heap: all but its own places X stands -/
structure Kept (X : List Addr) (s s' : Shared) : Prop where
  heap : Heap.leBut X s.heap s'.heap
  toks : s.toks ≤ s'.toks
  inX : ∀ a ∈ X, ∃ o, s'.heap.get? a = some o
def noOwn : EV → Bool
  | .own _ _ => false
  | _ => true
section
variable {C : Cx} {ρ ρ' : Rho}
theorem St.kept {L : Addr} {X : List Addr} {s s' : Shared} (σ : St C ρ s) (hX : C.X = L :: X) (hL : C.env.locals = L) (hn : L ∉ X) (k : Kept X s s') (ho : ∀ x e, (x, e) ∈ ρ → noOwn e = true) : St C ρ s' := by
  obtain ⟨m, hm, hv⟩ := σ.ns
  have hl : L ∈ C.X := by rw [hX]; exact .head _
  refine ⟨fun b o e => k.heap b o (fun q => ?_) (σ.base b o e), Nat.le_trans σ.toks k.toks, fun a ha => ?_, σ.nd, σ.loc, m, ns_at hm (fun o e => k.heap _ o (hL ▸ hn) e), fun y e hy hu => ?_⟩
  · have := C.above b (by rw [hX]; exact .tail _ q)
    rw [this] at e; cases e
  · rw [hX] at ha
    cases ha with
    | head => exact (σ.inX _ hl).imp fun o e => k.heap _ o hn e
    | tail _ h => exact k.inX a h
  · obtain ⟨v, h1, h2⟩ := hv y e hy hu
    refine ⟨v, h1, ?_⟩
    cases e with
    | undef => trivial
    | val p => exact Rp.mono (fun b o hb e => k.heap b o (fun q => hb (by rw [hX]; exact .tail _ q)) e) h2
    | own D l => exact absurd (ho _ _ hy) (by simp [noOwn])
variable {A0 : Around} {R : GenEnd} {Y : Protocol} {n : Nat} {s₀ : Shared} {c : Code} {fs : List Frame} {K : Flow → Sem Fin} {H : Value → Sem Fin}
/-- the generator goes on from here, the names standing so -/
def SgG (C : Cx) (A0 : Around) (R : GenEnd) (Y : Protocol) (n : Nat) (s₀ : Shared) (c : Code) (fs : List Frame) (t : Sem Fin) (ρ : Rho) : Prop :=
  ∀ s, St C ρ s → LeX C.own s₀ s → Seg C.M A0 R Y n s₀ c t fs s
abbrev Sgs (C : Cx) (A0 : Around) (R : GenEnd) (Y : Protocol) (n : Nat) (s₀ : Shared) (c : Code) (fs : List Frame) (K : Flow → Sem Fin) (H : Value → Sem Fin) (ρ : Rho) (ss : List Stmt) : Prop :=
  SgG C A0 R Y n s₀ c fs ((execs ss C.env).wrap K H id id) ρ
def thenK (C : Cx) (K : Flow → Sem Fin) (H : Value → Sem Fin) (rest : List Stmt) (f : Flow) : Sem Fin := match f with | .next => (execs rest C.env).wrap K H id id | f => K f
theorem Sgs.nil (h : SgG C A0 R Y n s₀ c fs (K .next) ρ) : Sgs C A0 R Y n s₀ c fs K H ρ [] := h
theorem execs_cons_K (st : Stmt) (rest : List Stmt) : (execs (st :: rest) C.env).wrap K H id id = (exec st C.env).wrap (thenK C K H rest) H id id := execs_cons_wrap st rest
/-- a statement that gives nothing out -/
theorem Sgs.step {st : Stmt} {rest : List Stmt} (hA : A0.over c fs = C.A) (h : Ex1 C ρ st (fun o => match o with | .next ρ' => Sgs C A0 R Y n s₀ c fs K H ρ' rest | .cont ρ' => SgG C A0 R Y n s₀ c fs (K .cont) ρ' | _ => False)) :
    Sgs C A0 R Y n s₀ c fs K H ρ (st :: rest) := fun s σ k => by
  rw [execs_cons_K]
  refine seg_wrap (hA ▸ wpAny_mono (h s σ) (fun f s' q => ?_) no)
  obtain ⟨o, hQ, hi, k'⟩ := q
  cases o with
  | next ρ' =>
    cases f with
    | next => exact hQ s' hi (k.trans k')
    | _ => exact hi.elim
  | cont ρ' =>
    cases f with
    | cont => exact hQ s' hi (k.trans k')
    | _ => exact hi.elim
  | _ => exact hQ.elim
theorem Sgs.ite {test : Expr} {body orelse rest : List Stmt} {pos : Pos} {b : Bool} (hA : A0.over c fs = C.A) (ht : Te C ρ test b)
    (h1 : b = true → Sgs C A0 R Y n s₀ c fs (thenK C K H rest) H ρ body) (h2 : b = false → Sgs C A0 R Y n s₀ c fs (thenK C K H rest) H ρ orelse) : Sgs C A0 R Y n s₀ c fs K H ρ (.If test body orelse pos :: rest) := fun s σ k => by
  rw [execs_cons_K, exec_If, Sem.bind_eq_wrap', Sem.wrap_wrap]
  refine seg_wrap (wpAny_standAt ?_)
  rw [Sem.bind_eq_wrap', Sem.wrap_wrap]
  refine seg_wrap (hA ▸ wpAny_mono (ht s σ) (fun t s' q => ?_) no)
  obtain ⟨rfl, k'⟩ := q
  cases t with
  | true => exact h1 rfl s' (σ.le k') (k.trans k'.x)
  | false => exact h2 rfl s' (σ.le k') (k.trans k'.x)
theorem Sgs.yield {e : Expr} {yp pos : Pos} {rest : List Stmt} {p : PV} (hA : A0.over c fs = C.A) (hfs : splitAtGen fs = none) (hfg : fs.any Frame.guarded = false) (he : Ev C ρ e p) (hco : C.env.scope.isCoroutine = false)
    (hi : interactive C.env = false) (hy : ∀ v s' kap, Rp C.X s'.heap v p → St C ρ s' → LeX C.own s₀ s' → (∀ s'', St C ρ s'' → LeX C.own s'' s'' → Seg C.M A0 R Y n s'' c ((execs rest C.env).wrap K H id id) fs s'' → kap (.send .none) s'') → Y n s₀ v s' kap) :
    Sgs C A0 R Y (n + 1) s₀ c fs K H ρ (.Expr (.Yield (some e) yp) pos :: rest) := fun s σ k => by
  rw [execs_cons_K]
  refine seg_Expr_Yield hfs rfl hfg (hA ▸ wpAny_mono (he s σ) (fun v s' q kap hk => ?_) no) hco hi
  exact hy v s' kap q.1 (σ.le q.2) (k.trans q.2.x) fun s'' σ'' k'' hs => hk .none s'' hs
end
end Mine
end
section
open PySem PySem.W PyProof.Rows PySem.Calls
set_option Elab.async false
set_option linter.unusedVariables false
set_option maxRecDepth 100000
namespace Mine
section
variable {C : Cx} {ρ ρ' : Rho} {P : Params}
theorem sel_in : excIn (KG P) 71 [.type "Exception", .type "BaseException", .type "object"] "Exception.__new__" = true := by kernel_rfl
theorem sel_parts {K : Frag} {h : Heap} {A : Addr} {bmB : List Value} {newId : String} (X : K.In h) (q : excIn K A bmB newId = true) :
    ∃ bm N nm qn bs hdct sn sub ab col dd k0 k1 k2 k3 k5 mN, h.get? A = some (excClassObj nm qn A N bs bm hdct sn sub ab col dd k0 k1 k2 k3 k5 newId) ∧ h.Ns N mN ∧ mN "__init__" = none ∧ OwnTail h bmB bm := by
  unfold excIn at q
  split at q
  · rename_i dd cd sl ho
    split at q
    · rename_i C' bm k0 k1 k2 k3 n k5 hm hs
      simp only [Bool.and_eq_true, beq_iff_eq, Bool.not_eq_true'] at q
      obtain ⟨⟨⟨⟨⟨rfl, rfl⟩, hdel⟩, ht⟩, hok⟩, hni⟩ := q
      obtain ⟨nm, bs, mro, ns, qn, hd, sn, sub, ab, col, del⟩ := cd
      dsimp only at hm hdel hok hni
      subst hm hdel
      have hsl : sl = #[k0, k1, k2, k3, some (.builtin n), k5] := by
        obtain ⟨l⟩ := sl
        simp only at hs
        rw [hs]
      subst hsl
      exact ⟨bm, ns, nm, qn, bs, hd, sn, sub, ab, col, dd, k0, k1, k2, k3, k5, _, X _ _ ho, .of_isNs (isNs_of_in X hok), nsMap_none_of_in X hok hni, tail_of_in X ht⟩
    · cases q
  · cases q
/-- f"words{x}" -/
theorem Ev.fstr {x xn : Str} {k : Nat} {p1 p2 p3 pos : Pos} {i : Int} (hi : Ev C ρ (.Name xn p2) (.int i)) (h0 : 0 ≤ i) (h1 : i < 1000000) (hx : x.length ≤ 1000) :
    ∃ l, Ev C ρ (.JoinedStr [.Constant (.str x) k p1, .FormattedValue (.Name xn p2) (-1) none p3] pos) (.str l) := by
  have hl : i.natAbs.log2 < 1920 := by
    have : i.natAbs < 2 ^ 20 := by omega
    have h := Nat.log2_lt (n := i.natAbs) (k := 20)
    by_cases z : i.natAbs = 0
    · rw [z]; decide
    · have := (h z).mpr this
      omega
  refine ⟨((Str.empty ++ x) ++ Str.ofString (toString i)).cps.toList, Ev.of fun s σ => ?_⟩
  have hfit := PySem.int_text_length_le (k := 1920) (by decide) hl
  have hz : (Str.empty ++ x).length ≤ 1000 := by rw [strLen_append]; have : Str.empty.length = 0 := rfl; omega
  refine JoinedStr_many (joinParts_cons (wpAny_Constant_str ⟨by rw [sizeLine_eq]; omega, ?_⟩))
  refine joinParts_cons (FormattedValue_plain (wpAny_mono (hi _ (σ.le ⟨.toks _, Nat.le_succ _⟩)) (fun v s1 q1 => ?_) no))
  obtain ⟨r1, k1⟩ := q1
  cases r1 with
  | int _ t =>
  refine formatField_int_small hl ?_
  have hz2 : ((Str.empty ++ x) ++ Str.ofString (toString i)).length ≤ sizeLine := by
    rw [strLen_append, sizeLine_eq]
    rw [PySem.ofString_length]
    omega
  refine ⟨hz2, joinParts_nil ⟨?_, ?_⟩ hz2⟩
  · have := Rp.str (X := C.X) (h := s1.heap) ((Str.empty ++ x) ++ Str.ofString (toString i)).cps.toList (s1.toks + 1 + 1)
    rw [← S_of] at this
    exact this
  · exact (Le0.toks _).trans (k1.1.trans (Le0.toks _))
/-- raise SelectorSyntaxError(text) -/
theorem raise_sel {arg : Expr} {np cpos pos : Pos} {p : PV} {s : Shared} {Q : Flow → Shared → Prop} (hF' : Heap.le (hF C.w.params) C.hB) (g : GlobIs C.hB "SelectorSyntaxError" (.ref 71)) (hx : C.env.kindOf "SelectorSyntaxError" = some .globalImplicit)
    (ha : Ev C ρ arg p) (he : starEach [arg] C.env = [(false, eval arg C.env)]) (σ : St C ρ s) :
    wpAny C.M C.A (exec (.Raise (some (.Call (.Name "SelectorSyntaxError" np) [arg] [] cpos)) none pos) C.env) Q
      (fun e s' => ∃ a vs s₂ h', e = .ref a ∧ Le s s₂ ∧ s' = { s₂ with heap := h' } ∧ Heap.MadeExcOf s₂.heap h' a (.ref 71) vs) s := by
  obtain ⟨bm, N, nm, qn, bs, hdct, sn, sub, ab, col, dd, k0, k1, k2, k3, k5, mN, hC, hN, hni, T⟩ := sel_parts (KG_in (hF'.trans σ.base)) sel_in
  have hbase : bm.contains (.type "BaseException") = true := T.hasType (by decide +kernel)
  have FE := F.excBase_Exception
  refine wpAny_Raise_call_subU (C := 71) (nm := nm) (q := qn) (N := N) (bs := bs) (bm := bm) (hdct := hdct) (sn := sn) (sub := sub) (ab := ab) (col := col) (dd := dd) (k0 := k0) (k1 := k1) (k2 := k2) (k3 := k3) (k5 := k5) (mN := mN) FE (by decide +kernel) FE hbase C.handled (by rw [he]; rfl) hni (wpAny_mono (Ev.glob g hx (by decide +kernel) s σ) (fun f s1 q1 => ?_) no)
  obtain ⟨r1, k1'⟩ := q1
  cases r1
  refine ⟨rfl, ?_⟩
  have h1 := Evs.cons ha Evs.nil (by rw [he]; rfl) s1 cpos (σ.le k1')
  rw [he] at h1 ⊢
  refine evalArgs_plain (wpAny_mono h1 (fun vs s2 q2 => ?_) no)
  have k2' := k1'.trans q2.2
  refine ⟨rfl, ?_, k2'.heap _ _ hC, hN.keeps k2'.heap, T.keeps k2'.heap, fun h' e hm => ⟨e, vs, s2, h', rfl, k2', rfl, hm⟩⟩
  have := q2.1.length
  show vs.length ≤ sizeLine
  rw [this, sizeLine_eq]
  show 1 ≤ 16777216
  omega
end
end Mine
end
section
open PySem PySem.W PyProof.Rows PySem.Calls
set_option Elab.async false
set_option linter.unusedVariables false
set_option maxRecDepth 100000
namespace Mine
/-- the parts of a generator's road: its end, its error's end, the loop's end, the loop's error -/
def Kf : Flow → Sem Fin := fun f => .pure (.done (.ret (match f with | .ret v => v | _ => .none)))
def Hf (env : Env) : Value → Sem Fin := fun e => (leaving env e).wrap (fun _ => .raise e) .raise id id
def Hw (env : Env) : Value → Sem Fin := fun e => (do noteFrame e env; theTreesLotGoes e : Sem Unit).wrap (fun _ => .raise e) .raise id id
def Kw (test : Expr) (body : List Stmt) (env : Env) : Flow → Sem Fin := fun f => match f with
  | .next | .cont => .pure (.again (.whileLoop test body [] env))
  | .brk => .pure (.done .next)
  | .ret v => .pure (.done (.ret v))
def backK (env : Env) (K : Flow → Sem Fin) (H : Value → Sem Fin) : Result → Sem Fin := fun r => ((match r with | .ok f => (.pure f : Sem Flow) | .error e => .raise e).onRaise fun (x : Value) => do
  if (← field x 1) == Value.none then unsupported "frame.own-activation:exception-without-traceback"
  setFlight x env.frame).wrap K H id id
def frW (gbody : List Stmt) (env : Env) (K : Flow → Sem Fin) (H : Value → Sem Fin) (p : Pos) : List Frame := [.ret (backK env K H) none false [] (.func gbody env) p []]
def UpBut (own : List Addr) (h h' : Heap) : Prop := ∀ b o, b ∉ own → h.get? b = some o → (∀ vs, o.data ≠ .fields vs) → ∃ sl, h'.get? b = some { o with slots := sl }
section
variable {M : Model} {A : Around} {E : Value → Shared → Prop} {s : Shared}
theorem note_firstW {base h : Heap} {env : Env} {outer : List Env} {L e : Addr} {cls : Value} {args : List Value} {Q : Unit → Shared → Prop}
    (hfr : A.frames = some (env :: outer)) (hf : env.frame = some L) (hkb : base.StaysIn h) (hl : h.FunFrames base (env :: outer)) (hx : Heap.MadeExcOf h s.heap e cls args)
    (hQ : ∀ h' t, Heap.HeldW base (env :: outer) e cls (.ref t) L h' → s.heap.UpToSlots h' → Q () { s with heap := h' }) : wpAny M A (noteFrame (.ref e) env) Q E s := by
  obtain ⟨t, he, htn, ht⟩ := hx.there
  have fresh : ∀ b, h.get? b = none → base.get? b = none := fun b hb => by
    cases hq : base.get? b with
    | none => rfl
    | some o' => have := hkb b o' hq; rw [hb] at this; cases this
  unfold noteFrame
  simp only [hf]
  refine wpAny_bind (wpAny_field he rfl (x := .none) rfl ?_)
  rw [if_neg (by decide)]
  refine wpAny_entryW (a0 := .ref t) hfr (hl.of_keeps fun b o hb _ => ⟨o, hx.keeps b o hb, rfl⟩) hf he (fun b o hb => hx.keeps b o (hkb b o hb)) (fresh e hx.new) rfl (by show 1 < 6; omega) rfl fun h' hN => ?_
  obtain ⟨k1, k2, k3, k4⟩ := hN
  exact hQ h' t ⟨k1, fresh e hx.new, k2, k3⟩ k4
theorem setFlight_heldW {base : Heap} {l : List Env} {e L : Addr} {cls a0 : Value} {Q : Unit → Shared → Prop} (hh : Heap.HeldW base l e cls a0 L s.heap)
    (hQ : ∀ h', Heap.HeldW base l e cls a0 L h' → s.heap.UpToSlots h' → Q () { s with heap := h' }) :
    wpAny M A (do if (← field (.ref e) 1) == Value.none then unsupported "frame.own-activation:exception-without-traceback"
                  setFlight (.ref e) (some L)) Q E s := by
  obtain ⟨hkb, hen, hl, oe, vs, T, oT, ts, he, hcls, hd, h1, hnT, hTe, hT, hdT, h3⟩ := hh
  have hsz3 : 3 < ts.size := (Array.getElem?_eq_some_iff.mp h3).1
  have other : ∀ b, b ≠ T → (s.heap.update T (Obj.mapFields (·.setIfInBounds 3 ((some L : Option Addr).elim Value.none fun f => rawInt f)))).get? b = s.heap.get? b :=
    fun b hb => Heap.get?_update_other _ _ (Ne.symm hb)
  have noRecord : ∀ b o, s.heap.get? b = some o → (∀ vs, o.data ≠ .fields vs) → b ≠ T := fun b o hb hnf q => by
    rw [q, hT] at hb; injection hb with hb; subst hb; exact hnf ts hdT
  refine wpAny_bind (wpAny_field he hd h1 ?_)
  rw [if_neg (by simp)]
  unfold setFlight
  refine wpAny_bind (wpAny_field he hd h1 ?_)
  rw [if_pos (show (Value.ref T != Value.none) = true from by simp)]
  refine wpAny_setField hT hdT hsz3 (hQ _ ⟨fun b o hbo => (other b fun q => by rw [q, hnT] at hbo; cases hbo).trans (hkb b o hbo), hen,
    hl.of_keeps fun b o hb hnf => ⟨o, (other b (noRecord b o hb hnf)).trans hb, rfl⟩, ?_⟩ fun b o hb hnf => ⟨o.slots, (other b (noRecord b o hb hnf)).trans hb⟩)
  exact ⟨oe, vs, T, _, _, (other e (Ne.symm hTe)).trans he, hcls, hd, h1, hnT, hTe, Heap.get?_update_self _ hT (Obj.isFreed_of_fields (Obj.data_mapFields hdT _)), Obj.data_mapFields hdT _, by simp [hsz3]⟩
theorem leaves_heldW {base : Heap} {env : Env} {outer : List Env} {L e : Addr} {cls a0 : Value} {Q : Unit → Shared → Prop} (hf : env.frame = some L)
    (hh : Heap.HeldW base (env :: outer) e cls a0 L s.heap) (hQ : ∀ h', Heap.FlyingW base outer e cls a0 h' → s.heap.UpToSlots h' → Q () { s with heap := h' }) : wpAny M A (leaving env (.ref e)) Q E s := by
  unfold leaving
  refine wpAny_bind (wpAny_noteFrame_againW hf hh.2.2.2 ?_)
  refine wpAny_landsW hh fun h' hfl hu => ?_
  obtain ⟨k1, k2, ⟨_, _, k3⟩, k4⟩ := hfl
  exact hQ h' ⟨k1, k2, k3, k4⟩ hu
end
section
variable {C : Cx} {A0 : Around} {R : GenEnd} {Y : Protocol} {n : Nat} {s₀ s : Shared} {gbody body : List Stmt} {test : Expr} {p : Pos} {K : Flow → Sem Fin} {outer : List Env} {L : Addr}
/-- the error goes out of the loop and out of the generator -/
theorem gen_error {h : Heap} {e : Addr} {cls : Value} {args : List Value} (hfr : A0.frames = some outer) (hf : C.env.frame = some L) (hkb : C.hB.StaysIn h) (hl : h.FunFrames C.hB (C.env :: outer)) (hx : Heap.MadeExcOf h s.heap e cls args)
    (hR : ∀ h' t, Heap.FlyingW C.hB outer e cls (.ref t) h' → s.heap.UpToSlots h' → R n s₀ (.error (.ref e)) { s with heap := h' }) :
    Seg C.M A0 R Y n s₀ (.whileLoop test body [] C.env) (Hw C.env (.ref e)) (frW gbody C.env K (Hf C.env) p) s := by
  have f1 : (A0.over (.whileLoop test body [] C.env) (frW gbody C.env K (Hf C.env) p)).frames = some (C.env :: outer) := by
    unfold Around.over
    dsimp only
    rw [hfr]; rfl
  have f2 : (A0.over (.func gbody C.env) []).frames = some (C.env :: outer) := by
    unfold Around.over
    dsimp only
    rw [hfr]; rfl
  refine seg_wrap (wpAny_bind (note_firstW f1 hf hkb hl hx fun h1 t hh u1 => wpAny_theTreesLotGoes ?_))
  refine seg_leaf (.error (.ref e)) ?_
  show Seg _ _ _ _ _ _ _ (((Sem.raise (Value.ref e) : Sem Flow).onRaise _).wrap K (Hf C.env) id id) _ _
  rw [Sem.onRaise_eq_wrap]
  show Seg _ _ _ _ _ _ _ (Sem.wrap K (Hf C.env) id id (Sem.bind _ _)) _ _
  rw [Sem.bind_eq_wrap, Sem.wrap_wrap, hf]
  refine seg_wrap (setFlight_heldW (s := { s with heap := h1 }) hh fun h2 hh2 u2 => ?_)
  show Seg _ _ _ _ _ _ _ (Hf C.env (.ref e)) _ _
  refine seg_wrap (leaves_heldW (s := { s with heap := h2 }) hf hh2 fun h3 hfl u3 => ?_)
  exact seg_end (.error (.ref e)) (hR h3 t hfl ((u1.trans u2).trans u3))
end
end Mine
end
section
open PySem PySem.W PyProof.Rows PySem.Calls
set_option Elab.async false
set_option linter.unusedVariables false
set_option maxRecDepth 100000
namespace Mine
section
variable {C : Cx} {ρ : Rho}
theorem Ex.seq {st : Stmt} {rest : List Stmt} {ρ' : Rho} {Q : Out → Prop} (h : Ex1 C ρ st (fun o => o = .next ρ')) (hr : Ex C ρ' rest Q) : Ex C ρ (st :: rest) Q :=
  Ex.cons (fun s σ => wpAny_mono (h s σ) (fun f s1 q => let ⟨o, a, b, c⟩ := q; ⟨o, by subst a; exact hr, b, c⟩) fun _ _ x => x)
end
def isHex (c : Nat) : Bool := decide (c ∈ sixteen)
def hexDigit (c : Nat) : Nat := if c ≤ 57 then c - 48 else if c ≤ 70 then c - 55 else c - 87
def hexVal (l : List Nat) : Nat := l.foldl (fun a c => a * 16 + hexDigit c) 0
def hexRun (t : List Nat) (i : Nat) : List Nat := ((t.drop (i + 1)).take 6).takeWhile isHex
def inn (t : List Nat) (i : Nat) (l : List Nat) : Bool := decide (i < t.length) && decide (t.getD i 0 ∈ l)
def fixed (c : Nat) : Nat := if c = 0 ∨ c > 1114111 ∨ (55296 ≤ c ∧ c ≤ 57343) then 65533 else c
/-- behind the hex digits: one white sign, or two -/
def white (t : List Nat) (j : Nat) : Nat :=
  let j1 := if slc t (some j) (some (j + 2 : Int)) = [13, 10] then j + 1 else j
  if inn t j1 [32, 9, 10, 13, 12] = true then j1 + 1 else j1
def escape (t : List Nat) (i : Nat) : List Nat × Nat :=
  let h := hexRun t i
  if h = [] then (if i + 1 < t.length ∧ t.getD (i + 1) 0 ∉ [10, 13, 12] then ([t.getD (i + 1) 0], i + 2) else ([], i))
  else ([fixed (hexVal h)], white t (i + 1 + h.length))

theorem tw_len {α : Type} (p : α → Bool) (l : List α) : (l.takeWhile p).length ≤ l.length := (List.takeWhile_sublist p).length_le
theorem hexRun_len (t : List Nat) (i : Nat) : (hexRun t i).length ≤ 6 := by
  unfold hexRun
  have := tw_len isHex ((t.drop (i + 1)).take 6)
  have h2 : ((t.drop (i + 1)).take 6).length ≤ 6 := by rw [List.length_take]; omega
  omega
theorem lower_hex : ∀ c ∈ sixteen, Builtin.Str.occurrences (S [48, 49, 50, 51, 52, 53, 54, 55, 56, 57, 97, 98, 99, 100, 101, 102]) (S (lowerL [c])) 0 (S [48, 49, 50, 51, 52, 53, 54, 55, 56, 57, 97, 98, 99, 100, 101, 102]).length 1 = [hexDigit c] := by decide +kernel
theorem hexDigit_lt : ∀ c ∈ sixteen, hexDigit c < 16 := by decide +kernel
theorem tw_get {α : Type} {p : α → Bool} {d : α} : ∀ {l : List α} {k : Nat}, k < (l.takeWhile p).length → (l.takeWhile p).getD k d = l.getD k d ∧ p (l.getD k d) = true
  | a :: l, k, h => by
    cases ha : p a with
    | false => simp [List.takeWhile_cons, ha] at h
    | true =>
      rw [List.takeWhile_cons, if_pos ha] at h ⊢
      cases k with
      | zero => simp [ha]
      | succ k => simpa using tw_get (p := p) (d := d) (l := l) (k := k) (by simpa using h)
  | [], _, h => by simp at h
theorem run_step {α : Type} {p : α → Bool} {d : α} : ∀ {l : List α} {k : Nat}, k ≤ (l.takeWhile p).length → (k < (l.takeWhile p).length ↔ k < l.length ∧ p (l.getD k d) = true)
  | [], k, h => by simp
  | a :: l, k, h => by
    cases ha : p a with
    | false =>
      rw [List.takeWhile_cons, ha] at h ⊢
      have : k = 0 := by simpa using h
      subst this
      simp [ha]
    | true =>
      rw [List.takeWhile_cons, if_pos ha] at h ⊢
      cases k with
      | zero => simp [ha]
      | succ k => simpa using run_step (p := p) (d := d) (l := l) (k := k) (by simpa using h)
theorem hex_step {t : List Nat} {i k : Nat} (h : k ≤ (hexRun t i).length) : (k < (hexRun t i).length ↔ i + 1 + k < t.length ∧ k < 6 ∧ t.getD (i + 1 + k) 0 ∈ sixteen) ∧ (k < (hexRun t i).length → (hexRun t i).getD k 0 = t.getD (i + 1 + k) 0) := by
  have e : k < 6 → ((t.drop (i + 1)).take 6).getD k 0 = t.getD (i + 1 + k) 0 := fun hk => by
    rw [List.getD_eq_getElem?_getD, List.getD_eq_getElem?_getD, List.getElem?_take_of_lt hk, List.getElem?_drop]
  have hl : k < ((t.drop (i + 1)).take 6).length ↔ i + 1 + k < t.length ∧ k < 6 := by rw [List.length_take, List.length_drop]; omega
  constructor
  · rw [hexRun, run_step (d := 0) h, hl]
    constructor
    · rintro ⟨⟨h1, h2⟩, h3⟩
      rw [e h2] at h3
      exact ⟨h1, h2, of_decide_eq_true h3⟩
    · rintro ⟨h1, h2, h3⟩
      exact ⟨⟨h1, h2⟩, by rw [e h2]; exact decide_eq_true h3⟩
  · intro hk
    have := tw_get (p := isHex) (d := 0) hk
    have h6 := hexRun_len t i
    rw [← e (by omega)]
    exact this.1
theorem hexVal_snoc (l : List Nat) (c : Nat) : hexVal (l ++ [c]) = hexVal l * 16 + hexDigit c := by simp [hexVal]
theorem take_snoc {l : List Nat} {k : Nat} (h : k < l.length) : l.take (k + 1) = l.take k ++ [l.getD k 0] := by
  rw [List.take_add_one, List.getD_eq_getElem?_getD, List.getElem?_eq_getElem h]
  rfl
theorem hexRun_mem {t : List Nat} {i c : Nat} (h : c ∈ hexRun t i) : c ∈ sixteen := by
  unfold hexRun at h
  generalize (t.drop (i + 1)).take 6 = u at h
  induction u with
  | nil => simp at h
  | cons a u ih =>
    rw [List.takeWhile_cons] at h
    split at h
    · rename_i ha
      cases h with
      | head => exact of_decide_eq_true ha
      | tail _ h => exact ih h
    · simp at h
theorem hexVal_lt : ∀ (l : List Nat), (∀ c ∈ l, c ∈ sixteen) → ∀ a, l.foldl (fun a c => a * 16 + hexDigit c) a < (a + 1) * 16 ^ l.length
  | [], _, a => by simp
  | c :: l, h, a => by
    have h1 := hexDigit_lt c (h c (.head _))
    have h2 := hexVal_lt l (fun x hx => h x (.tail _ hx)) (a * 16 + hexDigit c)
    rw [List.foldl_cons, List.length_cons, Nat.pow_succ]
    refine Nat.lt_of_lt_of_le h2 ?_
    rw [Nat.mul_comm (16 ^ l.length) 16, ← Nat.mul_assoc]
    exact Nat.mul_le_mul_right _ (by omega)

section
variable {C : Cx} {ρ : Rho}
/-- j < len(text) and text[j] in l -/
theorem Ev.cast {e : Expr} {p q : PV} (h : Ev C ρ e p) (k : p = q) : Ev C ρ e q := k ▸ h
theorem Te.cast {e : Expr} {p q : Bool} (h : Te C ρ e p) (k : p = q) : Te C ρ e q := k ▸ h
theorem fit2 {p q : PV} : [p, q].length ≤ sizeLine := by rw [sizeLine_eq]; show 2 ≤ 16777216; omega
theorem fit3 {p q r : PV} : [p, q, r].length ≤ sizeLine := by rw [sizeLine_eq]; show 3 ≤ 16777216; omega
theorem Te.within {v v2 j j2 L : Expr} {x : Str} {np p1 p2 p3 p4 p5 : Pos} {t l : List Nat} {k : Nat} (hf : Ev C ρ (.Name x np) (.raw (.builtin "len"))) (hv : Ev C ρ v (.str t)) (hv2 : Ev C ρ v2 (.str t)) (hj : Ev C ρ j (.int k)) (hj2 : Ev C ρ j2 (.int k)) (hL : Ev C ρ L (.str l)) (ht : t.length < 1000000)
    (he : starEach [v] C.env = (false, eval v C.env) :: starEach [] C.env) (hs : ∀ o u, subscripted j2 false o u = operate [o, u] (getItem o u)) (hm : behindInMarks .In L = false) (hm2 : behindInMarks .Lt (.Call (.Name x np) [v] [] p1) = false) :
    Te C ρ (.BoolOp .And [.Compare j [.Lt] [.Call (.Name x np) [v] [] p1] p2, .Compare (.Subscript v2 j2 p3) [.In] [L] p4] p5) (inn t k l) := by
  have := Te.and (pos := p5) (Tes.and_cons (Te.lt (pos := p2) hj (Ev.len (pos := p1) hf hv ht he) hm2) fun h => Tes.and_cons (Te.in_str (pos := p4) (Ev.idxN (pos := p3) hv2 hj2 (by have := of_decide_eq_true h; omega) ht hs) hL hm) fun _ => Tes.and_nil)
  rw [show inn t k l = (decide ((k : Int) < t.length) && (decide (t.getD k 0 ∈ l) && true)) by simp [inn]]
  exact this
end
theorem escapes {prog : Program} {w : World} {hB : Heap} (B : Base prog w hB) (t : List Nat) (i : Nat) (ht : t.length < 1000) : Can prog w hB "_law_escape" 1 [.str t, .int i] (.tup [.str (escape t i).1, .int (escape t i).2]) :=
  Can.of B 7 ["j", "code"] (fun C B h1 h2 h3 hs hn => by
    have kl : C.env.kindOf "len" = some .globalImplicit := kindG hs (by decide +kernel)
    have kc : C.env.kindOf "chr" = some .globalImplicit := kindG hs (by decide +kernel)
    have k6 : C.env.kindOf "_law_sixteen" = some .globalImplicit := kindG hs (by decide +kernel)
    obtain ⟨t6, g6⟩ := B.six
    conv => arg 3; whnf
    refine Ex.seq (ρ' := [("text", .val (.str t)), ("i", .val (.int i)), ("j", .val (.int (i + 1 : Nat))), ("code", .val (.int (0 : Nat)))]) (Ex1.assign2 (Evs.cons (Ev.add_int (Ev.name (.there .here)) Ev.cint) (Evs.cons Ev.cint Evs.nil rfl) rfl) (.there (.there (.there .here))) (.there (.there .here)) rfl rfl ?_) ?_
    · rw [swap_of hs]; rfl
    refine Ex.seq (ρ' := [("text", .val (.str t)), ("i", .val (.int i)), ("j", .val (.int (i + 1 + (hexRun t i).length : Nat))), ("code", .val (.int (hexVal (hexRun t i))))])
      (Ex1.while (fun n ρ => ∃ k : Nat, k ≤ (hexRun t i).length ∧ n = (hexRun t i).length - k ∧ ρ = ([("text", .val (.str t)), ("i", .val (.int i)), ("j", .val (.int (i + 1 + k : Nat))), ("code", .val (.int (hexVal ((hexRun t i).take k))))] : Rho)) (hexRun t i).length ⟨0, by omega, rfl, rfl⟩ ?_) ?_
    · rintro n ρ1 ⟨k, hk, rfl, rfl⟩
      have st := hex_step hk
      refine ⟨_, Te.and (Tes.and_cons (Te.lt (Ev.name (.there (.there .here))) (Ev.len (Ev.glob (B.bi ("len", _) (by decide +kernel)) kl rfl) (Ev.name .here) (by omega) rfl) rfl) fun h => Tes.and_cons (Te.lt (Ev.name (.there (.there .here))) (Ev.add_int (Ev.name (.there .here)) Ev.cint) rfl) fun _ => Tes.and_cons (c := true)
        (Te.in_str (Ev.idxN (Ev.name .here) (Ev.name (.there (.there .here))) (by have := of_decide_eq_true h; omega) (by omega) (fun _ _ => rfl)) (Ev.globP g6 (.str _ _) k6 rfl) rfl) fun _ => Tes.and_nil), ?_, ?_⟩
      · intro h
        simp only [Bool.and_eq_true, decide_eq_true_eq, Bool.and_true] at h
        obtain ⟨h1, h2, h3⟩ := h
        have hk' : k < (hexRun t i).length := st.1.mpr ⟨by omega, by omega, h3⟩
        refine Ex.cons (Ex1.assign2 (p := .int (hexVal ((hexRun t i).take (k + 1)) : Nat)) (q := .int (i + 1 + (k + 1) : Nat)) (Evs.cons ?_ (Evs.cons (Ev.add_int (b := 1) (Ev.name (.there (.there .here))) Ev.cint) Evs.nil rfl) rfl) (.there (.there .here)) (.there (.there (.there .here))) ?_ rfl ?_)
        · rw [take_snoc hk', hexVal_snoc, st.2 hk']
          exact Ev.add_int (a := (hexVal ((hexRun t i).take k) * 16 : Nat)) (Ev.mul_int (b := 16) (Ev.name (.there (.there (.there .here)))) Ev.cint (PySem.IntMulOk.of_right (by decide))) (Ev.index (Ev.cstr rfl) (Ev.lower (Ev.idxN (Ev.name .here) (Ev.name (.there (.there .here))) (by omega) (by omega) (fun _ _ => rfl)) (by show 1 ≤ 5592405; omega) rfl rfl) (lower_hex _ h3) rfl rfl rfl)
        · exact Ex.nil ⟨_, by omega, k + 1, hk', rfl, rfl⟩
        · rw [swap_of hs]; rfl
      · intro h
        have : k = (hexRun t i).length := by
          rcases Nat.lt_or_ge k (hexRun t i).length with q | q
          · obtain ⟨h1, h2, h3⟩ := st.1.mp q
            simp only [h3, decide_true, Bool.and_true, Bool.and_eq_false_iff, decide_eq_false_iff_not] at h
            omega
          · omega
        subst this
        rw [List.take_length]
    have hf : ∀ ρ pos, Ev C ρ (.Name "len" pos) (.raw (.builtin "len")) := fun ρ pos => Ev.glob (B.bi ("len", _) (by decide +kernel)) kl rfl
    refine Ex.cons (Ex1.if (Te.eq_int (Ev.name (.there (.there .here))) (Ev.add_int (b := 1) (Ev.name (.there .here)) Ev.cint) rfl) (fun h => ?_) fun h => Ex.nil ?_)
    · have h0 : (hexRun t i) = [] := by
        have := of_decide_eq_true h
        exact List.length_eq_zero_iff.mp (by omega)
      have e1 : i + 1 + (hexRun t i).length = i + 1 := by rw [h0]; rfl
      rw [e1]
      refine Ex.cons (Ex1.ret (Ev.ifexp (Te.and (Tes.and_cons (Te.lt (Ev.name (.there (.there .here))) (Ev.len (hf _ _) (Ev.name .here) (by omega) rfl) rfl) fun h => Tes.and_cons
        (Te.notIn_str (Ev.idxN (Ev.name .here) (Ev.name (.there (.there .here))) (by have := of_decide_eq_true h; omega) (by omega) (fun _ _ => rfl)) (Ev.cstr rfl) rfl) fun _ => Tes.and_nil))
        (fun h => Ev.tuple (Evs.cons (Ev.idxN (Ev.name .here) (Ev.name (.there (.there .here))) (by simp only [Bool.and_eq_true, decide_eq_true_eq] at h; omega) (by omega) (fun _ _ => rfl)) (Evs.cons (Ev.add_int (b := 1) (Ev.name (.there (.there .here))) Ev.cint) Evs.nil rfl) rfl) fit2)
        (fun h => Ev.tuple (Evs.cons (Ev.cstr rfl) (Evs.cons (Ev.name (.there .here)) Evs.nil rfl) rfl) fit2)) ?_)
      show Out.ret _ = _
      unfold escape
      rw [h0]
      simp only [if_true, Bool.and_true, Bool.and_eq_true, decide_eq_true_eq, Bool.not_eq_true', decide_eq_false_iff_not]
      by_cases hc : i + 1 < t.length ∧ t.getD (i + 1) 0 ∉ [10, 13, 12]
      · rw [if_pos hc, if_pos ⟨by omega, hc.2⟩]
        rfl
      · rw [if_neg hc, if_neg (fun q => hc ⟨by omega, q.2⟩)]; rfl
    · have h0 : (hexRun t i) ≠ [] := fun e => by rw [e] at h; simp at h
      generalize hj : i + 1 + (hexRun t i).length = j
      have he : escape t i = ([fixed (hexVal (hexRun t i))], white t j) := by unfold escape; rw [if_neg h0, hj]
      have hlt : hexVal (hexRun t i) < 16 ^ 6 := Nat.lt_of_lt_of_le (hexVal_lt _ (fun c => hexRun_mem) 0) (by rw [Nat.zero_add, Nat.one_mul]; exact Nat.pow_le_pow_right (by decide) (hexRun_len t i))
      generalize hexVal (hexRun t i) = c at he hlt ⊢
      let j1 := if slc t (some j) (some (j + 2 : Int)) = [13, 10] then j + 1 else j
      have hj2 : white t j = if inn t j1 [32, 9, 10, 13, 12] = true then j1 + 1 else j1 := rfl
      refine Ex.seq (ρ' := [("text", .val (.str t)), ("i", .val (.int i)), ("j", .val (.int j1)), ("code", .val (.int c))]) (Ex1.if (Te.eq_str (Ev.slice (a := some j) (b := some (j + 2 : Int)) (Ev.name .here) (Ev.name (.there (.there .here))) (Ev.add_int (b := 2) (Ev.name (.there (.there .here))) Ev.cint) (by rw [sizeLine_eq]; omega) (fun _ _ => rfl)) (Ev.cstr (l := [13, 10]) rfl) rfl)
        (fun h => Ex.cons (Ex1.augInt (.there (.there .here)) (Ev.cint) (.there (.there .here)) (Ex.nil ?_))) (fun h => Ex.nil ?_)) ?_
      · have : j1 = j + 1 := if_pos (of_decide_eq_true h)
        rw [this]; rfl
      · have : j1 = j := if_neg (of_decide_eq_false h)
        rw [this]
      clear_value j1
      refine Ex.seq (ρ' := [("text", .val (.str t)), ("i", .val (.int i)), ("j", .val (.int (white t j))), ("code", .val (.int c))]) (Ex1.if (Te.within (k := j1) (hf _ _) (Ev.name .here) (Ev.name .here) (Ev.name (.there (.there .here))) (Ev.name (.there (.there .here))) (Ev.cstr (l := [32, 9, 10, 13, 12]) rfl) (by omega) rfl (fun _ _ => rfl) rfl rfl)
        (fun h => Ex.cons (Ex1.augInt (.there (.there .here)) (Ev.cint) (.there (.there .here)) (Ex.nil ?_))) (fun h => Ex.nil ?_)) ?_
      · rw [hj2, if_pos h]; rfl
      · rw [hj2, if_neg (by rw [h]; exact Bool.false_ne_true)]
      rw [he]
      refine Ex.seq (ρ' := [("text", .val (.str t)), ("i", .val (.int i)), ("j", .val (.int (white t j))), ("code", .val (.int (fixed c)))]) (Ex1.if (Te.or (Tes.or_cons (Te.eq_int (Ev.name (.there (.there (.there .here)))) Ev.cint rfl) fun _ => Tes.or_cons (Te.gt (Ev.name (.there (.there (.there .here)))) Ev.cint rfl) fun _ => Tes.or_cons (Te.chain Ev.cint (Ev.name (.there (.there (.there .here)))) Ev.cint rfl) fun _ => Tes.or_nil))
        (fun h => Ex.cons (Ex1.assign (Ev.cint) (.there (.there (.there .here))) (Ex.nil ?_) rfl)) (fun h => Ex.nil ?_)) ?_
      · have : fixed c = 65533 := if_pos (by simp only [Bool.or_eq_true, decide_eq_true_eq, Bool.and_eq_true, Bool.or_false] at h; omega)
        rw [this]; rfl
      · have : fixed c = c := if_neg (by simp only [Bool.or_eq_false_iff, decide_eq_false_iff_not, Bool.and_eq_false_iff] at h; omega)
        rw [this]
      refine Ex.cons (Ex1.ret (Ev.tuple (Evs.cons (Ev.chr (Ev.glob (B.bi ("chr", _) (by decide +kernel)) kc rfl) (Ev.name (.there (.there (.there .here)))) (by omega) ?_ rfl) (Evs.cons (Ev.name (.there (.there .here))) Evs.nil rfl) rfl) fit2) ?_)
      · unfold fixed; split <;> omega
      · rfl)
end Mine
end
section
open PySem PySem.W PyProof.Rows PySem.Calls
set_option Elab.async false
set_option linter.unusedVariables false
set_option linter.unusedSimpArgs false
set_option maxRecDepth 100000
namespace Mine

theorem white_ge (t : List Nat) (j : Nat) : j ≤ white t j := by unfold white; dsimp only; split <;> split <;> omega
theorem escape_len (t : List Nat) (i : Nat) : (escape t i).1.length ≤ 1 := by unfold escape; dsimp only; split; split; all_goals simp
theorem escape_ge (t : List Nat) (i : Nat) : (escape t i).2 = i ∨ i < (escape t i).2 := by
  unfold escape
  dsimp only
  split
  · split
    · right; show i < i + 2; omega
    · left; rfl
  · right
    have := white_ge t (i + 1 + (hexRun t i).length)
    show i < white t (i + 1 + (hexRun t i).length)
    omega

def nameSign (c : Nat) : Bool := decide (c > 127) || decide (c ∈ [45, 95]) || Txt.isalnum (S [c])
def name (t : List Nat) : Nat → List Nat → Nat → List Nat × Nat
  | 0, said, i => (said, i)
  | n + 1, said, i =>
    if i < t.length then
      if t.getD i 0 = 92 then
        if (escape t i).2 = i then (said, i) else name t n (said ++ (escape t i).1) (escape t i).2
      else if nameSign (t.getD i 0) = true then name t n (said ++ [t.getD i 0]) (i + 1) else (said, i)
    else (said, i)
theorem name_fuel (t : List Nat) : ∀ n m said i, t.length - i ≤ n → t.length - i ≤ m → name t n said i = name t m said i := by
  intro n
  induction n with
  | zero =>
    intro m said i h1 h2
    cases m with
    | zero => rfl
    | succ m => unfold name; rw [if_neg (by omega)]
  | succ n ih =>
    intro m said i h1 h2
    cases m with
    | zero => unfold name; rw [if_neg (by omega)]
    | succ m =>
      unfold name
      split
      · split
        · split
          · rfl
          · have := escape_ge t i
            exact ih m _ _ (by omega) (by omega)
        · split
          · exact ih m _ _ (by omega) (by omega)
          · rfl
      · rfl

theorem names {prog : Program} {w : World} {hB : Heap} (B : Base prog w hB) (t : List Nat) (i : Nat) (ht : t.length < 1000) (hi : i ≤ t.length) : Can prog w hB "_law_name" 2 [.str t, .int i] (.tup [.str (name t (t.length - i) [] i).1, .int (name t (t.length - i) [] i).2]) :=
  Can.of B 8 ["said", "sign", "j"] (fun C B h1 h2 h3 hs hn => by
    have kl : C.env.kindOf "len" = some .globalImplicit := kindG hs (by decide +kernel)
    have ko : C.env.kindOf "ord" = some .globalImplicit := kindG hs (by decide +kernel)
    have ke : C.env.kindOf "_law_escape" = some .globalImplicit := kindG hs (by decide +kernel)
    have hf : ∀ ρ pos, Ev C ρ (.Name "len" pos) (.raw (.builtin "len")) := fun ρ pos => Ev.glob (B.bi ("len", _) (by decide +kernel)) kl rfl
    have ho : ∀ ρ pos, Ev C ρ (.Name "ord" pos) (.raw (.builtin "ord")) := fun ρ pos => Ev.glob (B.bi ("ord", _) (by decide +kernel)) ko rfl
    conv => arg 3; whnf
    refine Ex.seq (ρ' := [("text", .val (.str t)), ("i", .val (.int i)), ("said", .val (.str [])), ("sign", .undef), ("j", .undef)]) (Ex1.assign (Ev.cstr rfl) (.there (.there .here)) rfl rfl) ?_
    generalize hr : name t (t.length - i) [] i = r
    refine Ex.cons (Ex1.while (fun n ρ => ∃ (k : Nat) (said : List Nat) (e1 e2 : EV), n = t.length - k ∧ said.length ≤ k ∧ name t (t.length - k) said k = r ∧ ρ = ([("text", .val (.str t)), ("i", .val (.int k)), ("said", .val (.str said)), ("sign", e1), ("j", e2)] : Rho)) (t.length - i) ⟨i, [], _, _, rfl, Nat.zero_le _, hr, rfl⟩ ?_)
    rintro n ρ1 ⟨k, said, e1, e2, rfl, hsl, e, rfl⟩
    refine ⟨_, Te.lt (Ev.name (.there .here)) (Ev.len (hf _ _) (Ev.name .here) (by omega) rfl) rfl, fun h => ?_, fun h => ?_⟩
    · have hk : k < t.length := by have := of_decide_eq_true h; omega
      have e' := e
      rw [show t.length - k = (t.length - k - 1) + 1 by omega, name, if_pos hk] at e'
      refine Ex.seq (ρ' := [("text", .val (.str t)), ("i", .val (.int k)), ("said", .val (.str said)), ("sign", .val (.str [t.getD k 0])), ("j", .val (.int (k + 1 : Nat)))]) (Ex1.assign2 (Evs.cons (Ev.idxN (Ev.name .here) (Ev.name (.there .here)) hk (by omega) (fun _ _ => rfl)) (Evs.cons (Ev.add_int (b := 1) (Ev.name (.there .here)) Ev.cint) Evs.nil rfl) rfl)
        (.there (.there (.there (.there .here)))) (.there (.there (.there .here))) rfl rfl ?_) ?_
      · rw [swap_of hs]; rfl
      generalize hc : t.getD k 0 = c at e' ⊢
      refine Ex.cons (Ex1.if (Te.eq_str (Ev.name (.there (.there (.there .here)))) (Ev.cstr (l := [92]) rfl) rfl) (fun h => ?_) fun h => ?_)
      · have h92 : c = 92 := by have := of_decide_eq_true h; simpa using this
        rw [if_pos h92] at e'
        refine Ex.seq (ρ' := [("text", .val (.str t)), ("i", .val (.int k)), ("said", .val (.str said)), ("sign", .val (.str (escape t k).1)), ("j", .val (.int (escape t k).2))]) (Ex1.unpack (Ev.can (escapes B t k ht) (Evs.cons (Ev.name .here) (Evs.cons (Ev.name (.there .here)) Evs.nil rfl) rfl) (by omega) ke rfl rfl) (.there (.there (.there .here))) (.there (.there (.there (.there .here)))) rfl rfl ?_) ?_
        · rw [swap_of hs]; rfl
        refine Ex.cons (Ex1.if (Te.eq_int (Ev.name (.there (.there (.there (.there .here))))) (Ev.name (.there .here)) rfl) (fun h => ?_) fun h => Ex.nil (Ex.nil ?_))
        · have hh : (escape t k).2 = k := by have := of_decide_eq_true h; omega
          rw [if_pos hh] at e'
          refine Ex.cons (Ex1.ret (Ev.tuple (Evs.cons (Ev.name (.there (.there .here))) (Evs.cons (Ev.name (.there .here)) Evs.nil rfl) rfl) fit2) ?_)
          show Out.ret _ = _
          rw [← e']
        · have hh : (escape t k).2 ≠ k := by have := of_decide_eq_false h; omega
          rw [if_neg hh] at e'
          have hg := escape_ge t k
          have hl := escape_len t k
          refine Ex.cons (Ex1.assign2 (Evs.cons (Ev.add_str (Ev.name (.there (.there .here))) (Ev.name (.there (.there (.there .here)))) (by rw [sizeLine_eq]; omega)) (Evs.cons (Ev.name (.there (.there (.there (.there .here))))) Evs.nil rfl) rfl) (.there .here) (.there (.there .here)) ?_ rfl ?_)
          · exact Ex.nil ⟨_, by omega, _, _, _, _, rfl, by rw [List.length_append]; omega, (name_fuel t _ _ _ _ (by omega) (by omega)).trans e', rfl⟩
          · rw [swap_of hs]; rfl
      · have h92 : c ≠ 92 := by have := of_decide_eq_false h; simpa using this
        rw [if_neg h92] at e'
        refine Ex.cons (Ex1.if (Te.not (Te.or (Tes.or_cons (Te.gt (Ev.ord (ho _ _) (Ev.name (.there (.there (.there .here)))) rfl) Ev.cint rfl) fun _ => Tes.or_cons (Te.in_str (Ev.name (.there (.there (.there .here)))) (Ev.cstr (l := [45, 95]) rfl) rfl) fun _ => Tes.or_cons (Te.bool (Ev.isalnum (Ev.name (.there (.there (.there .here)))) rfl rfl) rfl) fun _ => Tes.or_nil))) (fun h => ?_) fun h => Ex.nil (Ex.nil ?_))
        · have hh : ¬ nameSign c = true := by
            intro q
            unfold nameSign at q
            simp only [Bool.not_eq_true', Bool.or_eq_false_iff, decide_eq_false_iff_not, Bool.or_eq_true, decide_eq_true_eq] at h q
            obtain ⟨a1, a2, a3, _⟩ := h
            rcases q with (q | q) | q
            · omega
            · exact a2 q
            · rw [q] at a3; cases a3
          rw [if_neg hh] at e'
          refine Ex.cons (Ex1.ret (Ev.tuple (Evs.cons (Ev.name (.there (.there .here))) (Evs.cons (Ev.name (.there .here)) Evs.nil rfl) rfl) fit2) ?_)
          show Out.ret _ = _
          rw [← e']
        · have hh : nameSign c = true := by
            unfold nameSign
            simp only [Bool.not_eq_false', Bool.or_eq_true, decide_eq_true_eq, Bool.or_false] at h ⊢
            rcases h with q | q | q
            · left; left; omega
            · left; right; exact q
            · right; exact q
          rw [if_pos hh] at e'
          refine Ex.cons (Ex1.assign2 (Evs.cons (Ev.add_str (Ev.name (.there (.there .here))) (Ev.name (.there (.there (.there .here)))) (by rw [sizeLine_eq]; simp only [List.length_singleton]; omega)) (Evs.cons (Ev.name (.there (.there (.there (.there .here))))) Evs.nil rfl) rfl) (.there .here) (.there (.there .here)) ?_ rfl ?_)
          · exact Ex.nil ⟨_, by omega, _, _, _, _, rfl, by rw [List.length_append]; simp only [List.length_singleton]; omega, (name_fuel t _ _ _ _ (by omega) (by omega)).trans e', rfl⟩
          · rw [swap_of hs]; rfl
    · refine Ex.cons (Ex1.ret (Ev.tuple (Evs.cons (Ev.name (.there (.there .here))) (Evs.cons (Ev.name (.there .here)) Evs.nil rfl) rfl) fit2) ?_)
      have hk : ¬ k < t.length := by have := of_decide_eq_false h; omega
      show Out.ret _ = _
      rw [← e]
      cases q : t.length - k with
      | zero => rfl
      | succ n => omega)
end Mine
end
section
open PySem PySem.W PyProof.Rows PySem.Calls
set_option Elab.async false
set_option linter.unusedVariables false
set_option linter.unusedSimpArgs false
set_option maxRecDepth 100000
namespace Mine

def quoted (t : List Nat) (q : Nat) : Nat → List Nat → Nat → Option (List Nat × Nat)
  | 0, _, _ => none
  | n + 1, said, j =>
    if j < t.length then
      if t.getD j 0 = q then some (said, j + 1)
      else if t.getD j 0 ∈ [10, 13, 12] then none
      else if t.getD j 0 = 92 then
        if slc t (some (j + 1 : Nat)) (some ((j + 1 : Nat) + 2 : Int)) = [13, 10] then quoted t q n said (j + 3)
        else if inn t (j + 1) [10, 13, 12] = true then quoted t q n said (j + 2)
        else if (escape t j).2 = j then none else quoted t q n (said ++ (escape t j).1) (escape t j).2
      else quoted t q n (said ++ [t.getD j 0]) (j + 1)
    else none
theorem quoted_fuel (t : List Nat) (q : Nat) : ∀ n m said i, t.length - i ≤ n → t.length - i ≤ m → quoted t q n said i = quoted t q m said i := by
  intro n
  induction n with
  | zero =>
    intro m said i h1 h2
    cases m with
    | zero => rfl
    | succ m => unfold quoted; rw [if_neg (by omega)]
  | succ n ih =>
    intro m said i h1 h2
    cases m with
    | zero => unfold quoted; rw [if_neg (by omega)]
    | succ m =>
      have := escape_ge t i
      unfold quoted
      split
      · split
        · rfl
        · split
          · rfl
          · split
            · split
              · exact ih m _ _ (by omega) (by omega)
              · split
                · exact ih m _ _ (by omega) (by omega)
                · split
                  · rfl
                  · exact ih m _ _ (by omega) (by omega)
            · exact ih m _ _ (by omega) (by omega)
      · rfl
def pvQ : Option (List Nat × Nat) → PV
  | some (s, j) => .tup [.str s, .int j]
  | none => .none

theorem quoteds {prog : Program} {w : World} {hB : Heap} (B : Base prog w hB) (t : List Nat) (i : Nat) (ht : t.length < 1000) (hi : i < t.length) : Can prog w hB "_law_quoted" 2 [.str t, .int i] (pvQ (quoted t (t.getD i 0) (t.length - (i + 1)) [] (i + 1))) :=
  Can.of B 9 ["said", "j", "sign", "k"] (fun C B h1 h2 h3 hs hn => by
    have kl : C.env.kindOf "len" = some .globalImplicit := kindG hs (by decide +kernel)
    have ke : C.env.kindOf "_law_escape" = some .globalImplicit := kindG hs (by decide +kernel)
    have hf : ∀ ρ pos, Ev C ρ (.Name "len" pos) (.raw (.builtin "len")) := fun ρ pos => Ev.glob (B.bi ("len", _) (by decide +kernel)) kl rfl
    conv => arg 3; whnf
    refine Ex.seq (ρ' := [("text", .val (.str t)), ("i", .val (.int i)), ("said", .val (.str [])), ("j", .val (.int (i + 1 : Nat))), ("sign", .undef), ("k", .undef)]) (Ex1.assign2 (Evs.cons (Ev.cstr rfl) (Evs.cons (Ev.add_int (b := 1) (Ev.name (.there .here)) Ev.cint) Evs.nil rfl) rfl) (.there (.there (.there .here))) (.there (.there .here)) rfl rfl ?_) ?_
    · rw [swap_of hs]; rfl
    generalize hq : t.getD i 0 = q
    generalize hr : quoted t q (t.length - (i + 1)) [] (i + 1) = r
    refine Ex.cons (Ex1.while (fun n ρ => ∃ (k : Nat) (said : List Nat) (e1 e2 : EV), n = t.length - k ∧ said.length ≤ k ∧ quoted t q (t.length - k) said k = r ∧ ρ = ([("text", .val (.str t)), ("i", .val (.int i)), ("said", .val (.str said)), ("j", .val (.int k)), ("sign", e1), ("k", e2)] : Rho)) (t.length - (i + 1)) ⟨i + 1, [], _, _, rfl, Nat.zero_le _, hr, rfl⟩ ?_)
    rintro n ρ1 ⟨k, said, e1, e2, rfl, hsl, e, rfl⟩
    refine ⟨_, Te.and (Tes.and_cons (Te.lt (Ev.name (.there (.there (.there .here)))) (Ev.len (hf _ _) (Ev.name .here) (by omega) rfl) rfl) fun h => Tes.and_cons (Te.ne_str (Ev.idxN (Ev.name .here) (Ev.name (.there (.there (.there .here)))) (by have := of_decide_eq_true h; omega) (by omega) (fun _ _ => rfl)) (Ev.idxN (Ev.name .here) (Ev.name (.there .here)) hi (by omega) (fun _ _ => rfl)) rfl) fun _ => Tes.and_nil), fun h => ?_, fun h => ?_⟩
    · simp only [Bool.and_eq_true, decide_eq_true_eq, Bool.and_true, Bool.not_eq_true', decide_eq_false_iff_not] at h
      have hk : k < t.length := by omega
      have hne : ¬ t.getD k 0 = q := fun e => h.2 (by rw [e, hq])
      have e' := e
      rw [show t.length - k = (t.length - k - 1) + 1 by omega, quoted, if_pos hk, if_neg hne] at e'
      refine Ex.seq (ρ' := [("text", .val (.str t)), ("i", .val (.int i)), ("said", .val (.str said)), ("j", .val (.int k)), ("sign", .val (.str [t.getD k 0])), ("k", .val (.int (k + 1 : Nat)))]) (Ex1.assign2 (Evs.cons (Ev.idxN (Ev.name .here) (Ev.name (.there (.there (.there .here)))) hk (by omega) (fun _ _ => rfl)) (Evs.cons (Ev.add_int (b := 1) (Ev.name (.there (.there (.there .here)))) Ev.cint) Evs.nil rfl) rfl)
        (.there (.there (.there (.there (.there .here))))) (.there (.there (.there (.there .here)))) rfl rfl ?_) ?_
      · rw [swap_of hs]; rfl
      generalize hc : t.getD k 0 = c at e' ⊢
      refine Ex.cons (Ex1.if (Te.in_str (Ev.name (.there (.there (.there (.there .here))))) (Ev.cstr (l := [10, 13, 12]) rfl) rfl) (fun h => ?_) fun h => Ex.nil ?_)
      · have hh := of_decide_eq_true h
        rw [if_pos hh] at e'
        refine Ex.cons (Ex1.ret Ev.cnone ?_)
        show Out.ret _ = _
        rw [← e']; rfl
      have hh := of_decide_eq_false h
      rw [if_neg hh] at e'
      -- the step: what sign and k are behind it
      refine Ex.cons (Q := fun o => Out.turn _ _ o) (Ex1.if (Te.and (Tes.and_cons (Te.eq_str (Ev.name (.there (.there (.there (.there .here))))) (Ev.cstr (l := [92]) rfl) rfl) fun h => Tes.and_cons (Te.eq_str (Ev.slice (a := some (k + 1 : Nat)) (b := some ((k + 1 : Nat) + 2 : Int)) (Ev.name .here) (Ev.name (.there (.there (.there (.there (.there .here)))))) (Ev.add_int (b := 2) (Ev.name (.there (.there (.there (.there (.there .here)))))) Ev.cint) (by rw [sizeLine_eq]; omega) (fun _ _ => rfl)) (Ev.cstr (l := [13, 10]) rfl) rfl) fun _ => Tes.and_nil)) (fun h => ?_) fun h => ?_)
      · simp only [Bool.and_eq_true, decide_eq_true_eq, Bool.and_true] at h
        have h92 : c = 92 := by have := h.1; simpa using this
        rw [if_pos h92, if_pos h.2] at e'
        refine Ex.cons (Ex1.assign2 (q := .int (k + 3 : Nat)) (Evs.cons (Ev.cstr (l := []) rfl) (Evs.cons (Ev.add_int (b := 2) (Ev.name (.there (.there (.there (.there (.there .here)))))) Ev.cint) Evs.nil rfl) rfl) (.there (.there (.there (.there (.there .here))))) (.there (.there (.there (.there .here)))) (Ex.nil ?_) rfl ?_)
        · refine Ex.cons (Ex1.assign2 (Evs.cons (Ev.add_str (Ev.name (.there (.there .here))) (Ev.name (.there (.there (.there (.there .here))))) (by rw [sizeLine_eq]; simp only [List.length_nil]; omega)) (Evs.cons (Ev.name (.there (.there (.there (.there (.there .here)))))) Evs.nil rfl) rfl) (.there (.there (.there .here))) (.there (.there .here)) (Ex.nil ⟨_, by omega, _, _, _, _, rfl, by rw [List.append_nil]; omega, by rw [List.append_nil]; exact (quoted_fuel t q _ _ _ _ (by omega) (by omega)).trans e', rfl⟩) rfl ?_)
          rw [swap_of hs]; rfl
        · rw [swap_of hs]; rfl
      · refine Ex.cons (Ex1.if (Te.and (Tes.and_cons (Te.eq_str (Ev.name (.there (.there (.there (.there .here))))) (Ev.cstr (l := [92]) rfl) rfl) fun h => Tes.and_cons (Te.lt (Ev.name (.there (.there (.there (.there (.there .here)))))) (Ev.len (hf _ _) (Ev.name .here) (by omega) rfl) rfl) fun h => Tes.and_cons (Te.in_str (Ev.idxN (Ev.name .here) (Ev.name (.there (.there (.there (.there (.there .here)))))) (by have := of_decide_eq_true h; omega) (by omega) (fun _ _ => rfl)) (Ev.cstr (l := [10, 13, 12]) rfl) rfl) fun _ => Tes.and_nil)) (fun h2 => ?_) fun h2 => ?_)
        · simp only [Bool.and_eq_true, decide_eq_true_eq, Bool.and_true] at h2
          have h92 : c = 92 := by have := h2.1; simpa using this
          have hn13 : ¬ slc t (some (k + 1 : Nat)) (some ((k + 1 : Nat) + 2 : Int)) = [13, 10] := by
            simp only [Bool.and_eq_false_iff, decide_eq_false_iff_not, Bool.and_true] at h
            rcases h with q | q
            · exact absurd h2.1 q
            · exact q
          have hin : inn t (k + 1) [10, 13, 12] = true := by
            unfold inn
            simp only [Bool.and_eq_true, decide_eq_true_eq]
            exact ⟨by omega, h2.2.2⟩
          rw [if_pos h92, if_neg hn13, if_pos hin] at e'
          refine Ex.cons (Ex1.assign2 (q := .int (k + 2 : Nat)) (Evs.cons (Ev.cstr (l := []) rfl) (Evs.cons (Ev.add_int (b := 1) (Ev.name (.there (.there (.there (.there (.there .here)))))) Ev.cint) Evs.nil rfl) rfl) (.there (.there (.there (.there (.there .here))))) (.there (.there (.there (.there .here)))) (Ex.nil (Ex.nil ?_)) rfl (by rw [swap_of hs]; rfl))
          refine Ex.cons (Ex1.assign2 (Evs.cons (Ev.add_str (Ev.name (.there (.there .here))) (Ev.name (.there (.there (.there (.there .here))))) (by rw [sizeLine_eq]; (try simp only [List.length_nil, List.length_singleton]); omega)) (Evs.cons (Ev.name (.there (.there (.there (.there (.there .here)))))) Evs.nil rfl) rfl) (.there (.there (.there .here))) (.there (.there .here)) (Ex.nil ⟨_, by omega, _, _, _, _, rfl, by simp only [List.length_append, List.length_nil, List.length_singleton]; omega, by first | exact (quoted_fuel t q _ _ _ _ (by omega) (by omega)).trans e' | (rw [List.append_nil]; exact (quoted_fuel t q _ _ _ _ (by omega) (by omega)).trans e'), rfl⟩) rfl (by rw [swap_of hs]; rfl))
        · refine Ex.cons (Ex1.if (Te.eq_str (Ev.name (.there (.there (.there (.there .here))))) (Ev.cstr (l := [92]) rfl) rfl) (fun h3 => ?_) fun h3 => Ex.nil (Ex.nil (Ex.nil ?_)))
          · have h92 : c = 92 := by have := of_decide_eq_true h3; simpa using this
            have hn13 : ¬ slc t (some (k + 1 : Nat)) (some ((k + 1 : Nat) + 2 : Int)) = [13, 10] := by
              simp only [Bool.and_eq_false_iff, decide_eq_false_iff_not, Bool.and_true] at h
              rcases h with q | q
              · exact absurd (of_decide_eq_true h3) q
              · exact q
            have hin : ¬ inn t (k + 1) [10, 13, 12] = true := by
              unfold inn
              simp only [Bool.and_eq_true, decide_eq_true_eq]
              rintro ⟨a1, a2⟩
              simp only [Bool.and_eq_false_iff, decide_eq_false_iff_not, Bool.and_true] at h2
              rcases h2 with q | q | q
              · exact q (of_decide_eq_true h3)
              · omega
              · exact q a2
            rw [if_pos h92, if_neg hn13, if_neg hin] at e'
            refine Ex.seq (ρ' := [("text", .val (.str t)), ("i", .val (.int i)), ("said", .val (.str said)), ("j", .val (.int k)), ("sign", .val (.str (escape t k).1)), ("k", .val (.int (escape t k).2))]) (Ex1.unpack (Ev.can (escapes B t k ht) (Evs.cons (Ev.name .here) (Evs.cons (Ev.name (.there (.there (.there .here)))) Evs.nil rfl) rfl) (by omega) ke rfl rfl) (.there (.there (.there (.there .here)))) (.there (.there (.there (.there (.there .here))))) rfl rfl (by rw [swap_of hs]; rfl)) ?_
            have hg := escape_ge t k
            have hl := escape_len t k
            refine Ex.cons (Ex1.if (Te.eq_int (Ev.name (.there (.there (.there (.there (.there .here)))))) (Ev.name (.there (.there (.there .here)))) rfl) (fun h4 => ?_) fun h4 => Ex.nil (Ex.nil (Ex.nil (Ex.nil ?_))))
            · have hh4 : (escape t k).2 = k := by have := of_decide_eq_true h4; omega
              rw [if_pos hh4] at e'
              refine Ex.cons (Ex1.ret Ev.cnone ?_)
              show Out.ret _ = _
              rw [← e']; rfl
            · have hh4 : (escape t k).2 ≠ k := by have := of_decide_eq_false h4; omega
              rw [if_neg hh4] at e'
              refine Ex.cons (Ex1.assign2 (Evs.cons (Ev.add_str (Ev.name (.there (.there .here))) (Ev.name (.there (.there (.there (.there .here))))) (by rw [sizeLine_eq]; (try simp only [List.length_nil, List.length_singleton]); omega)) (Evs.cons (Ev.name (.there (.there (.there (.there (.there .here)))))) Evs.nil rfl) rfl) (.there (.there (.there .here))) (.there (.there .here)) (Ex.nil ⟨_, by omega, _, _, _, _, rfl, by simp only [List.length_append, List.length_nil, List.length_singleton]; omega, by first | exact (quoted_fuel t q _ _ _ _ (by omega) (by omega)).trans e' | (rw [List.append_nil]; exact (quoted_fuel t q _ _ _ _ (by omega) (by omega)).trans e'), rfl⟩) rfl (by rw [swap_of hs]; rfl))
          · have h92 : ¬ c = 92 := by have := of_decide_eq_false h3; simpa using this
            rw [if_neg h92] at e'
            refine Ex.cons (Ex1.assign2 (Evs.cons (Ev.add_str (Ev.name (.there (.there .here))) (Ev.name (.there (.there (.there (.there .here))))) (by rw [sizeLine_eq]; (try simp only [List.length_nil, List.length_singleton]); omega)) (Evs.cons (Ev.name (.there (.there (.there (.there (.there .here)))))) Evs.nil rfl) rfl) (.there (.there (.there .here))) (.there (.there .here)) (Ex.nil ⟨_, by omega, _, _, _, _, rfl, by simp only [List.length_append, List.length_nil, List.length_singleton]; omega, by first | exact (quoted_fuel t q _ _ _ _ (by omega) (by omega)).trans e' | (rw [List.append_nil]; exact (quoted_fuel t q _ _ _ _ (by omega) (by omega)).trans e'), rfl⟩) rfl (by rw [swap_of hs]; rfl))
    · refine Ex.cons (Ex1.ret (Ev.ifexp (Te.lt (Ev.name (.there (.there (.there .here)))) (Ev.len (hf _ _) (Ev.name .here) (by omega) rfl) rfl) (fun h => Ev.tuple (Evs.cons (Ev.name (.there (.there .here))) (Evs.cons (Ev.add_int (b := 1) (Ev.name (.there (.there (.there .here)))) Ev.cint) Evs.nil rfl) rfl) fit2) (fun h => Ev.cnone)) ?_)
      show Out.ret _ = _
      rw [← e]
      by_cases hk : k < t.length
      · have heq : t.getD k 0 = q := by
          simp only [Bool.and_eq_false_iff, decide_eq_false_iff_not, Bool.and_true, Bool.not_eq_false', decide_eq_true_eq] at h
          rcases h with a | a
          · omega
          · rw [← hq]; simpa using a
        rw [if_pos (decide_eq_true (by omega)), show t.length - k = (t.length - k - 1) + 1 by omega, quoted, if_pos hk, if_pos heq]
        rfl
      · rw [if_neg (by simp only [decide_eq_true_eq]; omega)]
        cases q : t.length - k with
        | zero => rfl
        | succ n => omega)
end Mine
end
section
open PySem PySem.W PyProof.Rows PySem.Calls
set_option Elab.async false
set_option linter.unusedVariables false
set_option linter.unusedSimpArgs false
set_option maxRecDepth 100000
namespace Mine

def signOf (v : Int) : Nat := if v.fmod 38 = 25 then (32 + (v.fdiv 38).fmod 95).toNat else signs.getD (v.fmod 38).toNat 0
def sign1 (t : List Nat) (c : Nat) : Nat :=
  if slc t (some (-1)) none = [92] ∧ (c = 92 ∨ (c ∈ [10, 13, 12] ∧ 1 < t.length ∧ t.getD (t.length - 2) 0 ∈ sixteen)) then 103 else c
def sign2 (t : List Nat) (c : Nat) : Nat := if slc t (some (-1)) none = [53] ∧ c ∈ [99, 67] then 103 else c
def textOf (l : List Int) : List Nat := l.foldl (fun t v => t ++ [sign2 t (sign1 t (signOf v))]) []
def tails : List (List Nat) := [[], [92, 53, 99], [92, 53, 99, 32, 92, 97]]
def lawText (l : List Int) : List Nat := if slc (textOf (l.take 40)) (some (-1)) none = [92] then textOf (l.take 40) else textOf (l.take 40) ++ tails.getD (l.length % 3) []

theorem textOf_len (l : List Int) : (textOf l).length = l.length := by
  have : ∀ (l : List Int) t, (l.foldl (fun t v => t ++ [sign2 t (sign1 t (signOf v))]) t).length = t.length + l.length := by
    intro l
    induction l with
    | nil => intro t; rfl
    | cons a l ih => intro t; rw [List.foldl_cons, ih]; simp only [List.length_append, List.length_cons, List.length_nil]; omega
  simpa [textOf] using this l []
theorem textOf_snoc {l : List Int} {i : Nat} {v : Int} (h : l[i]? = some v) : textOf (l.take (i + 1)) = textOf (l.take i) ++ [sign2 (textOf (l.take i)) (sign1 (textOf (l.take i)) (signOf v))] := by
  have hi := (List.getElem?_eq_some_iff.mp h).1
  rw [List.take_add_one, h]
  simp [textOf]
theorem slc_last (t : List Nat) : (slc t (some (-1)) none).length ≤ 1 := by
  unfold slc clipN
  rw [List.length_take, List.length_drop]
  simp only [show ((-1 : Int) < 0) from by omega, if_true]
  omega
theorem pylong_no (a b : Int) (hb : b.natAbs < 2 ^ 30) : Builtin.divisionGoesByPylong a b = false := by
  unfold Builtin.divisionGoesByPylong
  have : ¬ ((if (b == 0) = true then 0 else b.natAbs.log2 / 30 + 1) > 300) := by
    split
    · omega
    · rename_i h
      have hb0 : b.natAbs ≠ 0 := by
        intro q
        exact h (by rw [Int.natAbs_eq_zero.mp q]; rfl)
      have := (Nat.log2_lt hb0).mpr hb
      omega
  simp only [this, decide_false, Bool.false_and]

theorem texts {prog : Program} {w : World} {hB : Heap} (B : Base prog w hB) (l : List Int) (hl : l.length ≤ 63) : Can prog w hB "_law_text" 1 [.lst (l.map .int)] (.str (lawText l)) :=
  Can.of B 6 ["text", "v", "sign"] (fun C B h1 h2 h3 hs hn => by
    have kl : C.env.kindOf "len" = some .globalImplicit := kindG hs (by decide +kernel)
    have kc : C.env.kindOf "chr" = some .globalImplicit := kindG hs (by decide +kernel)
    have k6 : C.env.kindOf "_law_sixteen" = some .globalImplicit := kindG hs (by decide +kernel)
    have ks : C.env.kindOf "_law_signs" = some .globalImplicit := kindG hs (by decide +kernel)
    obtain ⟨t6, g6⟩ := B.six
    obtain ⟨vs, gs, rs⟩ := B.signs
    have hf : ∀ {C' : Cx} (e : C'.env = C.env) (e2 : C'.hB = C.hB) ρ pos, Ev C' ρ (.Name "len" pos) (.raw (.builtin "len")) := fun e e2 ρ pos => Ev.glob (e2 ▸ B.bi ("len", _) (by decide +kernel)) (e ▸ kl) rfl
    conv => arg 3; whnf
    refine Ex.seq (ρ' := [("script", .val (.lst (l.map .int))), ("text", .val (.str [])), ("v", .undef), ("sign", .undef)]) (Ex1.assign (Ev.cstr rfl) (.there .here) rfl rfl) ?_
    have hsl : slcL (l.map PV.int) none (some 40) = (l.take 40).map PV.int := by
      unfold slcL clipN
      rw [List.length_map]
      simp only [List.drop_zero, Nat.sub_zero, ← List.map_take]
      congr 1
      rw [show (max 0 (min (if (40 : Int) < 0 then 40 + (l.length : Int) else 40) (l.length : Int))).toNat = min 40 l.length by simp only [show ¬ ((40 : Int) < 0) from by omega, if_false]; omega]
      rcases Nat.le_total 40 l.length with q | q
      · rw [Nat.min_eq_left q]
      · rw [Nat.min_eq_right q, List.take_length, List.take_of_length_le q]
    refine Ex.for (l := (l.take 40).map PV.int) (fun i ρ => ∃ e1 e2, ρ = ([("script", .val (.lst (l.map .int))), ("text", .val (.str (textOf ((l.take 40).take i)))), ("v", e1), ("sign", e2)] : Rho)) (fun o h => ⟨_, h⟩)
      (hsl ▸ Ev.sliceL (a := none) (b := some 40) (Ev.name .here) trivial Ev.cint (by rw [List.length_map, sizeLine_eq]; omega) (fun _ _ => rfl)) ⟨_, _, rfl⟩ ?_ ?_ (fun _ => rfl) (fun _ _ => rfl)
    · rintro D hD i ρ1 p ⟨e1, e2, rfl⟩ hp
      rw [List.getElem?_map] at hp
      obtain ⟨v, hv, rfl⟩ := Option.map_eq_some_iff.mp hp
      refine ⟨_, .there (.there .here), ?_⟩
      rw [textOf_snoc hv]
      have hlen : (textOf ((l.take 40).take i)).length ≤ 40 := by rw [textOf_len, List.length_take, List.length_take]; omega
      generalize textOf ((l.take 40).take i) = t at hlen ⊢
      have hm := Int.fmod_nonneg_of_pos v (show (0 : Int) < 38 by omega)
      have hm2 := Int.fmod_lt_of_pos v (show (0 : Int) < 38 by omega)
      have hm3 := Int.fmod_nonneg_of_pos (v.fdiv 38) (show (0 : Int) < 95 by omega)
      have hm4 := Int.fmod_lt_of_pos (v.fdiv 38) (show (0 : Int) < 95 by omega)
      refine Ex.seq (ρ' := [("script", .val (.lst (l.map .int))), ("text", .val (.str t)), ("v", .val (.int v)), ("sign", .val (.str [signOf v]))]) (Ex1.assign (Ev.cast (Ev.ifexp (Te.eq_int (Ev.mod_int (Ev.name (.there (.there .here))) Ev.cint (by omega)) Ev.cint rfl)
        (fun h => Ev.chr (Ev.glob (C := C.hide D hD) (B.bi ("chr", _) (by decide +kernel)) kc rfl) (Ev.add_int Ev.cint (Ev.mod_int (Ev.div_int (Ev.name (.there (.there .here))) Ev.cint (by omega) (pylong_no _ _ (by decide))) Ev.cint (by omega))) (by omega) (by omega) rfl)
        (fun h => Ev.idxTup (k := v.fmod 38) (p := .str [signs.getD (v.fmod 38).toNat 0]) (Ev.globP (C := C.hide D hD) gs rs ks rfl) (Ev.mod_int (Ev.name (.there (.there .here))) Ev.cint (by omega)) hm (by
          rw [List.getElem?_map, List.getD_eq_getElem?_getD, List.getElem?_eq_getElem (show (v.fmod 38).toNat < signs.length by show _ < 38; omega)]; rfl) (by show 38 < 1000000; omega) (fun _ _ => rfl))) ?_) (.there (.there (.there .here))) rfl rfl) ?_
      · unfold signOf
        by_cases q : v.fmod 38 = 25
        · rw [if_pos (decide_eq_true q), if_pos q]
        · rw [if_neg (by simpa using q), if_neg q]
      generalize signOf v = c
      have hlast : ∀ {x : Nat}, EvO (C.hide D hD) [("script", .val (.lst (l.map .int))), ("text", .val (.str t)), ("v", .val (.int v)), ("sign", .val (.str [x]))] none none := trivial
      refine Ex.seq (ρ' := [("script", .val (.lst (l.map .int))), ("text", .val (.str t)), ("v", .val (.int v)), ("sign", .val (.str [sign1 t c]))]) (Ex1.if (c := decide (slc t (some (-1)) none = [92]) && ((decide ([c] = [92]) || ((decide (c ∈ [10, 13, 12]) && (decide ((1 : Int) < t.length) && (decide (t.getD (t.length - 2) 0 ∈ sixteen) && true))) || false)) && true))
        (Te.and (Tes.and_cons (Te.eq_str (Ev.slice (a := some (-1)) (b := none) (Ev.name (.there .here)) (Ev.neg Ev.cint) trivial (by rw [sizeLine_eq]; omega) (fun _ _ => rfl)) (Ev.cstr (l := [92]) rfl) rfl) fun _ => Tes.and_cons (Te.or (Tes.or_cons (Te.eq_str (Ev.name (.there (.there (.there .here)))) (Ev.cstr (l := [92]) rfl) rfl) fun _ => Tes.or_cons
          (Te.and (Tes.and_cons (Te.in_str (Ev.name (.there (.there (.there .here)))) (Ev.cstr (l := [10, 13, 12]) rfl) rfl) fun _ => Tes.and_cons (Te.gt (Ev.len (hf (C' := C.hide D hD) rfl rfl _ _) (Ev.name (.there .here)) (by omega) rfl) Ev.cint rfl) fun h => Tes.and_cons
            (Te.in_str (Ev.idxNeg (k := -2) (c := t.getD (t.length - 2) 0) (Ev.name (.there .here)) (Ev.neg Ev.cint) (by omega) (by have := of_decide_eq_true h; omega) ?_ (by omega) (fun _ _ => rfl)) (Ev.globP (C := C.hide D hD) g6 (.str _ _) k6 rfl) rfl) fun _ => Tes.and_nil)) fun _ => Tes.or_nil)) fun _ => Tes.and_nil))
        (fun h => Ex.cons (Ex1.assign (Ev.cstr (l := [103]) rfl) (.there (.there (.there .here))) (Ex.nil ?_) rfl)) (fun h => Ex.nil ?_)) ?_
      · have := of_decide_eq_true h
        rw [show ((-2 : Int) + t.length).toNat = t.length - 2 by omega, List.getD_eq_getElem?_getD, List.getElem?_eq_getElem (by omega)]; rfl
      · have : sign1 t c = 103 := if_pos (by simp only [Bool.and_eq_true, Bool.or_eq_true, decide_eq_true_eq, Bool.and_true, Bool.or_false] at h; obtain ⟨a, b⟩ := h; refine ⟨a, ?_⟩; rcases b with b | ⟨b1, b2, b3⟩; exact .inl (by simpa using b); exact .inr ⟨b1, by omega, b3⟩)
        rw [this]
      · have : sign1 t c = c := if_neg (fun q => by
          obtain ⟨a, b⟩ := q
          have : (decide (slc t (some (-1)) none = [92]) && ((decide ([c] = [92]) || ((decide (c ∈ [10, 13, 12]) && (decide ((1 : Int) < t.length) && (decide (t.getD (t.length - 2) 0 ∈ sixteen) && true))) || false)) && true)) = true := by
            simp only [Bool.and_eq_true, Bool.or_eq_true, decide_eq_true_eq, Bool.and_true, Bool.or_false]
            refine ⟨a, ?_⟩
            rcases b with b | ⟨b1, b2, b3⟩
            · exact .inl (by rw [b])
            · exact .inr ⟨b1, by omega, b3⟩
          rw [this] at h; cases h)
        rw [this]
      generalize sign1 t c = c
      refine Ex.seq (ρ' := [("script", .val (.lst (l.map .int))), ("text", .val (.str t)), ("v", .val (.int v)), ("sign", .val (.str [sign2 t c]))]) (Ex1.if (Te.and (Tes.and_cons (Te.eq_str (Ev.slice (a := some (-1)) (b := none) (Ev.name (.there .here)) (Ev.neg Ev.cint) trivial (by rw [sizeLine_eq]; omega) (fun _ _ => rfl)) (Ev.cstr (l := [53]) rfl) rfl) fun _ => Tes.and_cons (Te.in_str (Ev.name (.there (.there (.there .here)))) (Ev.cstr (l := [99, 67]) rfl) rfl) fun _ => Tes.and_nil))
        (fun h => Ex.cons (Ex1.assign (Ev.cstr (l := [103]) rfl) (.there (.there (.there .here))) (Ex.nil ?_) rfl)) (fun h => Ex.nil ?_)) ?_
      · have : sign2 t c = 103 := if_pos (by simpa only [Bool.and_eq_true, Bool.and_true, decide_eq_true_eq] using h)
        rw [this]
      · have : sign2 t c = c := if_neg (fun q => by
          have : (decide (slc t (some (-1)) none = [53]) && (decide (c ∈ [99, 67]) && true)) = true := by simpa only [Bool.and_eq_true, Bool.and_true, decide_eq_true_eq] using q
          rw [this] at h; cases h)
        rw [this]
      exact Ex.cons (Ex1.augStr (.there .here) (Ev.name (.there (.there (.there .here)))) (.there .here) (by rw [sizeLine_eq]; simp only [List.length_singleton]; omega) (Ex.nil ⟨_, _, rfl⟩))
    · rintro ρ1 ⟨e1, e2, rfl⟩
      have hlen : (textOf (l.take 40)).length ≤ 40 := by rw [textOf_len, List.length_take]; omega
      rw [List.length_map, List.take_length]
      have hmod : ((l.length : Int).fmod 3) = ((l.length % 3 : Nat) : Int) := by rw [Int.fmod_eq_emod_of_nonneg _ (by omega)]; omega
      have h3 : l.length % 3 < 3 := Nat.mod_lt _ (by omega)
      refine Ex.cons (Ex1.ret (Ev.cast (Ev.ifexp (Te.eq_str (Ev.slice (a := some (-1)) (b := none) (Ev.name (.there .here)) (Ev.neg Ev.cint) trivial (by rw [sizeLine_eq]; omega) (fun _ _ => rfl)) (Ev.cstr (l := [92]) rfl) rfl) (fun _ => Ev.name (.there .here))
        (fun _ => Ev.add_str (b := tails.getD (l.length % 3) []) (Ev.name (.there .here)) (Ev.idxTup (k := (l.length : Int).fmod 3) (l := [.str [], .str [92, 53, 99], .str [92, 53, 99, 32, 92, 97]]) (Ev.tuple (Evs.cons (Ev.cstr rfl) (Evs.cons (Ev.cstr rfl) (Evs.cons (Ev.cstr rfl) Evs.nil rfl) rfl) rfl) fit3) (Ev.mod_int (Ev.lenL (l := l.map .int) (hf rfl rfl _ _) (Ev.name .here) (by rw [List.length_map]; omega) rfl |>.cast (by rw [List.length_map])) Ev.cint (by omega)) (by omega) ?_ (by show 3 < 1000000; omega) (fun _ _ => rfl)) ?_)) ?_) rfl)
      · rw [hmod, Int.toNat_natCast]
        generalize l.length % 3 = k at h3 ⊢
        match k, h3 with
        | 0, _ => rfl
        | 1, _ => rfl
        | 2, _ => rfl
      · rw [sizeLine_eq]
        have : ∀ k, (tails.getD k []).length ≤ 6 := by
          intro k
          match k with
          | 0 => decide
          | 1 => decide
          | 2 => decide
          | k + 3 => simp [tails]
        have := this (l.length % 3)
        omega
      · unfold lawText
        by_cases q : slc (textOf (l.take 40)) (some (-1)) none = [92]
        · rw [if_pos (decide_eq_true q), if_pos q]
        · rw [if_neg (by simpa using q), if_neg q])
end Mine
end
section
open PySem PySem.W PyProof.Rows PySem.Calls
set_option Elab.async false
set_option linter.unusedVariables false
set_option linter.unusedSimpArgs false
set_option maxRecDepth 100000
namespace Mine

abbrev Row := List Nat × Option (List Nat) × Nat
def pvO : Option (List Nat) → PV
  | some v => .str v
  | none => .none
def pvRow (r : Row) : PV := .tup [.str r.1, pvO r.2.1, .int r.2.2]
def ws : List Nat := [32, 9, 10, 13, 12]
def runEnd (p : Nat → Bool) (t : List Nat) (i : Nat) : Nat := i + ((t.drop i).takeWhile p).length
theorem runEnd_ge (p : Nat → Bool) (t : List Nat) (i : Nat) : i ≤ runEnd p t i := Nat.le_add_right _ _
theorem runEnd_step {p : Nat → Bool} {t : List Nat} {i : Nat} (h : i < t.length) (hc : p (t.getD i 0) = true) : runEnd p t (i + 1) = runEnd p t i := by
  rw [List.getD_eq_getElem?_getD, List.getElem?_eq_getElem h, Option.getD_some] at hc
  unfold runEnd
  rw [List.drop_eq_getElem_cons h, List.takeWhile_cons, hc]
  simp only [if_true, List.length_cons]
  omega
theorem runEnd_stop {p : Nat → Bool} {t : List Nat} {i : Nat} (h : i < t.length) (hc : p (t.getD i 0) = false) : runEnd p t i = i := by
  rw [List.getD_eq_getElem?_getD, List.getElem?_eq_getElem h, Option.getD_some] at hc
  unfold runEnd
  rw [List.drop_eq_getElem_cons h, List.takeWhile_cons, hc]
  simp
theorem runEnd_end {p : Nat → Bool} {t : List Nat} {i : Nat} (h : t.length ≤ i) : runEnd p t i = i := by
  unfold runEnd
  rw [List.drop_of_length_le h]
  rfl
def isWs (c : Nat) : Bool := decide (c ∈ ws)
def comEnd (t : List Nat) : Nat → Nat → Nat
  | 0, j => j
  | n + 1, j => if j < t.length ∧ slc t (some j) (some (j + 2 : Int)) ≠ [42, 47] then comEnd t n (j + 1) else j
theorem comEnd_ge (t : List Nat) : ∀ n j, j ≤ comEnd t n j
  | 0, j => Nat.le_refl _
  | n + 1, j => by unfold comEnd; split; exact Nat.le_trans (Nat.le_succ _) (comEnd_ge t n (j + 1)); exact Nat.le_refl _
def starts (t : List Nat) (j h : Nat) : Bool := decide (h > 127) || (decide (h = 95) || (Txt.isalpha (S [h]) || ((decide (h = 92) && decide (j < (escape t j).2)))))
/-- the end of a number that starts at s -/
def numEnd (t : List Nat) (s : Nat) : Nat :=
  let j := figs t s
  if j < t.length ∧ t.getD j 0 = 46 ∧ figs t (j + 1) > j + 1 then figs t (j + 1) else j
def nm (t : List Nat) (i : Nat) : List Nat × Nat := name t (t.length - i) [] i
def readStart (t : List Nat) (i : Nat) : Bool :=
  let j := if t.getD i 0 = 45 then i + 1 else i
  starts t j (if j < t.length then t.getD j 0 else 32)
def read (t : List Nat) : Nat → List Row → Nat → List Row × Bool
  | 0, rows, i => (rows ++ [([69, 79, 70], none, i)], false)
  | n + 1, rows, i =>
    if i < t.length then
      if isWs (t.getD i 0) = true then read t n (rows ++ [([83], some [32], i)]) (runEnd isWs t i)
      else if readStart t i = true then read t n (rows ++ [([73, 68, 69, 78, 84], some (nm t i).1, i)]) (nm t i).2
      else if t.getD i 0 = 35 ∧ (nm t (i + 1)).2 > i + 1 then read t n (rows ++ [([72, 65, 83, 72], some (nm t (i + 1)).1, i)]) (nm t (i + 1)).2
      else if t.getD i 0 = 39 ∨ t.getD i 0 = 34 then
        match quoted t (t.getD i 0) (t.length - (i + 1)) [] (i + 1) with
        | none => (rows, true)
        | some (s, j) => read t n (rows ++ [([83, 84, 82, 73, 78, 71], some s, i)]) j
      else
        let s := if t.getD i 0 ∈ [43, 45] then i + 1 else i
        if numEnd t s > s then read t n (rows ++ [([78, 85, 77, 66, 69, 82], some (slc t (some i) (some (numEnd t s))), i)]) (numEnd t s)
        else if slc t (some i) (some (i + 2 : Int)) = [47, 42] then read t n rows (min (comEnd t (t.length - (i + 2)) (i + 2) + 2) t.length)
        else read t n (rows ++ [([68, 69, 76, 73, 77], some [t.getD i 0], i)]) (i + 1)
    else (rows ++ [([69, 79, 70], none, i)], false)

theorem name_ge (t : List Nat) : ∀ n said i, i ≤ (name t n said i).2 := by
  intro n
  induction n with
  | zero => intro said i; exact Nat.le_refl _
  | succ n ih =>
    intro said i
    unfold name
    have h1 := ih (said ++ (escape t i).1) (escape t i).2
    have h2 := ih (said ++ [t.getD i 0]) (i + 1)
    have h3 := escape_ge t i
    split
    · split
      · split
        · exact Nat.le_refl _
        · omega
      · split
        · omega
        · exact Nat.le_refl _
    · exact Nat.le_refl _
theorem numEnd_ge (t : List Nat) (s : Nat) : s ≤ numEnd t s := by
  unfold numEnd
  have h1 := figs_ge t s
  have h2 := figs_ge t (figs t s + 1)
  dsimp only
  split <;> omega
theorem quoted_gt (t : List Nat) (q : Nat) : ∀ n said j s k, quoted t q n said j = some (s, k) → j < k := by
  intro n
  induction n with
  | zero => intro said j s k h; cases h
  | succ n ih =>
    intro said j s k h
    unfold quoted at h
    have h3 := escape_ge t j
    split at h
    · split at h
      · cases h; omega
      · split at h
        · cases h
        · split at h
          · split at h
            · have := ih _ _ _ _ h; omega
            · split at h
              · have := ih _ _ _ _ h; omega
              · split at h
                · cases h
                · have := ih _ _ _ _ h; omega
          · have := ih _ _ _ _ h; omega
    · cases h
theorem isalnum_of {c : Nat} (h : Txt.isalpha (S [c]) = true) : Txt.isalnum (S [c]) = true := by
  have h' : (true && [c].toArray.all Unicode.isAlpha) = true := h
  show (true && [c].toArray.all Unicode.isAlnum) = true
  simp only [Bool.true_and, List.all_toArray, List.all_cons, List.all_nil, Bool.and_true] at h' ⊢
  unfold Unicode.isAlnum
  rw [h']; rfl
theorem start_gt {t : List Nat} {i : Nat} (hi : i < t.length) (h : readStart t i = true) : i < (nm t i).2 := by
  unfold nm
  rw [show t.length - i = (t.length - i - 1) + 1 by omega, name, if_pos hi]
  have h1 := name_ge t (t.length - i - 1) ([] ++ (escape t i).1) (escape t i).2
  have h2 := name_ge t (t.length - i - 1) ([] ++ [t.getD i 0]) (i + 1)
  have h3 := escape_ge t i
  unfold readStart at h
  by_cases h45 : t.getD i 0 = 45
  · have : nameSign 45 = true := by decide +kernel
    rw [if_neg (by omega), h45, if_pos this]
    rw [h45] at h2
    omega
  · simp only [if_neg h45, if_pos hi] at h
    unfold starts at h
    simp only [Bool.or_eq_true, Bool.and_eq_true, decide_eq_true_eq] at h
    by_cases h92 : t.getD i 0 = 92
    · rw [if_pos h92]
      by_cases he : (escape t i).2 = i
      · exfalso
        rcases h with h | h | h | h
        · omega
        · omega
        · rw [h92] at h; revert h; decide +kernel
        · omega
      · rw [if_neg he]; omega
    · have : nameSign (t.getD i 0) = true := by
        unfold nameSign
        simp only [Bool.or_eq_true, decide_eq_true_eq]
        rcases h with h | h | h | h
        · left; left; exact h
        · left; right; rw [h]; decide
        · right; exact isalnum_of h
        · exact absurd h.1 h92
      rw [if_neg h92, if_pos this]
      omega
theorem Ex.consP {C : Cx} {ρ : Rho} {st : Stmt} {rest : List Stmt} {Q : Out → Prop} (P : Rho → Prop) (h : Ex1 C ρ st (fun o => match o with | .next ρ' => P ρ' | o => Q o)) (hr : ∀ ρ', P ρ' → Ex C ρ' rest Q) : Ex C ρ (st :: rest) Q :=
  Ex.cons (fun s σ => wpAny_mono (h s σ) (fun f s1 q => let ⟨o, a, b, c⟩ := q; ⟨o, by cases o with | next ρ' => exact hr _ a | cont ρ' => exact a | brk ρ' => exact a | ret p => exact a, b, c⟩) fun _ _ x => x)
theorem pvRow_fit (a b c : PV) : [a, b, c].length ≤ sizeLine := fit3
theorem one_fit {p : PV} : [p].length ≤ sizeLine := by rw [sizeLine_eq]; show 1 ≤ 16777216; omega
theorem nope {v : Option (List Nat × Nat)} {X h x} (r : Rp X h x (pvQ v)) : (x == Value.none) = v.isNone := by
  cases v with
  | none => cases r; rfl
  | some v => cases r; rfl

theorem reads {prog : Program} {w : World} {hB : Heap} (B : Base prog w hB) (t0 t : List Nat) (ht0 : t0.length < 500) (ht : t.length < 1000) (hrep : (Txt.replace (S t0) (S [0]) (S [65533])).cps.toList = t) :
    Can prog w hB "_law_read" 3 [.str t0] (.tup [.lst ((read t t.length [] 0).1.map pvRow), .bool (read t t.length [] 0).2]) :=
  Can.of B 11 ["rows", "i", "sign", "j", "head", "said", "found", "start"] (fun C B h1 h2 h3 hs hn => by
    have kl : C.env.kindOf "len" = some .globalImplicit := kindG hs (by decide +kernel)
    have ko : C.env.kindOf "ord" = some .globalImplicit := kindG hs (by decide +kernel)
    have km : C.env.kindOf "min" = some .globalImplicit := kindG hs (by decide +kernel)
    have ke : C.env.kindOf "_law_escape" = some .globalImplicit := kindG hs (by decide +kernel)
    have kn : C.env.kindOf "_law_name" = some .globalImplicit := kindG hs (by decide +kernel)
    have kq : C.env.kindOf "_law_quoted" = some .globalImplicit := kindG hs (by decide +kernel)
    have kf : C.env.kindOf "_law_figures" = some .globalImplicit := kindG hs (by decide +kernel)
    have hf : ∀ ρ pos, Ev C ρ (.Name "len" pos) (.raw (.builtin "len")) := fun ρ pos => Ev.glob (B.bi ("len", _) (by decide +kernel)) kl rfl
    have ho : ∀ ρ pos, Ev C ρ (.Name "ord" pos) (.raw (.builtin "ord")) := fun ρ pos => Ev.glob (B.bi ("ord", _) (by decide +kernel)) ko rfl
    conv => arg 3; whnf
    refine Ex.seq (ρ' := [("text", .val (.str t)), ("rows", .undef), ("i", .undef), ("sign", .undef), ("j", .undef), ("head", .undef), ("said", .undef), ("found", .undef), ("start", .undef)]) (Ex1.assign (Ev.cast (Ev.replace (Ev.name .here) (by decide) (by show t0.length + (t0.length + 1) * 1 ≤ 16777216; omega) rfl rfl) (congrArg PV.str hrep)) .here rfl rfl) ?_
    refine Ex.seq (ρ' := [("text", .val (.str t)), ("rows", .val (.lst [])), ("i", .val (.int (0 : Nat))), ("sign", .undef), ("j", .undef), ("head", .undef), ("said", .undef), ("found", .undef), ("start", .undef)]) (Ex1.assign2 (Evs.cons (Ev.list Evs.nil (Nat.zero_le _)) (Evs.cons Ev.cint Evs.nil rfl) rfl) (.there (.there .here)) (.there .here) rfl rfl (by rw [swap_of hs]; rfl)) ?_
    generalize hr : read t t.length [] 0 = r
    refine Ex.cons (Ex1.while (fun n ρ => ∃ (i : Nat) (rows : List Row) (m : Nat) (a b c d e f : EV), n = t.length - i ∧ t.length - i ≤ m ∧ (rows.length ≤ i ∧ rows.length ≤ t.length) ∧ read t m rows i = r ∧ ρ = ([("text", .val (.str t)), ("rows", .val (.lst (rows.map pvRow))), ("i", .val (.int i)), ("sign", a), ("j", b), ("head", c), ("said", d), ("found", e), ("start", f)] : Rho)) t.length ⟨0, [], t.length, _, _, _, _, _, _, rfl, Nat.le_refl _, ⟨Nat.le_refl _, Nat.zero_le _⟩, hr, rfl⟩ ?_)
    rintro n ρ1 ⟨i, rows, m, a, b, c, d, e, f, rfl, hm, hrl, hr', rfl⟩
    refine ⟨_, Te.lt (Ev.name (.there (.there .here))) (Ev.len (hf _ _) (Ev.name .here) (by omega) rfl) rfl, fun h => ?_, fun h => ?_⟩
    · have hi : i < t.length := by have := of_decide_eq_true h; omega
      obtain ⟨m, rfl⟩ : ∃ k, m = k + 1 := ⟨m - 1, by omega⟩
      rw [read, if_pos hi] at hr'
      refine Ex.seq (ρ' := [("text", .val (.str t)), ("rows", .val (.lst (rows.map pvRow))), ("i", .val (.int i)), ("sign", .val (.str [t.getD i 0])), ("j", .val (.int i)), ("head", c), ("said", d), ("found", e), ("start", f)]) (Ex1.assign2 (Evs.cons (Ev.idxN (Ev.name .here) (Ev.name (.there (.there .here))) hi (by omega) (fun _ _ => rfl)) (Evs.cons (Ev.name (.there (.there .here))) Evs.nil rfl) rfl) (.there (.there (.there (.there .here)))) (.there (.there (.there .here))) rfl rfl (by rw [swap_of hs]; rfl)) ?_
      generalize hc : t.getD i 0 = g at hr' ⊢
      refine Ex.cons (Ex1.if (Te.in_str (Ev.name (.there (.there (.there .here)))) (Ev.cstr (l := ws) rfl) rfl) (fun h => ?_) fun h => Ex.nil ?_)
      · rw [if_pos (show isWs g = true from h)] at hr'
        refine Ex.seq (ρ' := [("text", .val (.str t)), ("rows", .val (.lst (rows.map pvRow))), ("i", .val (.int i)), ("sign", .val (.str [g])), ("j", .val (.int (runEnd isWs t i))), ("head", c), ("said", d), ("found", e), ("start", f)]) (Ex1.while (fun n ρ => ∃ k : Nat, n = t.length - k ∧ runEnd isWs t k = runEnd isWs t i ∧ ρ = ([("text", .val (.str t)), ("rows", .val (.lst (rows.map pvRow))), ("i", .val (.int i)), ("sign", .val (.str [g])), ("j", .val (.int k)), ("head", c), ("said", d), ("found", e), ("start", f)] : Rho)) (t.length - i) ⟨i, rfl, rfl, rfl⟩ ?_) ?_
        · rintro n ρ1 ⟨k, rfl, ek, rfl⟩
          refine ⟨_, Te.within (k := k) (hf _ _) (Ev.name .here) (Ev.name .here) (Ev.name (.there (.there (.there (.there .here))))) (Ev.name (.there (.there (.there (.there .here))))) (Ev.cstr (l := ws) rfl) (by omega) rfl (fun _ _ => rfl) rfl rfl, fun h => ?_, fun h => ?_⟩
          · unfold inn at h
            simp only [Bool.and_eq_true, decide_eq_true_eq] at h
            exact Ex.cons (Ex1.augInt (.there (.there (.there (.there .here)))) Ev.cint (.there (.there (.there (.there .here)))) (Ex.nil ⟨_, by omega, k + 1, rfl, (runEnd_step h.1 (decide_eq_true h.2)).trans ek, rfl⟩))
          · rw [← ek]
            have : runEnd isWs t k = k := by
              by_cases q : k < t.length
              · exact runEnd_stop q (by unfold inn at h; simp only [q, decide_true, Bool.true_and] at h; exact h)
              · exact runEnd_end (by omega)
            rw [this]
        have hgt : i < runEnd isWs t i := by
          rw [← runEnd_step hi (by rw [hc]; exact h)]
          exact runEnd_ge _ _ _
        refine Ex.cons (Ex1.assign2 (p := .lst ((rows ++ [([83], some [32], i)]).map pvRow)) (q := .int (runEnd isWs t i : Nat)) (Evs.cons (Ev.cast (Ev.cat (Ev.name (.there .here)) (Ev.list (Evs.cons (Ev.tuple (Evs.cons (Ev.cstr rfl) (Evs.cons (Ev.cstr rfl) (Evs.cons (Ev.name (.there (.there .here))) Evs.nil rfl) rfl) rfl) fit3) Evs.nil rfl) one_fit) (by rw [sizeLine_eq, List.length_map]; show rows.length + 1 ≤ _; omega)) (by rw [List.map_append]; rfl)) (Evs.cons (Ev.name (.there (.there (.there (.there .here))))) Evs.nil rfl) rfl) (.there (.there .here)) (.there .here) ?_ rfl (by rw [swap_of hs]; rfl))
        exact Ex.cons (Ex1.cont ⟨_, by omega, _, _, m, _, _, _, _, _, _, rfl, by omega, by rw [List.length_append]; show rows.length + 1 ≤ _ ∧ rows.length + 1 ≤ _; omega, hr', rfl⟩)
      rw [if_neg (show ¬ isWs g = true by unfold isWs; rw [h]; exact Bool.false_ne_true)] at hr'
      generalize hj0 : (if g = 45 then i + 1 else i) = j0
      refine Ex.seq (ρ' := [("text", .val (.str t)), ("rows", .val (.lst (rows.map pvRow))), ("i", .val (.int i)), ("sign", .val (.str [g])), ("j", .val (.int j0)), ("head", c), ("said", d), ("found", e), ("start", f)]) (Ex1.assign (Ev.cast (Ev.ifexp (Te.eq_str (Ev.name (.there (.there (.there .here)))) (Ev.cstr (l := [45]) rfl) rfl) (fun _ => (Ev.add_int (b := 1) (Ev.name (.there (.there .here))) Ev.cint)) (fun _ => (Ev.name (.there (.there .here))))) ?_) (.there (.there (.there (.there .here)))) rfl rfl) ?_
      · rw [← hj0]
        by_cases q : g = 45
        · rw [if_pos (decide_eq_true (by rw [q])), if_pos q]; rfl
        · rw [if_neg (by simpa using q), if_neg q]
      generalize hhd : (if j0 < t.length then t.getD j0 0 else 32) = hd
      refine Ex.seq (ρ' := [("text", .val (.str t)), ("rows", .val (.lst (rows.map pvRow))), ("i", .val (.int i)), ("sign", .val (.str [g])), ("j", .val (.int j0)), ("head", .val (.str [hd])), ("said", d), ("found", e), ("start", f)]) (Ex1.assign (Ev.cast (Ev.ifexp (Te.lt (Ev.name (.there (.there (.there (.there .here))))) (Ev.len (hf _ _) (Ev.name .here) (by omega) rfl) rfl) (fun h => (Ev.idxN (Ev.name .here) (Ev.name (.there (.there (.there (.there .here))))) (by have := of_decide_eq_true h; omega) (by omega) (fun _ _ => rfl))) (fun _ => Ev.cstr (l := [32]) rfl)) ?_) (.there (.there (.there (.there (.there .here))))) rfl rfl) ?_
      · rw [← hhd]
        by_cases q : j0 < t.length
        · rw [if_pos (decide_eq_true (by omega)), if_pos q]
        · rw [if_neg (by simp only [decide_eq_true_eq]; omega), if_neg q]
      have hst : readStart t i = starts t j0 hd := by unfold readStart; rw [hc]; simp only [hj0, hhd]
      refine Ex.cons (Ex1.if (c := starts t j0 hd) (Te.cast (Te.or (Tes.or_cons (Te.gt (Ev.ord (ho _ _) (Ev.name (.there (.there (.there (.there (.there .here)))))) rfl) Ev.cint rfl) fun _ => Tes.or_cons (Te.eq_str (Ev.name (.there (.there (.there (.there (.there .here)))))) (Ev.cstr (l := [95]) rfl) rfl) fun _ => Tes.or_cons (Te.bool (Ev.isalpha (Ev.name (.there (.there (.there (.there (.there .here)))))) rfl rfl) rfl) fun _ => Tes.or_cons
        (Te.and (Tes.and_cons (Te.eq_str (Ev.name (.there (.there (.there (.there (.there .here)))))) (Ev.cstr (l := [92]) rfl) rfl) fun _ => Tes.and_cons (Te.gt (Ev.idxTup (p := .int (escape t j0).2) (Ev.can (escapes B t j0 ht) (Evs.cons (Ev.name .here) (Evs.cons (Ev.name (.there (.there (.there (.there .here))))) Evs.nil rfl) rfl) (by omega) ke rfl rfl) Ev.cint (by omega) rfl (by show 2 < 1000000; omega) (fun _ _ => rfl)) (Ev.name (.there (.there (.there (.there .here))))) rfl) fun _ => Tes.and_nil)) fun _ => Tes.or_nil)) ?_) (fun h => ?_) fun h => Ex.nil ?_)
      · have e1 : ((hd : Int) > 127) ↔ hd > 127 := by omega
        have e2 : (((escape t j0).2 : Int) > j0) ↔ j0 < (escape t j0).2 := by omega
        unfold starts
        simp only [e1, e2, List.cons.injEq, and_true, Bool.and_true, Bool.or_false]
      · rw [← hst] at h
        have hgt := start_gt hi h
        rw [if_pos h] at hr'
        refine Ex.seq (ρ' := [("text", .val (.str t)), ("rows", .val (.lst (rows.map pvRow))), ("i", .val (.int i)), ("sign", .val (.str [g])), ("j", .val (.int (nm t i).2)), ("head", .val (.str [hd])), ("said", .val (.str (nm t i).1)), ("found", e), ("start", f)]) (Ex1.unpack (Ev.can (names B t i ht (by omega)) (Evs.cons (Ev.name .here) (Evs.cons (Ev.name (.there (.there .here))) Evs.nil rfl) rfl) (by omega) kn rfl rfl) (.there (.there (.there (.there (.there (.there .here)))))) (.there (.there (.there (.there .here)))) rfl rfl (by rw [swap_of hs]; rfl)) ?_
        refine Ex.cons (Ex1.assign2 (p := .lst ((rows ++ [([73, 68, 69, 78, 84], some (nm t i).1, i)]).map pvRow)) (q := .int ((nm t i).2 : Nat)) (Evs.cons (Ev.cast (Ev.cat (Ev.name (.there .here)) (Ev.list (Evs.cons (Ev.tuple (Evs.cons (Ev.cstr rfl) (Evs.cons (Ev.name (.there (.there (.there (.there (.there (.there .here))))))) (Evs.cons (Ev.name (.there (.there .here))) Evs.nil rfl) rfl) rfl) fit3) Evs.nil rfl) one_fit) (by rw [sizeLine_eq, List.length_map]; show rows.length + 1 ≤ _; omega)) (by rw [List.map_append]; rfl)) (Evs.cons (Ev.name (.there (.there (.there (.there .here))))) Evs.nil rfl) rfl) (.there (.there .here)) (.there .here) ?_ rfl (by rw [swap_of hs]; rfl))
        exact Ex.cons (Ex1.cont ⟨_, by omega, _, _, m, _, _, _, _, _, _, rfl, by omega, by rw [List.length_append]; show rows.length + 1 ≤ _ ∧ rows.length + 1 ≤ _; omega, hr', rfl⟩)
      rw [← hst] at h
      rw [if_neg (by rw [h]; exact Bool.false_ne_true)] at hr'
      refine Ex.consP (fun ρ' => ¬ (g = 35 ∧ (nm t (i + 1)).2 > i + 1) ∧ ∃ b d, ρ' = ([("text", .val (.str t)), ("rows", .val (.lst (rows.map pvRow))), ("i", .val (.int i)), ("sign", .val (.str [g])), ("j", b), ("head", .val (.str [hd])), ("said", d), ("found", e), ("start", f)] : Rho)) (Ex1.if (Te.eq_str (Ev.name (.there (.there (.there .here)))) (Ev.cstr (l := [35]) rfl) rfl) (fun h => ?_) fun h => Ex.nil ⟨fun q => ?_, _, _, rfl⟩) ?_
      · have hg : g = 35 := by have := of_decide_eq_true h; simpa using this
        refine Ex.seq (ρ' := [("text", .val (.str t)), ("rows", .val (.lst (rows.map pvRow))), ("i", .val (.int i)), ("sign", .val (.str [g])), ("j", .val (.int (nm t (i + 1)).2)), ("head", .val (.str [hd])), ("said", .val (.str (nm t (i + 1)).1)), ("found", e), ("start", f)]) (Ex1.unpack (Ev.can (names B t (i + 1) ht (by omega)) (Evs.cons (Ev.name .here) (Evs.cons (Ev.add_int (b := 1) (Ev.name (.there (.there .here))) Ev.cint) Evs.nil rfl) rfl) (by omega) kn rfl rfl) (.there (.there (.there (.there (.there (.there .here)))))) (.there (.there (.there (.there .here)))) rfl rfl (by rw [swap_of hs]; rfl)) ?_
        refine Ex.cons (Ex1.if (Te.gt (Ev.name (.there (.there (.there (.there .here))))) (Ev.add_int (b := 1) (Ev.name (.there (.there .here))) Ev.cint) rfl) (fun h => ?_) fun h => Ex.nil (Ex.nil ⟨fun q => ?_, _, _, rfl⟩))
        · have hgt : (nm t (i + 1)).2 > i + 1 := by have := of_decide_eq_true h; omega
          rw [if_pos ⟨hg, hgt⟩] at hr'
          refine Ex.cons (Ex1.assign2 (p := .lst ((rows ++ [([72, 65, 83, 72], some (nm t (i + 1)).1, i)]).map pvRow)) (q := .int ((nm t (i + 1)).2 : Nat)) (Evs.cons (Ev.cast (Ev.cat (Ev.name (.there .here)) (Ev.list (Evs.cons (Ev.tuple (Evs.cons (Ev.cstr rfl) (Evs.cons (Ev.name (.there (.there (.there (.there (.there (.there .here))))))) (Evs.cons (Ev.name (.there (.there .here))) Evs.nil rfl) rfl) rfl) fit3) Evs.nil rfl) one_fit) (by rw [sizeLine_eq, List.length_map]; show rows.length + 1 ≤ _; omega)) (by rw [List.map_append]; rfl)) (Evs.cons (Ev.name (.there (.there (.there (.there .here))))) Evs.nil rfl) rfl) (.there (.there .here)) (.there .here) ?_ rfl (by rw [swap_of hs]; rfl))
          exact Ex.cons (Ex1.cont ⟨_, by omega, _, _, m, _, _, _, _, _, _, rfl, by omega, by rw [List.length_append]; show rows.length + 1 ≤ _ ∧ rows.length + 1 ≤ _; omega, hr', rfl⟩)
        · have := of_decide_eq_false h
          omega
      · have := of_decide_eq_false h
        exact this (by rw [q.1])
      rintro _ ⟨hh, b, d, rfl⟩
      rw [if_neg hh] at hr'
      refine Ex.cons (Ex1.if (Te.or (Tes.or_cons (Te.eq_str (Ev.name (.there (.there (.there .here)))) (Ev.cstr (l := [39]) rfl) rfl) fun _ => Tes.or_cons (Te.eq_str (Ev.name (.there (.there (.there .here)))) (Ev.cstr (l := [34]) rfl) rfl) fun _ => Tes.or_nil)) (fun h => ?_) fun h => Ex.nil ?_)
      · rw [if_pos (by simpa only [List.cons.injEq, and_true, Bool.or_eq_true, decide_eq_true_eq, Bool.or_false] using h)] at hr'
        have Q := quoteds B t i ht hi
        rw [hc] at Q
        generalize hq : quoted t g (t.length - (i + 1)) [] (i + 1) = q at Q hr'
        refine Ex.seq (ρ' := [("text", .val (.str t)), ("rows", .val (.lst (rows.map pvRow))), ("i", .val (.int i)), ("sign", .val (.str [g])), ("j", b), ("head", .val (.str [hd])), ("said", d), ("found", .val (pvQ q)), ("start", f)]) (Ex1.assign (Ev.can Q (Evs.cons (Ev.name .here) (Evs.cons (Ev.name (.there (.there .here))) Evs.nil rfl) rfl) (by omega) kq rfl rfl) (.there (.there (.there (.there (.there (.there (.there .here))))))) rfl rfl) ?_
        refine Ex.cons (Ex1.if (Te.isNone q.isNone (Ev.name (.there (.there (.there (.there (.there (.there (.there .here)))))))) (fun X h x r => nope r)) (fun h => ?_) fun h => Ex.nil ?_)
        · obtain rfl : q = none := by cases q with | none => rfl | some v => cases h
          refine Ex.cons (Ex1.ret (Ev.tuple (Evs.cons (Ev.name (.there .here)) (Evs.cons Ev.cbool Evs.nil rfl) rfl) fit2) ?_)
          show Out.ret _ = _
          rw [← hr']
        · obtain ⟨⟨sd, k⟩, rfl⟩ : ∃ v, q = some v := by cases q with | none => cases h | some v => exact ⟨v, rfl⟩
          have hgt := quoted_gt t g _ _ _ _ _ hq
          refine Ex.cons (Ex1.assign2 (p := .lst ((rows ++ [([83, 84, 82, 73, 78, 71], some sd, i)]).map pvRow)) (q := .int (k : Nat)) (Evs.cons (Ev.cast (Ev.cat (Ev.name (.there .here)) (Ev.list (Evs.cons (Ev.tuple (Evs.cons (Ev.cstr rfl) (Evs.cons (Ev.idxTup (k := 0) (l := [.str sd, .int k]) (p := .str sd) (Ev.name (.there (.there (.there (.there (.there (.there (.there .here)))))))) Ev.cint (by omega) rfl (by show 2 < 1000000; omega) (fun _ _ => rfl)) (Evs.cons (Ev.name (.there (.there .here))) Evs.nil rfl) rfl) rfl) fit3) Evs.nil rfl) one_fit) (by rw [sizeLine_eq, List.length_map]; show rows.length + 1 ≤ _; omega)) (by rw [List.map_append]; rfl)) (Evs.cons (Ev.idxTup (k := 1) (l := [.str sd, .int k]) (p := .int k) (Ev.name (.there (.there (.there (.there (.there (.there (.there .here)))))))) Ev.cint (by omega) rfl (by show 2 < 1000000; omega) (fun _ _ => rfl)) Evs.nil rfl) rfl) (.there (.there .here)) (.there .here) ?_ rfl (by rw [swap_of hs]; rfl))
          exact Ex.cons (Ex1.cont ⟨_, by omega, _, _, m, _, _, _, _, _, _, rfl, by omega, by rw [List.length_append]; show rows.length + 1 ≤ _ ∧ rows.length + 1 ≤ _; omega, hr', rfl⟩)
      rw [if_neg (by
        intro q
        have : (decide ([g] = [39]) || (decide ([g] = [34]) || false)) = true := by simpa only [List.cons.injEq, and_true, Bool.or_eq_true, decide_eq_true_eq, Bool.or_false] using q
        rw [this] at h; cases h)] at hr'
      generalize hs0 : (if g ∈ [43, 45] then i + 1 else i) = s0 at hr'
      have hs1 : i ≤ s0 := by rw [← hs0]; split <;> omega
      have hng := numEnd_ge t s0
      refine Ex.seq (ρ' := [("text", .val (.str t)), ("rows", .val (.lst (rows.map pvRow))), ("i", .val (.int i)), ("sign", .val (.str [g])), ("j", b), ("head", .val (.str [hd])), ("said", d), ("found", e), ("start", .val (.int s0))]) (Ex1.assign (Ev.cast (Ev.ifexp (Te.in_str (Ev.name (.there (.there (.there .here)))) (Ev.cstr (l := [43, 45]) rfl) rfl) (fun _ => (Ev.add_int (b := 1) (Ev.name (.there (.there .here))) Ev.cint)) (fun _ => (Ev.name (.there (.there .here))))) ?_) (.there (.there (.there (.there (.there (.there (.there (.there .here)))))))) rfl rfl) ?_
      · rw [← hs0]
        by_cases q : g ∈ [43, 45]
        · rw [if_pos (decide_eq_true q), if_pos q]; rfl
        · rw [if_neg (by simpa using q), if_neg q]
      refine Ex.seq (ρ' := [("text", .val (.str t)), ("rows", .val (.lst (rows.map pvRow))), ("i", .val (.int i)), ("sign", .val (.str [g])), ("j", .val (.int (figs t s0))), ("head", .val (.str [hd])), ("said", d), ("found", e), ("start", .val (.int s0))]) (Ex1.assign (Ev.can (figures B t s0 ht) (Evs.cons (Ev.name .here) (Evs.cons (Ev.name (.there (.there (.there (.there (.there (.there (.there (.there .here))))))))) Evs.nil rfl) rfl) (by omega) kf rfl rfl) (.there (.there (.there (.there .here)))) rfl rfl) ?_
      refine Ex.seq (ρ' := [("text", .val (.str t)), ("rows", .val (.lst (rows.map pvRow))), ("i", .val (.int i)), ("sign", .val (.str [g])), ("j", .val (.int (numEnd t s0))), ("head", .val (.str [hd])), ("said", d), ("found", e), ("start", .val (.int s0))]) (Ex1.if (Te.and (Tes.and_cons (Te.lt (Ev.name (.there (.there (.there (.there .here))))) (Ev.len (hf _ _) (Ev.name .here) (by omega) rfl) rfl) fun h => Tes.and_cons (Te.eq_str (Ev.idxN (Ev.name .here) (Ev.name (.there (.there (.there (.there .here))))) (by have := of_decide_eq_true h; omega) (by omega) (fun _ _ => rfl)) (Ev.cstr (l := [46]) rfl) rfl) fun _ => Tes.and_cons
        (Te.gt (Ev.can (figures B t (figs t s0 + 1) ht) (Evs.cons (Ev.name .here) (Evs.cons (Ev.add_int (b := 1) (Ev.name (.there (.there (.there (.there .here))))) Ev.cint) Evs.nil rfl) rfl) (by omega) kf rfl rfl) (Ev.add_int (b := 1) (Ev.name (.there (.there (.there (.there .here))))) Ev.cint) rfl) fun _ => Tes.and_nil)) (fun h => Ex.cons (Ex1.assign (Ev.can (figures B t (figs t s0 + 1) ht) (Evs.cons (Ev.name .here) (Evs.cons (Ev.add_int (b := 1) (Ev.name (.there (.there (.there (.there .here))))) Ev.cint) Evs.nil rfl) rfl) (by omega) kf rfl rfl) (.there (.there (.there (.there .here)))) (Ex.nil ?_) rfl)) fun h => Ex.nil ?_) ?_
      · have : numEnd t s0 = figs t (figs t s0 + 1) := if_pos (by
          simp only [Bool.and_eq_true, Bool.and_true, decide_eq_true_eq, List.cons.injEq, and_true] at h
          exact ⟨by omega, h.2.1, by omega⟩)
        rw [this]
      · have : numEnd t s0 = figs t s0 := if_neg (fun q => by
          have e1 : ((figs t s0 : Nat) : Int) < t.length := by omega
          have e2 : ((figs t (figs t s0 + 1) : Nat) : Int) > (figs t s0 : Int) + 1 := by omega
          rw [decide_eq_true e1, decide_eq_true e2, decide_eq_true (show [t.getD (figs t s0) 0] = [46] by rw [q.2.1])] at h
          cases h)
        rw [this]
      refine Ex.cons (Ex1.if (Te.gt (Ev.name (.there (.there (.there (.there .here))))) (Ev.name (.there (.there (.there (.there (.there (.there (.there (.there .here))))))))) rfl) (fun h => ?_) fun h => ?_)
      · have hgt : numEnd t s0 > s0 := by have := of_decide_eq_true h; omega
        rw [if_pos hgt] at hr'
        refine Ex.cons (Ex1.assign2 (p := .lst ((rows ++ [([78, 85, 77, 66, 69, 82], some (slc t (some i) (some (numEnd t s0))), i)]).map pvRow)) (q := .int (numEnd t s0 : Nat)) (Evs.cons (Ev.cast (Ev.cat (Ev.name (.there .here)) (Ev.list (Evs.cons (Ev.tuple (Evs.cons (Ev.cstr rfl) (Evs.cons (Ev.slice (a := some i) (b := some (numEnd t s0)) (Ev.name .here) (Ev.name (.there (.there .here))) (Ev.name (.there (.there (.there (.there .here))))) (by rw [sizeLine_eq]; omega) (fun _ _ => rfl)) (Evs.cons (Ev.name (.there (.there .here))) Evs.nil rfl) rfl) rfl) fit3) Evs.nil rfl) one_fit) (by rw [sizeLine_eq, List.length_map]; show rows.length + 1 ≤ _; omega)) (by rw [List.map_append]; rfl)) (Evs.cons (Ev.name (.there (.there (.there (.there .here))))) Evs.nil rfl) rfl) (.there (.there .here)) (.there .here) ?_ rfl (by rw [swap_of hs]; rfl))
        exact Ex.nil (Ex.nil ⟨_, by omega, _, _, m, _, _, _, _, _, _, rfl, by omega, by rw [List.length_append]; show rows.length + 1 ≤ _ ∧ rows.length + 1 ≤ _; omega, hr', rfl⟩)
      rw [if_neg (by have := of_decide_eq_false h; omega)] at hr'
      refine Ex.cons (Ex1.if (Te.eq_str (Ev.slice (a := some i) (b := some (i + 2 : Int)) (Ev.name .here) (Ev.name (.there (.there .here))) (Ev.add_int (b := 2) (Ev.name (.there (.there .here))) Ev.cint) (by rw [sizeLine_eq]; omega) (fun _ _ => rfl)) (Ev.cstr (l := [47, 42]) rfl) rfl) (fun h => ?_) fun h => ?_)
      · rw [if_pos (of_decide_eq_true h)] at hr'
        refine Ex.seq (ρ' := [("text", .val (.str t)), ("rows", .val (.lst (rows.map pvRow))), ("i", .val (.int i)), ("sign", .val (.str [g])), ("j", .val (.int (i + 2 : Nat))), ("head", .val (.str [hd])), ("said", d), ("found", e), ("start", .val (.int s0))]) (Ex1.assign (Ev.add_int (b := 2) (Ev.name (.there (.there .here))) Ev.cint) (.there (.there (.there (.there .here)))) rfl rfl) ?_
        generalize hce : comEnd t (t.length - (i + 2)) (i + 2) = ce at hr'
        have hceg : i + 2 ≤ ce := hce ▸ comEnd_ge t _ _
        refine Ex.seq (ρ' := [("text", .val (.str t)), ("rows", .val (.lst (rows.map pvRow))), ("i", .val (.int i)), ("sign", .val (.str [g])), ("j", .val (.int ce)), ("head", .val (.str [hd])), ("said", d), ("found", e), ("start", .val (.int s0))]) (Ex1.while (fun n ρ => ∃ k : Nat, n = t.length - k ∧ comEnd t (t.length - k) k = ce ∧ ρ = ([("text", .val (.str t)), ("rows", .val (.lst (rows.map pvRow))), ("i", .val (.int i)), ("sign", .val (.str [g])), ("j", .val (.int k)), ("head", .val (.str [hd])), ("said", d), ("found", e), ("start", .val (.int s0))] : Rho)) (t.length - (i + 2)) ⟨_, rfl, hce, rfl⟩ ?_) ?_
        · rintro n ρ1 ⟨k, rfl, ek, rfl⟩
          refine ⟨_, Te.and (Tes.and_cons (Te.lt (Ev.name (.there (.there (.there (.there .here))))) (Ev.len (hf _ _) (Ev.name .here) (by omega) rfl) rfl) fun _ => Tes.and_cons (Te.ne_str (Ev.slice (a := some k) (b := some (k + 2 : Int)) (Ev.name .here) (Ev.name (.there (.there (.there (.there .here))))) (Ev.add_int (b := 2) (Ev.name (.there (.there (.there (.there .here))))) Ev.cint) (by rw [sizeLine_eq]; omega) (fun _ _ => rfl)) (Ev.cstr (l := [42, 47]) rfl) rfl) fun _ => Tes.and_nil), fun h => ?_, fun h => ?_⟩
          · simp only [Bool.and_eq_true, Bool.and_true, decide_eq_true_eq, Bool.not_eq_true', decide_eq_false_iff_not] at h
            have hk : k < t.length := by omega
            rw [show t.length - k = (t.length - (k + 1)) + 1 by omega, comEnd, if_pos ⟨hk, h.2⟩] at ek
            exact Ex.cons (Ex1.augInt (.there (.there (.there (.there .here)))) Ev.cint (.there (.there (.there (.there .here)))) (Ex.nil ⟨_, by omega, k + 1, rfl, ek, rfl⟩))
          · have : comEnd t (t.length - k) k = k := by
              by_cases hk : k < t.length
              · rw [show t.length - k = (t.length - (k + 1)) + 1 by omega, comEnd, if_neg]
                rintro ⟨_, q⟩
                rw [decide_eq_true (show (k : Int) < t.length by omega), decide_eq_false q] at h
                cases h
              · rw [show t.length - k = 0 by omega]; rfl
            rw [← ek, this]
        have hmin : i < min (ce + 2) t.length := by omega
        exact Ex.cons (Ex1.assign (Ev.cast (q := .int (min (ce + 2) t.length : Nat)) (Ev.min (a := (ce : Int) + 2) (b := t.length) (Ev.glob (B.bi ("min", _) (by decide +kernel)) km rfl) (Ev.add_int (b := 2) (Ev.name (.there (.there (.there (.there .here))))) Ev.cint) (Ev.len (hf _ _) (Ev.name .here) (by omega) rfl) rfl rfl (fun _ => rfl)) (by congr 1; split <;> omega)) (.there (.there .here)) (Ex.nil (Ex.nil (Ex.nil ⟨_, by omega, _, _, m, _, _, _, _, _, _, rfl, by omega, by omega, hr', rfl⟩))) rfl)
      · rw [if_neg (of_decide_eq_false h)] at hr'
        refine Ex.cons (Ex1.assign2 (p := .lst ((rows ++ [([68, 69, 76, 73, 77], some [g], i)]).map pvRow)) (q := .int (i + 1 : Nat)) (Evs.cons (Ev.cast (Ev.cat (Ev.name (.there .here)) (Ev.list (Evs.cons (Ev.tuple (Evs.cons (Ev.cstr rfl) (Evs.cons (Ev.name (.there (.there (.there .here)))) (Evs.cons (Ev.name (.there (.there .here))) Evs.nil rfl) rfl) rfl) fit3) Evs.nil rfl) one_fit) (by rw [sizeLine_eq, List.length_map]; show rows.length + 1 ≤ _; omega)) (by rw [List.map_append]; rfl)) (Evs.cons (Ev.add_int (b := 1) (Ev.name (.there (.there .here))) Ev.cint) Evs.nil rfl) rfl) (.there (.there .here)) (.there .here) ?_ rfl (by rw [swap_of hs]; rfl))
        exact Ex.nil (Ex.nil (Ex.nil ⟨_, by omega, _, _, m, _, _, _, _, _, _, rfl, by omega, by rw [List.length_append]; show rows.length + 1 ≤ _ ∧ rows.length + 1 ≤ _; omega, hr', rfl⟩))
    · have hi : ¬ i < t.length := by have := of_decide_eq_false h; omega
      have hr2 : (rows ++ [(([69, 79, 70] : List Nat), (none : Option (List Nat)), i)], false) = r := by
        rw [← hr']
        cases m with
        | zero => rfl
        | succ m => rw [read, if_neg hi]
      refine Ex.cons (Ex1.ret (Ev.tuple (Evs.cons (Ev.cat (Ev.name (.there .here)) (Ev.list (Evs.cons (Ev.tuple (Evs.cons (Ev.cstr rfl) (Evs.cons Ev.cnone (Evs.cons (Ev.name (.there (.there .here))) Evs.nil rfl) rfl) rfl) fit3) Evs.nil rfl) one_fit) (by rw [sizeLine_eq, List.length_map]; show rows.length + 1 ≤ _; omega)) (Evs.cons Ev.cbool Evs.nil rfl) rfl) fit2) ?_)
      show Out.ret _ = _
      rw [← hr2, List.map_append]
      rfl)
end Mine
end
section
open PySem PySem.W PyProof.Rows PySem.Calls
set_option Elab.async false
set_option linter.unusedVariables false
set_option linter.unusedSimpArgs false
set_option maxRecDepth 100000
namespace Mine
section
variable {C : Cx} {ρ : Rho}
/-- x not in (c, d, ..), texts -/
theorem Te.notInTup {l r : Expr} {pos : Pos} {a : List Nat} {ts : List (List Nat)} (ha : Ev C ρ l (.str a)) (hb : Ev C ρ r (.tup (ts.map .str))) (hm : behindInMarks .NotIn r = false) : Te C ρ (.Compare l [.NotIn] [r] pos) (!decide (a ∈ ts)) :=
  Te.cmp ha hb (fun s v u σ rv ru => by
    cases rv with
    | str _ tk =>
    cases ru with
    | tup A vs _ hx ht hr =>
      obtain ⟨lv, rfl, el⟩ := strs_of hr
      refine PySem.SeqAt.notIn_tupleAt (fun y => match y with | .str x _ => x == S a | _ => false) ht (fun y hy => ?_) ⟨?_, .rfl⟩
      · have hy : y ∈ strValues lv := by simpa using hy
        obtain ⟨p, _, rfl⟩ := List.mem_map.mp hy
        exact PySem.SeqAt.EqAt.str_str _ _ _ _
      · congr 2
        have e1 : (strValues lv).toArray.any (fun y => match y with | .str x _ => x == S a | _ => false) = (lv.map (·.1)).any (fun x => x == S a) := by
          rw [List.any_toArray]
          unfold strValues
          rw [List.any_map, List.any_map]
          rfl
        rw [e1, el, List.any_map]
        rw [Bool.eq_iff_iff]
        simp only [List.any_eq_true, decide_eq_true_eq, Function.comp]
        constructor
        · rintro ⟨x, hx, e⟩
          rw [beq_iff_eq] at e
          rw [← S_inj.mp e]; exact hx
        · intro h
          exact ⟨a, h, by simp⟩) hm
end

theorem flat_one : ∀ l : List Nat, (l.map fun c => [c]).flatten = l
  | [] => rfl
  | a :: l => by rw [List.map_cons, List.flatten_cons, flat_one l]; rfl
/-- what _sub_simple_escape makes from pos on -/
def simple (t : List Nat) : Nat → Nat → List Nat
  | 0, _ => []
  | n + 1, p =>
    if p < t.length then
      if t.getD p 0 = 92 ∧ slc t (some (p + 1 : Int)) (some (p + 2 : Int)) ∉ [[], [10]] then t.getD (p + 1) 0 :: simple t n (p + 2)
      else t.getD p 0 :: simple t n (p + 1)
    else []
theorem simple_fuel (t : List Nat) : ∀ n m p, t.length - p ≤ n → t.length - p ≤ m → simple t n p = simple t m p := by
  intro n
  induction n with
  | zero =>
    intro m p h1 h2
    cases m with
    | zero => rfl
    | succ m => unfold simple; rw [if_neg (by omega)]
  | succ n ih =>
    intro m p h1 h2
    cases m with
    | zero => unfold simple; rw [if_neg (by omega)]
    | succ m =>
      unfold simple
      split
      · split
        · rw [ih m (p + 2) (by omega) (by omega)]
        · rw [ih m (p + 1) (by omega) (by omega)]
      · rfl
theorem slc_two {t : List Nat} {p : Nat} : slc t (some (p + 1 : Int)) (some (p + 2 : Int)) = if p + 1 < t.length then [t.getD (p + 1) 0] else [] := by
  unfold slc clipN
  by_cases h : p + 1 < t.length
  · rw [if_pos h]
    have e1 : (max 0 (min (if (p + 1 : Int) < 0 then (p + 1 : Int) + t.length else (p + 1 : Int)) (t.length : Int))).toNat = p + 1 := by rw [if_neg (by omega)]; omega
    have e2 : (max 0 (min (if (p + 2 : Int) < 0 then (p + 2 : Int) + t.length else (p + 2 : Int)) (t.length : Int))).toNat = p + 2 := by rw [if_neg (by omega)]; omega
    dsimp only
    rw [e1, e2, show p + 2 - (p + 1) = 1 by omega, List.drop_eq_getElem_cons h, List.getD_eq_getElem?_getD, List.getElem?_eq_getElem h]
    rfl
  · rw [if_neg h]
    apply List.eq_nil_of_length_eq_zero
    rw [List.length_take]
    dsimp only
    split <;> split <;> omega
theorem simples {prog : Program} {w : World} {hB : Heap} (B : Base prog w hB) (t : List Nat) (ht : t.length < 1000) : Can prog w hB "_sub_simple_escape" 1 [.str t] (.str (simple t t.length 0)) :=
  Can.of B 3 ["result", "pos"] (fun C B h1 h2 h3 hs hn => by
    have kl : C.env.kindOf "len" = some .globalImplicit := kindG hs (by decide +kernel)
    conv => arg 3; whnf
    refine Ex.own (fun o h => ⟨_, h⟩) (fun D hD => Ev.cint) (.there (.there .here)) (fun D hD => ⟨_, .there .here, ?_⟩) rfl (by rw [swap_of hs]; rfl) rfl
    have hf : ∀ ρ pos, Ev (C.with D hD) ρ (.Name "len" pos) (.raw (.builtin "len")) := fun ρ pos => Ev.glob (C := C.with D hD) (B.bi ("len", _) (by decide +kernel)) kl rfl
    generalize hr : simple t t.length 0 = r
    refine Ex.cons (Ex1.while (fun n ρ => ∃ (p : Nat) (acc : List Nat), n = t.length - p ∧ acc.length ≤ p ∧ acc.length ≤ t.length ∧ acc ++ simple t (t.length - p) p = r ∧ ρ = ([("value", .val (.str t)), ("result", .own D ((acc.map fun c => [c]).map PV.str)), ("pos", .val (.int p))] : Rho)) t.length ⟨0, [], rfl, Nat.le_refl _, Nat.zero_le _, hr, rfl⟩ ?_)
    rintro n ρ1 ⟨p, acc, rfl, hal, hal2, e, rfl⟩
    refine ⟨_, Te.lt (Ev.name (.there (.there .here))) (Ev.len (hf _ _) (Ev.name .here) (by omega) rfl) rfl, fun h => ?_, fun h => ?_⟩
    · have hp : p < t.length := by have := of_decide_eq_true h; omega
      have e' := e
      rw [show t.length - p = (t.length - p - 1) + 1 by omega, simple, if_pos hp] at e'
      have fin : ∀ (q : Nat), q < t.length → p ≤ q → acc ++ t.getD q 0 :: simple t (t.length - (q + 1)) (q + 1) = r → True := fun _ _ _ _ => trivial
      let q := if t.getD p 0 = 92 ∧ slc t (some (p + 1 : Int)) (some (p + 2 : Int)) ∉ [[], [10]] then p + 1 else p
      have hq : q < t.length ∧ p ≤ q ∧ acc ++ t.getD q 0 :: simple t (t.length - (q + 1)) (q + 1) = r := by
        show (if _ then p + 1 else p) < t.length ∧ p ≤ (if _ then p + 1 else p) ∧ acc ++ t.getD (if _ then p + 1 else p) 0 :: simple t (t.length - ((if _ then p + 1 else p) + 1)) ((if _ then p + 1 else p) + 1) = r
        by_cases hc : t.getD p 0 = 92 ∧ slc t (some (p + 1 : Int)) (some (p + 2 : Int)) ∉ [[], [10]]
        · rw [if_pos hc] at e' ⊢
          have : p + 1 < t.length := by
            rcases Nat.lt_or_ge (p + 1) t.length with z | z
            · exact z
            · exfalso
              have := hc.2
              rw [slc_two, if_neg (by omega)] at this
              exact this (.head _)
          refine ⟨this, by omega, ?_⟩
          rw [simple_fuel t _ (t.length - p - 1) (p + 1 + 1) (by omega) (by omega)]
          exact e'
        · rw [if_neg hc] at e' ⊢
          refine ⟨hp, Nat.le_refl _, ?_⟩
          rw [simple_fuel t _ (t.length - p - 1) (p + 1) (by omega) (by omega)]
          exact e'
      refine Ex.seq (ρ' := [("value", .val (.str t)), ("result", .own D ((acc.map fun c => [c]).map PV.str)), ("pos", .val (.int q))]) (Ex1.if (Te.and (Tes.and_cons (Te.eq_str (Ev.idxN (Ev.name .here) (Ev.name (.there (.there .here))) hp (by omega) (fun _ _ => rfl)) (Ev.cstr (l := [92]) rfl) rfl) fun _ => Tes.and_cons
        (Te.notInTup (ts := [[], [10]]) (Ev.slice (a := some (p + 1 : Int)) (b := some (p + 2 : Int)) (Ev.name .here) (Ev.add_int (b := 1) (Ev.name (.there (.there .here))) Ev.cint) (Ev.add_int (b := 2) (Ev.name (.there (.there .here))) Ev.cint) (by rw [sizeLine_eq]; omega) (fun _ _ => rfl)) (Ev.tuple (Evs.cons (Ev.cstr rfl) (Evs.cons (Ev.cstr rfl) Evs.nil rfl) rfl) fit2) rfl) fun _ => Tes.and_nil))
        (fun h => Ex.cons (Ex1.augInt (.there (.there .here)) Ev.cint (.there (.there .here)) (Ex.nil ?_))) (fun h => Ex.nil ?_)) ?_
      · have : q = p + 1 := if_pos (by simpa only [Bool.and_eq_true, Bool.and_true, decide_eq_true_eq, List.cons.injEq, and_true, Bool.not_eq_true', decide_eq_false_iff_not] using h)
        rw [this]; rfl
      · have : q = p := if_neg (fun z => by
          rw [decide_eq_true (show [t.getD p 0] = [92] by rw [z.1]), decide_eq_false z.2] at h
          cases h)
        rw [this]
      obtain ⟨hq1, hq2, hq3⟩ := hq
      clear_value q
      refine Ex.seq (ρ' := [("value", .val (.str t)), ("result", .own D (((acc ++ [t.getD q 0]).map fun c => [c]).map PV.str)), ("pos", .val (.int q))]) (Ex1.append (C := C.with D hD) (.there .here) (.head _) (Ev.idxN (Ev.name .here) (Ev.name (.there (.there .here))) hq1 (by omega) (fun _ _ => rfl)) (by rw [List.map_append, List.map_append]; exact .there .here) rfl (by rw [sizeLine_eq, List.length_map, List.length_map]; omega) rfl rfl rfl rfl rfl (by show (C.env.scope.kind == .module && _) = false; rw [C.kind]; rfl) rfl) ?_
      have hacc : acc.length + 1 ≤ t.length := by omega
      refine Ex.cons (Ex1.augInt (.there (.there .here)) Ev.cint (.there (.there .here)) (Ex.nil ⟨_, by omega, q + 1, _, rfl, by rw [List.length_append, List.length_singleton]; omega, by rw [List.length_append, List.length_singleton]; omega, by rw [List.append_assoc]; exact hq3, rfl⟩))
    · have hp : ¬ p < t.length := by have := of_decide_eq_false h; omega
      have e' : acc = r := by
        rw [← e, show t.length - p = 0 by omega]
        simp [simple]
      refine Ex.cons (Ex1.ret (Ev.joinOwn (.there .here) (by rw [List.length_map]; omega) (fun x hx => by
        obtain ⟨c, _, rfl⟩ := List.mem_map.mp hx
        exact Nat.le_refl _) rfl rfl) ?_)
      show Out.ret _ = _
      rw [flat_one, e'])
end Mine
end
section
open PySem PySem.W PyProof.Rows PySem.Calls
set_option maxRecDepth 100000
namespace Mine
theorem sgn (a : Nat) (l : List Nat) (h : a ≠ 45 ∧ a ≠ 43) : (match a :: l with | 45 :: r => (true, r) | 43 :: r => (false, r) | _ => (false, a :: l)) = (false, a :: l) := by
  split
  · rename_i e; cases e; exact absurd rfl h.1
  · rename_i e; cases e; exact absurd rfl h.2
  · rfl
/-- a reader of hex figures, told by its parts -/
theorem rn {N : Type} {inv : N} {tl : Nat → N} {lib : N} {val : Int → N} {R : Nat → Nat → List Nat → N} {blank : Nat → Bool} {pre : List Nat → Option Nat} {dig : Nat → List Nat → Option (Array Nat)} {F : Array Nat × Bool → Nat → Option (Array Nat × Bool)}
    (hR : ∀ limit base text, R limit base text =
      (match (match text.dropWhile blank with
          | 45 :: r => (true, r)
          | 43 :: r => (false, r)
          | _ => (false, text.dropWhile blank)) with
        | (negative, t) => match (match pre t with
            | some p => if (base == 0 || base == p) = true then (p, false, match t.drop 2 with | 95 :: r => r | r => r) else (base, false, t)
            | none => if (base == 0) = true then (10, t.head? == some 48, t) else (base, false, t)) with
          | (b, zeroOnly, t) => match dig b (t.reverse.dropWhile blank).reverse with
            | none => inv
            | some ds => if (![2, 4, 8, 16, 32].contains b && limit != 0 && decide (ds.size > limit)) = true then tl ds.size else if (b == 10 && decide (ds.size > 6000)) = true then lib
              else if (zeroOnly && ds.foldl (fun acc d => acc * b + d) 0 != 0) = true then inv else val (if negative = true then -((ds.foldl (fun acc d => acc * b + d) 0 : Nat) : Int) else ((ds.foldl (fun acc d => acc * b + d) 0 : Nat) : Int))))
    (hD : ∀ cs, dig 16 cs = (cs.foldlM F ((#[] : Array Nat), false) >>= fun p => if p.2 = true then some p.1 else none)) (hF : ∀ ds a, ∀ c ∈ sixteen, F (ds, a) c = some (ds.push (hexDigit c), true)) (hb : ∀ c ∈ sixteen, blank c = false)
    (hp : ∀ a ∈ sixteen, a ≠ 48 → ∀ l, pre (a :: l) = none) (hp0 : pre [48] = none) (hp8 : ∀ b ∈ sixteen, ∀ l, pre (48 :: b :: l) ≠ some 16) (x : List Nat) (hx : ∀ c ∈ x, c ∈ sixteen) (h0 : x ≠ []) : R 0 16 x = val (hexVal x) := by
  have hfold : ∀ (l : List Nat) (ds : Array Nat) (a : Bool), (∀ c ∈ l, c ∈ sixteen) → l.foldlM F (ds, a) = some (ds ++ (l.map hexDigit).toArray, a || !l.isEmpty) := by
    intro l
    induction l with
    | nil => intro ds a _; simp
    | cons c l ih =>
      intro ds a h
      rw [List.foldlM_cons, hF ds a c (h c (.head _))]
      show l.foldlM F (ds.push (hexDigit c), true) = _
      rw [ih _ _ fun z hz => h z (.tail _ hz)]
      simp
  have hdw : ∀ l : List Nat, (∀ c ∈ l, c ∈ sixteen) → l.dropWhile blank = l := by
    intro l h
    cases l with
    | nil => rfl
    | cons c l => rw [List.dropWhile_cons, hb c (h c (.head _))]; rfl
  have hrev : (x.reverse.dropWhile blank).reverse = x := by
    rw [hdw x.reverse (fun c hc => hx c (by simpa using hc)), List.reverse_reverse]
  have hval : ∀ (l : List Nat) (acc : Nat), ((l.map hexDigit).toArray).foldl (fun acc d => acc * 16 + d) acc = l.foldl (fun a c => a * 16 + hexDigit c) acc := by
    intro l acc
    rw [List.foldl_toArray', List.foldl_map]
    simp
  have hdig : dig 16 x = some (x.map hexDigit).toArray := by
    rw [hD, hfold x #[] false hx]
    have : (!x.isEmpty) = true := by cases x with | nil => exact absurd rfl h0 | cons a l => rfl
    rw [this]
    simp
  have hpre : (match (generalizing := false) pre x with
            | some p => if ((16 : Nat) == 0 || (16 : Nat) == p) = true then (p, false, match (generalizing := false) x.drop 2 with | 95 :: r => r | r => r) else (16, false, x)
            | none => if ((16 : Nat) == 0) = true then (10, x.head? == some 48, x) else (16, false, x)) = (16, false, x) := by
    cases hq : pre x with
    | none => rfl
    | some p =>
      have : p ≠ 16 := by
        rintro rfl
        cases x with
        | nil => exact h0 rfl
        | cons a l =>
          by_cases ha : a = 48
          · subst ha
            cases l with
            | nil => rw [hp0] at hq; cases hq
            | cons b l => exact hp8 b (hx b (.tail _ (.head _))) l hq
          · rw [hp a (hx a (.head _)) ha] at hq; cases hq
      have h2 : ((16 : Nat) == 0 || (16 : Nat) == p) = false := by
        rw [Bool.or_eq_false_iff]
        exact ⟨rfl, beq_eq_false_iff_ne.mpr fun e => this e.symm⟩
      dsimp only
      rw [h2]
      rfl
  rw [hR, hdw x hx]
  have hsg : (match (generalizing := false) x with | 45 :: r => (true, r) | 43 :: r => (false, r) | _ => (false, x)) = (false, x) := by
    cases x with
    | nil => rfl
    | cons a l =>
      have : a ≠ 45 ∧ a ≠ 43 := by
        have h : ∀ c ∈ sixteen, c ≠ 45 ∧ c ≠ 43 := by decide
        exact h a (hx a (.head _))
      exact sgn _ _ this
  rw [hsg]
  dsimp only
  rw [hpre]
  dsimp only
  rw [hrev, hdig]
  dsimp only
  rw [if_neg (by simp), if_neg (by simp), if_neg (by simp), if_neg (by simp), hval]
  rfl
theorem tw_all {α : Type} {p : α → Bool} : ∀ {l : List α}, (∀ c ∈ l, p c = true) → l.takeWhile p = l
  | [], _ => rfl
  | a :: l, h => by rw [List.takeWhile_cons, if_pos (h a (.head _)), tw_all fun c hc => h c (.tail _ hc)]
theorem int16 (x : List Nat) (t u : Tok) (hx : ∀ c ∈ x, c ∈ sixteen) (h0 : x ≠ []) (h6 : x.length ≤ 6) : Gives (Builtin.«int.__new__» ⟨[.type "int", .str (S x) t, .int 16 u], []⟩) (.int (hexVal x)) :=
  .of_wp fun M A E s Q h => by
    obtain ⟨hp, g, d, tk, os⟩ := s
    have f1 := PySem.F.conv_sub_int
    have f2 := PySem.F.madeHere_int
    repeat (any_goals (first | assumption | wp_step))
    have e1 : (if ((S x).cps.all fun x => decide (x < 128)) = true then (S x).cps.toList else Unicode.numberText (S x).cps.toList) = x := by
      rw [if_pos]
      · rfl
      · show x.toArray.all _ = true
        rw [List.all_toArray, List.all_eq_true]
        intro c hc
        have : ∀ c ∈ sixteen, decide (c < 128) = true := by decide
        exact this c (hx c hc)
    have e2 : x.takeWhile (fun x => x != 0) = x := by
      have h : ∀ c ∈ sixteen, (c != 0) = true := by decide
      exact tw_all fun c hc => h c (hx c hc)
    rw [e1, e2]
    rw [if_pos (by omega)]
    refine wpAny_bind (wpAny_pure ?_)
    dsimp only
    split
    all_goals
      rename_i heq
      have key := (rn (fun _ _ _ => rfl) (fun _ => rfl) (by
        intro ds a c hc
        repeat' (rcases hc with _ | ⟨_, hc⟩)
        all_goals rfl) (by decide) (by
        intro a ha hne l
        repeat' (rcases ha with _ | ⟨_, ha⟩)
        all_goals first | rfl | exact absurd rfl hne) rfl (by
        intro c hc l
        repeat' (rcases hc with _ | ⟨_, hc⟩)
        all_goals (intro h; cases h)) x hx h0).symm.trans heq
      first
        | cases key
        | skip
    rw [if_pos (by simp)]
    refine wpAny_mkInt ?_
    rw [if_pos (show (Value.type "int" == Value.type "int") = true by simp)]
    exact wpAny_pure ⟨_, rfl, h⟩
theorem typeCall_int_2 (a b : Value) : checkTypeCall "int" ⟨[a, b], []⟩ = pure () := by kernel_rfl
theorem newCall_int_2 (a b : Value) : checkBuiltinCall "int.__new__" ⟨[.type "int", a, b], []⟩ = pure () := by kernel_rfl
section
variable {prog : Program} {w : World} {A : Around} {E : Value → Shared → Prop} {s : Shared}
theorem int16_call {x : List Nat} {t u : Tok} {Q : Value → Shared → Prop} (hx : ∀ c ∈ x, c ∈ sixteen) (h0 : x ≠ []) (h6 : x.length ≤ 6) (h : Q (.int (hexVal x) s.toks) { s with toks := s.toks + 1 }) : wpAny (model prog w) A (call (.type "int") [.str (S x) t, .int 16 u]) Q E s :=
  callType_new PySem.F.called_int PySem.F.newNe_int (typeCall_int_2 _ _) (newCall_int_2 _ _) (fun obj => PySem.F.args_object_init_3 obj _ _) PySem.F.entry_int_new (int16 x t u hx h0 h6).meets (show (Made.int (hexVal x)).post _ s from ⟨rfl, h⟩)
end
section
variable {C : Cx} {ρ : Rho}
/-- int(e, 16) -/
theorem Ev.int16 {x : Str} {np pos : Pos} {e f : Expr} {t : List Nat} (hf : Ev C ρ (.Name x np) (.raw (.type "int"))) (ha : Ev C ρ e (.str t)) (hb : Ev C ρ f (.int 16)) (hx : ∀ c ∈ t, c ∈ sixteen) (h0 : t ≠ []) (h6 : t.length ≤ 6)
    (he : starEach [e, f] C.env = (false, eval e C.env) :: starEach [f] C.env) (he' : starEach [f] C.env = (false, eval f C.env) :: starEach [] C.env) (hp : ∀ pos, (backTo pos (starEach [e, f] C.env)).any (·.1) = false) : Ev C ρ (.Call (.Name x np) [e, f] [] pos) (.int (hexVal t)) := Ev.of fun s σ =>
  wpAny_Call_NameR (wpAny_mono (hf s σ) (fun g s1 q1 => by
    obtain ⟨r1, k1⟩ := q1
    cases r1
    refine PySem.callWith_type (first := []) (hp _) ?_
    have F := Evs.cons ha (Evs.cons hb Evs.nil he') he s1 pos (σ.le k1)
    rw [he] at F ⊢
    refine evalArgs_plain (wpAny_mono F (fun vs s2 q2 => ?_) fun _ _ x => x)
    obtain ⟨r2, k2⟩ := q2
    obtain ⟨v, u, rfl, e1, e2⟩ := r2.two
    cases e1; cases e2
    exact int16_call hx h0 h6 ⟨.int _ _, (k1.trans k2).1.trans (.toks _)⟩) fun _ _ x => x)
end
end Mine
end
section
open PySem
set_option Elab.async false
set_option linter.unusedVariables false
set_option linter.unusedSimpArgs false
namespace Mine
open PySem.Sre

/-- what stays through a match -/
structure Bs where
  code : Array Nat
  text : Array Nat
  start : Nat
  lastStart : Nat
  om : Bool
structure Mk where
  a : Array (Option Nat)
  lm : Int
  li : Int
/-- what turns, but for what no one asks: the weight, the words seen, the place handed -/
structure Cf where
  pc : Nat
  pos : Nat
  mks : Mk
  loops : Array Sre.Loop
  inner : Option Nat
  frames : List Sre.Frame
  ans : Option Bool := none

def mM (b : Bs) (c : Cf) (w : Nat) (sn : Seen) (hd : Nat) : M :=
  { code := b.code, text := b.text, lim := b.text.size, start := b.start, lastStart := b.lastStart, wholeText := false, mustAdvance := false, pc := c.pc, pos := c.pos, handed := hd, outermost := b.om,
    marks := c.mks.a, lastmark := c.mks.lm, lastindex := c.mks.li, loops := c.loops, inner := c.inner, frames := c.frames, weight := w, answer := c.ans, seen := sn, outcome := none }

theorem runFor_done : ∀ n (m : M), m.outcome.isSome = true → m.runFor n = m
  | 0, m, _ => rfl
  | n + 1, m, h => by rw [M.runFor, if_pos h]
theorem runFor_add : ∀ a b (m : M), m.runFor (a + b) = (m.runFor a).runFor b
  | 0, b, m => by rw [Nat.zero_add]; rfl
  | a + 1, b, m => by
    rw [show a + 1 + b = (a + b) + 1 by omega, M.runFor, M.runFor]
    split
    · rename_i h; rw [runFor_done b m h]
    · exact runFor_add a b m.step
theorem runFor_one (m : M) (h : m.outcome = none) : m.runFor 1 = m.step := by
  rw [M.runFor, h]; rfl

/-- one step -/
def Step (b : Bs) (c c' : Cf) : Prop :=
  ∀ w sn hd, w ≤ 2 ^ 23 → ∃ w' sn' hd', w' ≤ w + 8 ∧ (mM b c w sn hd).step = mM b c' w' sn' hd'
/-- n steps or fewer -/
def Go (b : Bs) (n : Nat) (c c' : Cf) : Prop :=
  c'.frames.length ≤ c.frames.length + n ∧ ∀ w sn hd, w + 8 * n ≤ 2 ^ 23 → ∃ k w' sn' hd', k ≤ n ∧ w' ≤ w + 8 * n ∧ (mM b c w sn hd).runFor k = mM b c' w' sn' hd'
theorem Go.rfl {b : Bs} {c : Cf} : Go b 0 c c := ⟨Nat.le_refl _, fun w sn hd _ => ⟨0, w, sn, hd, Nat.le_refl _, Nat.le_refl _, Eq.refl _⟩⟩
theorem Go.trans {b : Bs} {n m : Nat} {c d e : Cf} (x : Go b n c d) (y : Go b m d e) : Go b (n + m) c e := by
  refine ⟨by have := x.1; have := y.1; omega, fun w sn hd h => ?_⟩
  obtain ⟨k, w1, s1, h1, hk, hw, e1⟩ := x.2 w sn hd (by omega)
  obtain ⟨k2, w2, s2, h2, hk2, hw2, e2⟩ := y.2 w1 s1 h1 (by omega)
  exact ⟨k + k2, w2, s2, h2, by omega, by omega, by rw [runFor_add, e1, e2]⟩
theorem Go.more {b : Bs} {n m : Nat} {c d : Cf} (x : Go b n c d) (h : n ≤ m) : Go b m c d := by
  refine ⟨by have := x.1; omega, fun w sn hd hw => ?_⟩
  obtain ⟨k, w1, s1, h1, hk, hw1, e1⟩ := x.2 w sn hd (by omega)
  exact ⟨k, w1, s1, h1, by omega, by omega, e1⟩
theorem Step.go {b : Bs} {c d : Cf} (x : Step b c d) (hf : d.frames.length ≤ c.frames.length + 1) : Go b 1 c d := by
  refine ⟨hf, fun w sn hd hw => ?_⟩
  obtain ⟨w1, s1, h1, hw1, e1⟩ := x w sn hd (by omega)
  exact ⟨1, w1, s1, h1, Nat.le_refl _, by omega, by rw [runFor_one _ (Eq.refl _), e1]⟩

/-- the answer alone -/
def okB : Except String (Bool × Seen) → Option Bool
  | .ok (b, _) => some b
  | .error _ => none
/-- the sign is taken by the word at pc -/
def acc (code : Array Nat) (i c : Nat) : Option Bool := okB (accepts code i c {})
theorem inSet_seen (code : Array Nat) (c : Nat) : ∀ fuel i yes s s', okB (inSet code c fuel i yes s) = okB (inSet code c fuel i yes s') := by
  intro fuel
  induction fuel with
  | zero => intro i yes s s'; rfl
  | succ n ih =>
    intro i yes s s'
    unfold inSet
    dsimp only
    generalize ops[code.getD (i + 0) 0]? = o
    cases o with
    | none => rfl
    | some o =>
      cases o <;> first
        | rfl
        | exact ih _ _ _ _
        | (dsimp only; rw [apply_ite okB, apply_ite okB]; exact ite_congr (Eq.refl _) (fun _ => Eq.refl _) (fun _ => ih _ _ _ _))
        | (dsimp only
           cases category (code.getD (i + 1) 0) c with
           | error e => rfl
           | ok v => cases v with
             | true => rfl
             | false => exact ih _ _ _ _)
theorem acc_seen {code : Array Nat} {i c : Nat} {v : Bool} (h : acc code i c = some v) (s : Seen) : ∃ s', accepts code i c s = .ok (v, s') := by
  have key : okB (accepts code i c s) = okB (accepts code i c {}) := by
    unfold accepts
    dsimp only
    generalize ops[code.getD i 0]? = o
    cases o with
    | none => rfl
    | some o => cases o <;> first | rfl | exact inSet_seen _ _ _ _ _ _ _
  unfold acc at h
  rw [← key] at h
  cases hh : accepts code i c s with
  | error e => rw [hh] at h; cases h
  | ok v' => rw [hh] at h; cases h; exact ⟨_, Eq.refl _⟩

/-- a run of a REPEAT_ONE -/
def runN (p : Nat → Bool) (t : List Nat) : Nat → Nat → Nat
  | 0, _ => 0
  | n + 1, i => if p (t.getD i 0) = true then runN p t n (i + 1) + 1 else 0
theorem run_is {code : Array Nat} {t : List Nat} {i : Nat} {p : Nat → Bool} : ∀ n q f s, (∀ k, q ≤ k → k < q + n → acc code i (t.getD k 0) = some (p (t.getD k 0))) → ∃ s', Sre.run code t.toArray i n q f s = .ok (f + runN p t n q, s') := by
  intro n
  induction n with
  | zero => intro q f s h; exact ⟨s, Eq.refl _⟩
  | succ n ih =>
    intro q f s h
    have e : t.toArray.getD q 0 = t.getD q 0 := by simp [Array.getD_eq_getD_getElem?, List.getD_eq_getElem?_getD]
    obtain ⟨s1, h1⟩ := acc_seen (h q (Nat.le_refl _) (by omega)) s
    unfold Sre.run
    rw [e, h1]
    show ∃ s', (if p (t.getD q 0) = true then run code t.toArray i n (q + 1) (f + 1) s1 else pure (f, s1)) = Except.ok _
    unfold runN
    by_cases hp : p (t.getD q 0) = true
    · rw [if_pos hp, if_pos hp]
      obtain ⟨s2, h2⟩ := ih (q + 1) (f + 1) s1 fun k h3 h4 => h k (by omega) (by omega)
      exact ⟨s2, by rw [h2, show f + 1 + runN p t n (q + 1) = f + (runN p t n (q + 1) + 1) by omega]⟩
    · rw [if_neg hp, if_neg hp]
      exact ⟨s1, Eq.refl _⟩
end Mine
end
section
open PySem
set_option Elab.async false
set_option linter.unusedVariables false
set_option linter.unusedSimpArgs false
namespace Mine
open PySem.Sre

section
variable {b : Bs} {pc pos : Nat} {mks : Mk} {loops : Array Sre.Loop} {inner : Option Nat} {frames : List Sre.Frame}

theorem in_code {code : Array Nat} {i n : Nat} (h : code.getD i 0 = n) (hn : n ≠ 0) : i < code.size := by
  rcases Nat.lt_or_ge i code.size with q | q
  · exact q
  · rw [Array.getD_eq_getD_getElem?, Array.getElem?_eq_none q] at h
    exact absurd h.symm hn
theorem step_exec {w : Nat} {sn : Seen} {hd n : Nat} (h : b.code.getD pc 0 = n) (hn : n ≠ 0) : (mM b ⟨pc, pos, mks, loops, inner, frames, none⟩ w sn hd).step = (mM b ⟨pc, pos, mks, loops, inner, frames, none⟩ w sn hd).exec := by
  unfold M.step
  show (if false = true then _ else if pc < b.code.size then _ else _) = _
  rw [if_neg Bool.false_ne_true, if_pos (in_code h hn)]
theorem exec_of {m : M} {op : Op} (h : ops[m.word 0]? = some op) : m.exec = m.exec := rfl
theorem word_is {w : Nat} {sn : Seen} {hd : Nat} {c : Cf} (k : Nat) : (mM b c w sn hd).word k = b.code.getD (c.pc + k) 0 := rfl

/-- a word that takes one sign -/
theorem Step.take {op : Op} {n wd : Nat} (hop : b.code.getD pc 0 = n) (hn : n ≠ 0) (ho : ops[n]? = some op) (hk : op = .IN ∨ op = .LITERAL ∨ op = .IN_UNI_IGNORE) (hp : pos < b.text.size) (ha : acc b.code pc (b.text.getD pos 0) = some true) (hw : itemWidth b.code pc = wd) :
    Step b ⟨pc, pos, mks, loops, inner, frames, none⟩ ⟨pc + wd, pos + 1, mks, loops, inner, frames, none⟩ := fun w sn hd hw' => by
  obtain ⟨s', hs'⟩ := acc_seen ha (sn.add n)
  refine ⟨w, s', hd, by omega, ?_⟩
  rw [step_exec hop hn]
  unfold M.exec
  have e : ops[(mM b ⟨pc, pos, mks, loops, inner, frames, none⟩ w sn hd).word 0]? = some op := by rw [word_is]; show ops[b.code.getD pc 0]? = _; rw [hop, ho]
  rw [e]
  have hg : ¬ (pos ≥ b.text.size) := by omega
  have hw0 : (mM b ⟨pc, pos, mks, loops, inner, frames, none⟩ w sn hd).word 0 = n := hop
  rcases hk with rfl | rfl | rfl <;>
  · dsimp only
    rw [hw0]
    show (if pos ≥ b.text.size then _ else _) = _
    rw [if_neg hg]
    show (match accepts b.code pc (b.text.getD pos 0) (sn.add n) with | .error why => _ | .ok (false, seen) => _ | .ok (true, seen) => _) = _
    rw [hs']
    show mM b ⟨pc + itemWidth b.code pc, pos + 1, mks, loops, inner, frames, none⟩ w s' hd = _
    rw [hw]
theorem Step.no {op : Op} {n : Nat} (hop : b.code.getD pc 0 = n) (hn : n ≠ 0) (ho : ops[n]? = some op) (hk : op = .IN ∨ op = .LITERAL ∨ op = .IN_UNI_IGNORE) (ha : pos < b.text.size → acc b.code pc (b.text.getD pos 0) = some false) :
    Step b ⟨pc, pos, mks, loops, inner, frames, none⟩ ⟨pc, pos, mks, loops, inner, frames, some false⟩ := fun w sn hd hw' => by
  rw [step_exec hop hn]
  unfold M.exec
  have e : ops[(mM b ⟨pc, pos, mks, loops, inner, frames, none⟩ w sn hd).word 0]? = some op := by rw [word_is]; show ops[b.code.getD pc 0]? = _; rw [hop, ho]
  rw [e]
  have hw0 : (mM b ⟨pc, pos, mks, loops, inner, frames, none⟩ w sn hd).word 0 = n := hop
  by_cases hg : pos ≥ b.text.size
  · refine ⟨w, sn.add n, hd, by omega, ?_⟩
    rcases hk with rfl | rfl | rfl <;>
    · dsimp only
      rw [hw0]
      show (if pos ≥ b.text.size then _ else _) = _
      rw [if_pos hg]
      rfl
  · obtain ⟨s', hs'⟩ := acc_seen (ha (by omega)) (sn.add n)
    refine ⟨w, s', hd, by omega, ?_⟩
    rcases hk with rfl | rfl | rfl <;>
    · dsimp only
      rw [hw0]
      show (if pos ≥ b.text.size then _ else _) = _
      rw [if_neg hg]
      show (match accepts b.code pc (b.text.getD pos 0) (sn.add n) with | .error why => _ | .ok (false, seen) => _ | .ok (true, seen) => _) = _
      rw [hs']
      rfl
/-- a jump -/
theorem Step.jump (hop : b.code.getD pc 0 = 15) : Step b ⟨pc, pos, mks, loops, inner, frames, none⟩ ⟨pc + 1 + b.code.getD (pc + 1) 0, pos, mks, loops, inner, frames, none⟩ := fun w sn hd hw' => by
  refine ⟨w, sn.add 15, hd, by omega, ?_⟩
  rw [step_exec hop (by omega)]
  unfold M.exec
  have e : ops[(mM b ⟨pc, pos, mks, loops, inner, frames, none⟩ w sn hd).word 0]? = some .JUMP := by rw [word_is]; show ops[b.code.getD pc 0]? = _; rw [hop]; rfl
  rw [e]
  have hw0 : (mM b ⟨pc, pos, mks, loops, inner, frames, none⟩ w sn hd).word 0 = 15 := hop
  dsimp only
  rw [hw0]
  rfl
def Mk.mark (m : Mk) (i pos : Nat) : Mk :=
  let cleared := if (i : Int) ≤ m.lm + 1 then m.a
    else (List.range i).foldl (fun (a : Array (Option Nat)) (j : Nat) => if (j : Int) > m.lm then a.setIfInBounds j none else a) m.a
  ⟨cleared.setIfInBounds i (some pos), max m.lm i, if i % 2 == 1 then (i / 2 + 1 : Nat) else m.li⟩
/-- a mark -/
theorem Step.mark (hop : b.code.getD pc 0 = 17) : Step b ⟨pc, pos, mks, loops, inner, frames, none⟩ ⟨pc + 2, pos, mks.mark (b.code.getD (pc + 1) 0) pos, loops, inner, frames, none⟩ := fun w sn hd hw' => by
  refine ⟨w, sn.add 17, hd, by omega, ?_⟩
  rw [step_exec hop (by omega)]
  unfold M.exec
  have e : ops[(mM b ⟨pc, pos, mks, loops, inner, frames, none⟩ w sn hd).word 0]? = some .MARK := by rw [word_is]; show ops[b.code.getD pc 0]? = _; rw [hop]; rfl
  rw [e]
  have hw0 : (mM b ⟨pc, pos, mks, loops, inner, frames, none⟩ w sn hd).word 0 = 17 := hop
  dsimp only
  rw [hw0]
  rfl
end
end Mine
end
section
open PySem
set_option Elab.async false
set_option linter.unusedVariables false
set_option linter.unusedSimpArgs false
namespace Mine
open PySem.Sre

def Mk.keep (m : Mk) (whole : Bool) : Sre.Kept := { lastmark := m.lm, lastindex := m.li, whole, marks := if whole then m.a.extract 0 (m.lm + 1).toNat else #[] }
def Mk.back (m : Mk) (k : Sre.Kept) : Mk := ⟨if k.whole then k.marks ++ m.a.extract k.marks.size m.a.size else m.a, k.lastmark, k.lastindex⟩
theorem Mk.keep_size (m : Mk) (whole : Bool) (h : m.a.size ≤ 7) : (m.keep whole).marks.size ≤ 7 := by
  unfold Mk.keep
  cases whole
  · simp
  · simp only [if_true, Array.size_extract]; omega
def brF (om : Bool) (alt pos : Nat) (k : Sre.Kept) : Sre.Frame := { wait := .nextBranch, pc := alt, pos := pos, outermost := om, kept := k }
def gbF (om : Bool) (pc pos : Nat) (n : Int) (k : Sre.Kept) : Sre.Frame := { wait := .giveBack, pc := pc, pos := pos, outermost := om, count := n, kept := k }
def clF (om : Bool) (pc pos i : Nat) : Sre.Frame := { wait := .closeLoop, pc := pc, pos := pos, outermost := om, loop := i }
def blF (om : Bool) (pc pos i : Nat) (n : Int) (g : Option Nat) : Sre.Frame := { wait := .maxBelow, pc := pc, pos := pos, outermost := om, loop := i, count := n, began := g }
def moF (om : Bool) (pc pos i : Nat) (n : Int) (k : Sre.Kept) (g : Option Nat) : Sre.Frame := { wait := .maxMore, pc := pc, pos := pos, outermost := om, loop := i, count := n, kept := k, began := g }
def taF (om : Bool) (pc pos i : Nat) (n : Int) (k : Sre.Kept) : Sre.Frame := { wait := .maxTail, pc := pc, pos := pos, outermost := om, loop := i, count := n, kept := k }

section
variable {b : Bs} {pc pos : Nat} {mks : Mk} {loops : Array Sre.Loop} {inner : Option Nat} {frames : List Sre.Frame}

theorem attempt_is {c : Cf} {w : Nat} {sn : Seen} {hd : Nat} {f : Sre.Frame} {target p : Nat} (hw : w ≤ 2 ^ 23) (hf : f.kept.marks.size ≤ 7) :
    (mM b c w sn hd).attempt f target p b.om = mM b { c with pc := target, pos := p, frames := f :: c.frames } (w + 1 + f.kept.marks.size) sn p := by
  unfold M.attempt
  show (if w + 1 + f.kept.marks.size > 16777216 then _ else _) = _
  rw [if_neg (by omega)]
  rfl
theorem exec_op {c : Cf} {w : Nat} {sn : Seen} {hd n : Nat} {op : Op} (hop : b.code.getD c.pc 0 = n) (ho : ops[n]? = some op) : ops[(mM b c w sn hd).word 0]? = some op := by
  rw [word_is]; show ops[b.code.getD c.pc 0]? = _; rw [hop, ho]

/-- a branch: its first way -/
theorem Step.branch (hop : b.code.getD pc 0 = 7) (hz : b.code.getD (pc + 1) 0 ≠ 0) (hm : mks.a.size ≤ 7) :
    Step b ⟨pc, pos, mks, loops, inner, frames, none⟩ ⟨pc + 2, pos, mks, loops, inner, brF b.om (pc + 1) pos (mks.keep inner.isSome) :: frames, none⟩ := fun w sn hd hw => by
  have hk := mks.keep_size inner.isSome hm
  refine ⟨w + 1 + (mks.keep inner.isSome).marks.size, sn.add 7, pos, by omega, ?_⟩
  rw [step_exec hop (by omega)]
  unfold M.exec
  rw [exec_op (c := ⟨pc, pos, mks, loops, inner, frames, none⟩) hop (show ops[7]? = some .BRANCH from rfl)]
  have hw0 : (mM b ⟨pc, pos, mks, loops, inner, frames, none⟩ w sn hd).word 0 = 7 := hop
  dsimp only
  rw [hw0]
  show M.alternative (mM b ⟨pc, pos, mks, loops, inner, frames, none⟩ w (sn.add 7) hd) (pc + 1) (mks.keep inner.isSome) = _
  unfold M.alternative
  show (if (b.code.getD (pc + 1) 0 == 0) = true then _ else _) = _
  rw [if_neg (by simpa using hz)]
  exact attempt_is (c := ⟨pc, pos, mks, loops, inner, frames, none⟩) (f := brF b.om (pc + 1) pos (mks.keep inner.isSome)) hw hk
theorem step_resume {f : Sre.Frame} {w : Nat} {sn : Seen} {hd : Nat} {yes : Bool} (hf : f.outermost = b.om) : (mM b ⟨pc, pos, mks, loops, inner, f :: frames, some yes⟩ w sn hd).step = M.resume (mM b ⟨f.pc, f.pos, mks, loops, inner, frames, none⟩ (w - (1 + f.kept.marks.size)) sn hd) f yes := by
  unfold M.step
  show (if false = true then _ else _) = _
  rw [if_neg Bool.false_ne_true]
  show M.resume { mM b ⟨f.pc, f.pos, mks, loops, inner, frames, none⟩ (w - (1 + f.kept.marks.size)) sn hd with outermost := f.outermost } f yes = _
  rw [hf]
  rfl
/-- the next way of a branch -/
theorem Step.nextWay {alt p s : Nat} {k : Sre.Kept} (hs : b.code.getD alt 0 = s) (hz : b.code.getD (alt + s) 0 ≠ 0) (hk : k.marks.size ≤ 7) :
    Step b ⟨pc, pos, mks, loops, inner, brF b.om alt p k :: frames, some false⟩ ⟨alt + s + 1, p, mks.back k, loops, inner, brF b.om (alt + s) p k :: frames, none⟩ := fun w sn hd hw => by
  refine ⟨w - (1 + k.marks.size) + 1 + k.marks.size, sn, p, by omega, ?_⟩
  rw [step_resume rfl]
  unfold M.resume
  dsimp only [brF]
  show (if false = true then _ else M.alternative (mM b ⟨alt, p, mks.back k, loops, inner, frames, none⟩ (w - (1 + k.marks.size)) sn hd) (alt + b.code.getD alt 0) k) = _
  rw [if_neg Bool.false_ne_true, hs]
  unfold M.alternative
  show (if (b.code.getD (alt + s) 0 == 0) = true then _ else _) = _
  rw [if_neg (by simpa using hz)]
  exact attempt_is (c := ⟨alt, p, mks.back k, loops, inner, frames, none⟩) (f := brF b.om (alt + s) p k) (by omega) hk
/-- no way is left -/
theorem Step.noWay {alt p s : Nat} {k : Sre.Kept} (hs : b.code.getD alt 0 = s) (hz : b.code.getD (alt + s) 0 = 0) :
    Step b ⟨pc, pos, mks, loops, inner, brF b.om alt p k :: frames, some false⟩ ⟨alt, p, mks.back k, loops, inner, frames, some false⟩ := fun w sn hd hw => by
  refine ⟨w - (1 + k.marks.size), sn, hd, by omega, ?_⟩
  rw [step_resume rfl]
  unfold M.resume
  dsimp only [brF]
  show (if false = true then _ else M.alternative (mM b ⟨alt, p, mks.back k, loops, inner, frames, none⟩ (w - (1 + k.marks.size)) sn hd) (alt + b.code.getD alt 0) k) = _
  rw [if_neg Bool.false_ne_true, hs]
  unfold M.alternative
  show (if (b.code.getD (alt + s) 0 == 0) = true then _ else _) = _
  rw [if_pos (by simpa using hz)]
  rfl
theorem runN_le (p : Nat → Bool) (t : List Nat) : ∀ n i, runN p t n i ≤ n
  | 0, _ => Nat.le_refl _
  | n + 1, i => by unfold runN; split; exact Nat.succ_le_succ (runN_le p t n _); exact Nat.zero_le _
/-- a run of one word -/
theorem Step.repOne {t : List Nat} {p : Nat → Bool} {s lo hi : Nat} (ht : b.text = t.toArray) (hop : b.code.getD pc 0 = 24) (h1 : b.code.getD (pc + 1) 0 = s) (h2 : b.code.getD (pc + 2) 0 = lo) (h3 : b.code.getD (pc + 3) 0 = hi)
    (ha : ∀ k, pos ≤ k → k < t.length → acc b.code (pc + 4) (t.getD k 0) = some (p (t.getD k 0))) (hp : pos ≤ t.length) (hm : mks.a.size ≤ 7) (hn : lo ≤ runN p t (min hi (t.length - pos)) pos) :
    Step b ⟨pc, pos, mks, loops, inner, frames, none⟩ ⟨pc + 1 + s, pos + runN p t (min hi (t.length - pos)) pos, mks, loops, inner, gbF b.om pc (pos + runN p t (min hi (t.length - pos)) pos) (runN p t (min hi (t.length - pos)) pos) (mks.keep inner.isSome) :: frames, none⟩ := fun w sn hd hw => by
  have hk := mks.keep_size inner.isSome hm
  have hle := runN_le p t (min hi (t.length - pos)) pos
  have htl : b.text.size = t.length := by rw [ht]; rfl
  obtain ⟨s', hs'⟩ := run_is (code := b.code) (t := t) (i := pc + 4) (p := p) (min hi (t.length - pos)) pos 0 ((sn.add 24).add (b.code.getD (pc + 4) 0)) (fun k h1 h2 => ha k h1 (by omega))
  rw [Nat.zero_add] at hs'
  generalize runN p t (min hi (t.length - pos)) pos = n at hn hle hs' ⊢
  refine ⟨w + 1 + (mks.keep inner.isSome).marks.size, s', pos + n, by omega, ?_⟩
  rw [step_exec hop (by omega)]
  unfold M.exec
  rw [exec_op (c := ⟨pc, pos, mks, loops, inner, frames, none⟩) hop (show ops[24]? = some .REPEAT_ONE from rfl)]
  have hw0 : (mM b ⟨pc, pos, mks, loops, inner, frames, none⟩ w sn hd).word 0 = 24 := hop
  dsimp only
  rw [hw0]
  show (if ((b.code.getD (pc + 2) 0 : Nat) : Int) > (b.text.size : Int) - pos then _ else _) = _
  rw [if_neg (by rw [h2, htl]; omega)]
  show (match Sre.run b.code b.text (pc + 4) (min (b.code.getD (pc + 3) 0) ((b.text.size : Int) - pos).toNat) pos 0 ((sn.add 24).add (b.code.getD (pc + 4) 0)) with | .error why => _ | .ok (n, seen) => _) = _
  rw [show ((b.text.size : Int) - pos).toNat = t.length - pos by rw [htl]; omega, h3, ht, hs']
  show (if n < b.code.getD (pc + 2) 0 then _ else _) = _
  rw [if_neg (by rw [h2]; omega)]
  show M.afterRun (mM b ⟨pc, pos + n, mks, loops, inner, frames, none⟩ w s' hd) .giveBack n (mks.keep inner.isSome) = _
  unfold M.afterRun
  rw [show (mM b ⟨pc, pos + n, mks, loops, inner, frames, none⟩ w s' hd).word 1 = s from h1]
  exact attempt_is (c := ⟨pc, pos + n, mks, loops, inner, frames, none⟩) (f := gbF b.om pc (pos + n) n (mks.keep inner.isSome)) hw hk
theorem Step.repOneNo {t : List Nat} {p : Nat → Bool} {lo hi : Nat} (ht : b.text = t.toArray) (hop : b.code.getD pc 0 = 24) (h2 : b.code.getD (pc + 2) 0 = lo) (h3 : b.code.getD (pc + 3) 0 = hi)
    (ha : ∀ k, pos ≤ k → k < t.length → acc b.code (pc + 4) (t.getD k 0) = some (p (t.getD k 0))) (hp : pos ≤ t.length) (hn : runN p t (min hi (t.length - pos)) pos < lo) :
    Step b ⟨pc, pos, mks, loops, inner, frames, none⟩ ⟨pc, pos, mks, loops, inner, frames, some false⟩ := fun w sn hd hw => by
  have htl : b.text.size = t.length := by rw [ht]; rfl
  obtain ⟨s', hs'⟩ := run_is (code := b.code) (t := t) (i := pc + 4) (p := p) (min hi (t.length - pos)) pos 0 ((sn.add 24).add (b.code.getD (pc + 4) 0)) (fun k h1 h2 => ha k h1 (by omega))
  rw [Nat.zero_add] at hs'
  generalize runN p t (min hi (t.length - pos)) pos = n at hn hs' ⊢
  rw [step_exec hop (by omega)]
  unfold M.exec
  rw [exec_op (c := ⟨pc, pos, mks, loops, inner, frames, none⟩) hop (show ops[24]? = some .REPEAT_ONE from rfl)]
  have hw0 : (mM b ⟨pc, pos, mks, loops, inner, frames, none⟩ w sn hd).word 0 = 24 := hop
  by_cases hr : ((b.code.getD (pc + 2) 0 : Nat) : Int) > (b.text.size : Int) - pos
  · refine ⟨w, sn.add 24, hd, by omega, ?_⟩
    dsimp only
    rw [hw0]
    show (if ((b.code.getD (pc + 2) 0 : Nat) : Int) > (b.text.size : Int) - pos then _ else _) = _
    rw [if_pos hr]
    rfl
  · refine ⟨w, s', hd, by omega, ?_⟩
    dsimp only
    rw [hw0]
    show (if ((b.code.getD (pc + 2) 0 : Nat) : Int) > (b.text.size : Int) - pos then _ else _) = _
    rw [if_neg hr]
    show (match Sre.run b.code b.text (pc + 4) (min (b.code.getD (pc + 3) 0) ((b.text.size : Int) - pos).toNat) pos 0 ((sn.add 24).add (b.code.getD (pc + 4) 0)) with | .error why => _ | .ok (n, seen) => _) = _
    rw [show ((b.text.size : Int) - pos).toNat = t.length - pos by rw [htl]; omega, h3, ht, hs']
    show (if n < b.code.getD (pc + 2) 0 then _ else _) = _
    rw [if_pos (by rw [h2]; omega)]
    rfl
/-- one is given back -/
theorem Step.giveBack {q p s : Nat} {n : Int} {k : Sre.Kept} (h1 : b.code.getD (q + 1) 0 = s) (hn : ¬ n - 1 < b.code.getD (q + 2) 0) (hk : k.marks.size ≤ 7) :
    Step b ⟨pc, pos, mks, loops, inner, gbF b.om q p n k :: frames, some false⟩ ⟨q + 1 + s, p - 1, mks.back k, loops, inner, gbF b.om q (p - 1) (n - 1) k :: frames, none⟩ := fun w sn hd hw => by
  refine ⟨w - (1 + k.marks.size) + 1 + k.marks.size, sn, p - 1, by omega, ?_⟩
  rw [step_resume rfl]
  unfold M.resume
  dsimp only [gbF]
  show (if false = true then _ else if n - 1 < ((b.code.getD (q + 2) 0 : Nat) : Int) then _ else M.afterRun (mM b ⟨q, p - 1, mks.back k, loops, inner, frames, none⟩ (w - (1 + k.marks.size)) sn hd) .giveBack (n - 1) k) = _
  rw [if_neg Bool.false_ne_true, if_neg hn]
  unfold M.afterRun
  rw [show (mM b ⟨q, p - 1, mks.back k, loops, inner, frames, none⟩ (w - (1 + k.marks.size)) sn hd).word 1 = s from h1]
  exact attempt_is (c := ⟨q, p - 1, mks.back k, loops, inner, frames, none⟩) (f := gbF b.om q (p - 1) (n - 1) k) (by omega) hk
theorem Step.giveNo {q p : Nat} {n : Int} {k : Sre.Kept} (hn : n - 1 < b.code.getD (q + 2) 0) :
    Step b ⟨pc, pos, mks, loops, inner, gbF b.om q p n k :: frames, some false⟩ ⟨q, p, mks.back k, loops, inner, frames, some false⟩ := fun w sn hd hw => by
  refine ⟨w - (1 + k.marks.size), sn, hd, by omega, ?_⟩
  rw [step_resume rfl]
  unfold M.resume
  dsimp only [gbF]
  show (if false = true then _ else if n - 1 < ((b.code.getD (q + 2) 0 : Nat) : Int) then _ else M.afterRun (mM b ⟨q, p - 1, mks.back k, loops, inner, frames, none⟩ (w - (1 + k.marks.size)) sn hd) .giveBack (n - 1) k) = _
  rw [if_neg Bool.false_ne_true, if_pos hn]
  rfl
end
end Mine
end
section
open PySem
set_option Elab.async false
set_option linter.unusedVariables false
set_option linter.unusedSimpArgs false
namespace Mine
open PySem.Sre
section
variable {b : Bs} {pc pos : Nat} {mks : Mk} {loops : Array Sre.Loop} {inner : Option Nat} {frames : List Sre.Frame}

theorem loopAt_is {c : Cf} {w : Nat} {sn : Seen} {hd i : Nat} {l : Sre.Loop} (h : c.loops[i]? = some l) : (mM b c w sn hd).loopAt i = l := by
  show c.loops.getD i _ = l
  rw [Array.getD_eq_getD_getElem?, h]; rfl
theorem Step.repeat {s : Nat} (hop : b.code.getD pc 0 = 23) (h1 : b.code.getD (pc + 1) 0 = s) :
    Step b ⟨pc, pos, mks, loops, inner, frames, none⟩ ⟨pc + 1 + s, pos, mks, loops.push { pc := pc, outer := inner }, some loops.size, clF b.om pc pos loops.size :: frames, none⟩ := fun w sn hd hw => by
  refine ⟨w + 1 + 0, sn.add 23, pos, by omega, ?_⟩
  rw [step_exec hop (by omega)]
  unfold M.exec
  rw [exec_op (c := ⟨pc, pos, mks, loops, inner, frames, none⟩) hop (show ops[23]? = some .REPEAT from rfl)]
  have hw0 : (mM b ⟨pc, pos, mks, loops, inner, frames, none⟩ w sn hd).word 0 = 23 := hop
  dsimp only
  rw [hw0]
  show M.attempt (mM b ⟨pc, pos, mks, loops.push { pc := pc, outer := inner }, some loops.size, frames, none⟩ w (sn.add 23) hd) (clF b.om pc pos loops.size) (pc + 1 + b.code.getD (pc + 1) 0) pos b.om = _
  rw [h1]
  exact attempt_is (c := ⟨pc, pos, mks, loops.push { pc := pc, outer := inner }, some loops.size, frames, none⟩) (f := clF b.om pc pos loops.size) hw (by show 0 ≤ 7; omega)
theorem until_exec {w : Nat} {sn : Seen} {hd : Nat} (hop : b.code.getD pc 0 = 18) : (mM b ⟨pc, pos, mks, loops, inner, frames, none⟩ w sn hd).step = (mM b ⟨pc + 1, pos, mks, loops, inner, frames, none⟩ w (sn.add 18) hd).until_ true := by
  rw [step_exec hop (by omega)]
  unfold M.exec
  rw [exec_op (c := ⟨pc, pos, mks, loops, inner, frames, none⟩) hop (show ops[18]? = some .MAX_UNTIL from rfl)]
  have hw0 : (mM b ⟨pc, pos, mks, loops, inner, frames, none⟩ w sn hd).word 0 = 18 := hop
  dsimp only
  rw [hw0]
  rfl
theorem until_eq {m : M} {i : Nat} {l : Sre.Loop} (hi : m.inner = some i) (hl : m.loopAt i = l) : m.until_ true = (if l.count + 1 < ((m.code.getD (l.pc + 2) 0 : Nat) : Int) then m.round .maxBelow i (l.count + 1) false {}
    else if ((decide (l.count + 1 < ((m.code.getD (l.pc + 3) 0 : Nat) : Int)) || m.code.getD (l.pc + 3) 0 == maxRepeat) && l.began != some m.pos) = true then m.round .maxMore i (l.count + 1) true (m.keep true) else m.afterLoop .maxTail i (l.count + 1) fun _ => false) := by
  unfold M.until_
  rw [hi]
  dsimp only
  rw [hl]
  rfl
theorem Step.untilMore {i lo hi : Nat} {l : Sre.Loop} (hop : b.code.getD pc 0 = 18) (hl : loops[i]? = some l) (h2 : b.code.getD (l.pc + 2) 0 = lo) (h3 : b.code.getD (l.pc + 3) 0 = hi) (hc : ¬ l.count + 1 < lo) (hh : l.count + 1 < hi ∨ hi = maxRepeat) (hb : l.began ≠ some pos) (hm : mks.a.size ≤ 7) :
    Step b ⟨pc, pos, mks, loops, some i, frames, none⟩ ⟨l.pc + 4, pos, mks, loops.modify i (fun x => { x with count := l.count + 1, began := some pos }), some i, moF b.om (pc + 1) pos i (l.count + 1) (mks.keep true) l.began :: frames, none⟩ := fun w sn hd hw => by
  have hk := mks.keep_size true hm
  refine ⟨w + 1 + (mks.keep true).marks.size, sn.add 18, pos, by omega, ?_⟩
  rw [until_exec hop]
  rw [until_eq (Eq.refl _) (loopAt_is (c := ⟨pc + 1, pos, mks, loops, some i, frames, none⟩) hl)]
  show (if l.count + 1 < ((b.code.getD (l.pc + 2) 0 : Nat) : Int) then _ else if ((decide (l.count + 1 < ((b.code.getD (l.pc + 3) 0 : Nat) : Int)) || b.code.getD (l.pc + 3) 0 == maxRepeat) && l.began != some pos) = true then _ else _) = _
  rw [h2, h3, if_neg hc, if_pos (by
    rw [Bool.and_eq_true, Bool.or_eq_true, decide_eq_true_eq, beq_iff_eq, bne_iff_ne]
    exact ⟨hh, hb⟩)]
  unfold M.round
  rw [loopAt_is (c := ⟨pc + 1, pos, mks, loops, some i, frames, none⟩) hl]
  exact attempt_is (c := ⟨pc + 1, pos, mks, loops.modify i (fun x => { x with count := l.count + 1, began := some pos }), some i, frames, none⟩) (f := moF b.om (pc + 1) pos i (l.count + 1) (mks.keep true) l.began) hw hk
theorem Step.untilBelow {i lo : Nat} {l : Sre.Loop} (hop : b.code.getD pc 0 = 18) (hl : loops[i]? = some l) (h2 : b.code.getD (l.pc + 2) 0 = lo) (hc : l.count + 1 < lo) :
    Step b ⟨pc, pos, mks, loops, some i, frames, none⟩ ⟨l.pc + 4, pos, mks, loops.modify i (fun x => { x with count := l.count + 1, began := x.began }), some i, blF b.om (pc + 1) pos i (l.count + 1) l.began :: frames, none⟩ := fun w sn hd hw => by
  refine ⟨w + 1 + 0, sn.add 18, pos, by omega, ?_⟩
  rw [until_exec hop]
  rw [until_eq (Eq.refl _) (loopAt_is (c := ⟨pc + 1, pos, mks, loops, some i, frames, none⟩) hl)]
  show (if l.count + 1 < ((b.code.getD (l.pc + 2) 0 : Nat) : Int) then _ else _) = _
  rw [h2, if_pos hc]
  unfold M.round
  rw [loopAt_is (c := ⟨pc + 1, pos, mks, loops, some i, frames, none⟩) hl]
  exact attempt_is (c := ⟨pc + 1, pos, mks, loops.modify i (fun x => { x with count := l.count + 1, began := x.began }), some i, frames, none⟩) (f := blF b.om (pc + 1) pos i (l.count + 1) l.began) hw (by show 0 ≤ 7; omega)
theorem Step.untilTail {i lo hi : Nat} {l : Sre.Loop} (hop : b.code.getD pc 0 = 18) (hl : loops[i]? = some l) (h2 : b.code.getD (l.pc + 2) 0 = lo) (h3 : b.code.getD (l.pc + 3) 0 = hi) (hc : ¬ l.count + 1 < lo) (hh : ¬ ((l.count + 1 < hi ∨ hi = maxRepeat) ∧ l.began ≠ some pos)) :
    Step b ⟨pc, pos, mks, loops, some i, frames, none⟩ ⟨pc + 1, pos, mks, loops, l.outer, taF b.om (pc + 1) pos i (l.count + 1) (mks.keep false) :: frames, none⟩ := fun w sn hd hw => by
  refine ⟨w + 1 + 0, sn.add 18, pos, by omega, ?_⟩
  rw [until_exec hop]
  rw [until_eq (Eq.refl _) (loopAt_is (c := ⟨pc + 1, pos, mks, loops, some i, frames, none⟩) hl)]
  show (if l.count + 1 < ((b.code.getD (l.pc + 2) 0 : Nat) : Int) then _ else if ((decide (l.count + 1 < ((b.code.getD (l.pc + 3) 0 : Nat) : Int)) || b.code.getD (l.pc + 3) 0 == maxRepeat) && l.began != some pos) = true then _ else _) = _
  rw [h2, h3, if_neg hc, if_neg (by
    rw [Bool.and_eq_true, Bool.or_eq_true, decide_eq_true_eq, beq_iff_eq, bne_iff_ne]
    exact hh)]
  unfold M.afterLoop
  rw [loopAt_is (c := ⟨pc + 1, pos, mks, loops, some i, frames, none⟩) hl]
  show M.attempt (mM b ⟨pc + 1, pos, mks, loops, l.outer, frames, none⟩ w (sn.add 18) hd) (taF b.om (pc + 1) pos i (l.count + 1) (mks.keep false)) (pc + 1) pos b.om = _
  exact attempt_is (c := ⟨pc + 1, pos, mks, loops, l.outer, frames, none⟩) (f := taF b.om (pc + 1) pos i (l.count + 1) (mks.keep false)) hw (by show 0 ≤ 7; omega)
/-- another turn falls: the loop's tail -/
theorem Step.moreNo {i q p : Nat} {n : Int} {k : Sre.Kept} {g : Option Nat} {l : Sre.Loop} (hl : loops[i]? = some l) :
    Step b ⟨pc, pos, mks, loops, inner, moF b.om q p i n k g :: frames, some false⟩ ⟨q, p, mks.back k, (loops.modify i (fun x => { x with began := g })).modify i (fun x => { x with count := n - 1 }), l.outer, taF b.om q p i n ((mks.back k).keep false) :: frames, none⟩ := fun w sn hd hw => by
  refine ⟨w - (1 + k.marks.size) + 1 + 0, sn, p, by omega, ?_⟩
  rw [step_resume rfl]
  unfold M.resume
  dsimp only [moF]
  show (if false = true then _ else M.afterLoop (mM b ⟨q, p, mks.back k, (loops.modify i (fun x => { x with began := g })).modify i (fun x => { x with count := n - 1 }), inner, frames, none⟩ (w - (1 + k.marks.size)) sn hd) .maxTail i n fun _ => false) = _
  rw [if_neg Bool.false_ne_true]
  unfold M.afterLoop
  have hl' : ((loops.modify i (fun x => { x with began := g })).modify i (fun x => { x with count := n - 1 }))[i]? = some { l with began := g, count := n - 1 } := by
    simp [Array.getElem?_modify, hl]
  rw [loopAt_is (c := ⟨q, p, mks.back k, (loops.modify i (fun x => { x with began := g })).modify i (fun x => { x with count := n - 1 }), inner, frames, none⟩) hl']
  show M.attempt (mM b ⟨q, p, mks.back k, (loops.modify i (fun x => { x with began := g })).modify i (fun x => { x with count := n - 1 }), l.outer, frames, none⟩ (w - (1 + k.marks.size)) sn hd) (taF b.om q p i n ((mks.back k).keep false)) q p b.om = _
  exact attempt_is (c := ⟨q, p, mks.back k, (loops.modify i (fun x => { x with began := g })).modify i (fun x => { x with count := n - 1 }), l.outer, frames, none⟩) (f := taF b.om q p i n ((mks.back k).keep false)) (by omega) (by show 0 ≤ 7; omega)
theorem Step.belowNo {i q p : Nat} {n : Int} {g : Option Nat} :
    Step b ⟨pc, pos, mks, loops, inner, blF b.om q p i n g :: frames, some false⟩ ⟨q, p, mks, loops.modify i (fun x => { x with count := n - 1 }), inner, frames, some false⟩ := fun w sn hd hw => by
  refine ⟨w - (1 + 0), sn, hd, by omega, ?_⟩
  rw [step_resume rfl]
  rfl
theorem Step.closeNo {i q p : Nat} {l : Sre.Loop} (hl : loops[i]? = some l) :
    Step b ⟨pc, pos, mks, loops, inner, clF b.om q p i :: frames, some false⟩ ⟨q, p, mks, loops.pop, l.outer, frames, some false⟩ := fun w sn hd hw => by
  refine ⟨w - (1 + 0), sn, hd, by omega, ?_⟩
  rw [step_resume rfl]
  unfold M.resume
  dsimp only [clF]
  rw [loopAt_is (c := ⟨q, p, mks, loops, inner, frames, none⟩) hl]
  rfl

/-- the frame hands a yes on -/
def okF (om : Bool) (f : Sre.Frame) : Prop := f.outermost = om ∧ (f.wait = .nextStart ∨ f.wait = .nextBranch ∨ f.wait = .giveBack ∨ f.wait = .closeLoop ∨ f.wait = .maxBelow ∨ f.wait = .maxMore ∨ f.wait = .maxTail)
/-- a machine that has found -/
structure Found (b : Bs) (mks : Mk) (e : Nat) (m : M) : Prop where
  out : m.outcome = some .matched
  start : m.start = b.start
  handed : m.handed = e
  marks : m.marks = mks.a
  lm : m.lastmark = mks.lm
  li : m.lastindex = mks.li
theorem unwind : ∀ (frames : List Sre.Frame) (pc pos : Nat) (loops : Array Sre.Loop) (inner : Option Nat) (w : Nat) (sn : Seen) (hd : Nat), (∀ f ∈ frames, okF b.om f) →
    ∃ k, k ≤ frames.length + 1 ∧ Found b mks hd ((mM b ⟨pc, pos, mks, loops, inner, frames, some true⟩ w sn hd).runFor k) := by
  intro frames
  induction frames with
  | nil =>
    intro pc pos loops inner w sn hd _
    refine ⟨1, Nat.le_refl _, ?_⟩
    rw [runFor_one _ rfl]
    exact ⟨rfl, rfl, rfl, rfl, rfl, rfl⟩
  | cons f rest ih =>
    intro pc pos loops inner w sn hd h
    obtain ⟨ho, hw⟩ := h f (.head _)
    have hr : ∀ f ∈ rest, okF b.om f := fun g hg => h g (.tail _ hg)
    have st := step_resume (b := b) (pc := pc) (pos := pos) (mks := mks) (loops := loops) (inner := inner) (frames := rest) (f := f) (w := w) (sn := sn) (hd := hd) (yes := true) ho
    have key : ∃ loops' inner', M.resume (mM b ⟨f.pc, f.pos, mks, loops, inner, rest, none⟩ (w - (1 + f.kept.marks.size)) sn hd) f true = mM b ⟨f.pc, f.pos, mks, loops', inner', rest, some true⟩ (w - (1 + f.kept.marks.size)) sn hd := by
      unfold M.resume
      rcases hw with e | e | e | e | e | e | e <;> rw [e] <;> dsimp only <;> (try rw [if_pos rfl]) <;> exact ⟨_, _, rfl⟩
    obtain ⟨l', i', e⟩ := key
    obtain ⟨k, hk, hF⟩ := ih f.pc f.pos l' i' (w - (1 + f.kept.marks.size)) sn hd hr
    refine ⟨1 + k, by simp only [List.length_cons]; omega, ?_⟩
    rw [runFor_add, runFor_one _ rfl, st, e]
    exact hF
theorem success {w : Nat} {sn : Seen} {hd : Nat} (hop : b.code.getD pc 0 = 1) : (mM b ⟨pc, pos, mks, loops, inner, frames, none⟩ w sn hd).step = mM b ⟨pc, pos, mks, loops, inner, frames, some true⟩ w (sn.add 1) pos := by
  rw [step_exec hop (by omega)]
  unfold M.exec
  rw [exec_op (c := ⟨pc, pos, mks, loops, inner, frames, none⟩) hop (show ops[1]? = some .SUCCESS from rfl)]
  have hw0 : (mM b ⟨pc, pos, mks, loops, inner, frames, none⟩ w sn hd).word 0 = 1 := hop
  dsimp only
  rw [hw0]
  cases b with
  | mk code text start lastStart om => cases om <;> rfl
/-- from here it finds -/
theorem Go.finds {c : Cf} {n : Nat} (g : Go b n c ⟨pc, pos, mks, loops, inner, frames, none⟩) (hop : b.code.getD pc 0 = 1) (hf : ∀ f ∈ frames, okF b.om f) {w : Nat} {sn : Seen} {hd : Nat} (hw : w + 8 * n ≤ 2 ^ 23) :
    ∃ k, k ≤ c.frames.length + 2 * n + 2 ∧ Found b mks pos ((mM b c w sn hd).runFor k) := by
  obtain ⟨k, w', sn', hd', hk, hw', e⟩ := g.2 w sn hd hw
  obtain ⟨k2, hk2, hF⟩ := unwind (b := b) (mks := mks) frames pc pos loops inner w' (sn'.add 1) pos hf
  have := g.1
  refine ⟨k + (1 + k2), ?_, ?_⟩
  · dsimp only at this; omega
  · rw [runFor_add, e, runFor_add, runFor_one _ (Eq.refl _), success hop]
    exact hF
/-- from here it falls -/
theorem Go.falls {c : Cf} {n : Nat} (g : Go b n c ⟨pc, pos, mks, loops, inner, [], some false⟩) {w : Nat} {sn : Seen} {hd : Nat} (hw : w + 8 * n ≤ 2 ^ 23) :
    ∃ k, k ≤ n + 1 ∧ ((mM b c w sn hd).runFor k).outcome = some .failed := by
  obtain ⟨k, w', sn', hd', hk, hw', e⟩ := g.2 w sn hd hw
  refine ⟨k + 1, by omega, ?_⟩
  rw [runFor_add, e, runFor_one _ (Eq.refl _)]
  exact Eq.refl _
end
end Mine
end
section
open PySem
set_option Elab.async false
set_option linter.unusedVariables false
set_option linter.unusedSimpArgs false
set_option maxRecDepth 100000
namespace Mine
theorem plainAttrs_pat : PlainAttrs "re.Pattern" :=
  ⟨⟨"object.__getattribute__", by rw [typeLookup_type, builtinLookup_eq_fast]; kernel_rfl, by decide +kernel⟩, by rw [typeLookup_type, builtinLookup_eq_fast]; kernel_rfl⟩
theorem plainAttrs_mat : PlainAttrs "re.Match" :=
  ⟨⟨"object.__getattribute__", by rw [typeLookup_type, builtinLookup_eq_fast]; kernel_rfl, by decide +kernel⟩, by rw [typeLookup_type, builtinLookup_eq_fast]; kernel_rfl⟩
theorem owner_pat : Manifest.owners.lookup (String.ofList (['n', 'r', 'e', 't', 't', 'a', 'P', '.', 'e', 'r'] : List Char).reverse) = some Manifest.sig_re_Pattern := by kernel_rfl
theorem owner_mat : Manifest.owners.lookup (String.ofList (['h', 'c', 't', 'a', 'M', '.', 'e', 'r'] : List Char).reverse) = some Manifest.sig_re_Match := by kernel_rfl
theorem slot_pat_match : Slot "re.Pattern" "match" "re.Pattern.match" :=
  .of (owner := "re.Pattern") (n := "match") (by rw [typeLookup_type, builtinLookup_eq_fast]; kernel_rfl) (by decide +kernel) (by decide +kernel) (by decide +kernel)
    (by first | exact .inl (by decide +kernel) | exact .inr (by decide +kernel)) (by rw [isSubtype_type]; kernel_rfl)
theorem type_pat_match : typeOf (.builtin "re.Pattern.match") = pure (.type "method_descriptor") := by show builtinType _ = _; rw [builtinType_eq_fast]; kernel_rfl
theorem entry_pat_match : entryFor table "re.Pattern.match" = some Builtin.«re.Pattern.match» := entryFor_of_tree (by kernel_rfl)
theorem args_pat_match_3 (a b c : Value) : argsOk "re.Pattern.match" ⟨[a, b, c], []⟩ := by
  unfold argsOk; rw [signature?_of (id := "re.Pattern.match") (n := ['h', 'c', 't', 'a', 'm']) (o := ['n', 'r', 'e', 't', 't', 'a', 'P', '.', 'e', 'r']) (by kernel_rfl) owner_pat]; kernel_rfl
theorem slot_pat_sub : Slot "re.Pattern" "sub" "re.Pattern.sub" :=
  .of (owner := "re.Pattern") (n := "sub") (by rw [typeLookup_type, builtinLookup_eq_fast]; kernel_rfl) (by decide +kernel) (by decide +kernel) (by decide +kernel)
    (by first | exact .inl (by decide +kernel) | exact .inr (by decide +kernel)) (by rw [isSubtype_type]; kernel_rfl)
theorem type_pat_sub : typeOf (.builtin "re.Pattern.sub") = pure (.type "method_descriptor") := by show builtinType _ = _; rw [builtinType_eq_fast]; kernel_rfl
theorem entry_pat_sub : entryFor table "re.Pattern.sub" = some Builtin.«re.Pattern.sub» := entryFor_of_tree (by kernel_rfl)
theorem args_pat_sub_3 (a b c : Value) : argsOk "re.Pattern.sub" ⟨[a, b, c], []⟩ := by
  unfold argsOk; rw [signature?_of (id := "re.Pattern.sub") (n := ['b', 'u', 's']) (o := ['n', 'r', 'e', 't', 't', 'a', 'P', '.', 'e', 'r']) (by kernel_rfl) owner_pat]; kernel_rfl
theorem slot_mat_group : Slot "re.Match" "group" "re.Match.group" :=
  .of (owner := "re.Match") (n := "group") (by rw [typeLookup_type, builtinLookup_eq_fast]; kernel_rfl) (by decide +kernel) (by decide +kernel) (by decide +kernel)
    (by first | exact .inl (by decide +kernel) | exact .inr (by decide +kernel)) (by rw [isSubtype_type]; kernel_rfl)
theorem type_mat_group : typeOf (.builtin "re.Match.group") = pure (.type "method_descriptor") := by show builtinType _ = _; rw [builtinType_eq_fast]; kernel_rfl
theorem entry_mat_group : entryFor table "re.Match.group" = some Builtin.«re.Match.group» := entryFor_of_tree (by kernel_rfl)
theorem args_mat_group_1 (a : Value) : argsOk "re.Match.group" ⟨[a], []⟩ := by
  unfold argsOk; rw [signature?_of (id := "re.Match.group") (n := ['p', 'u', 'o', 'r', 'g']) (o := ['h', 'c', 't', 'a', 'M', '.', 'e', 'r']) (by kernel_rfl) owner_mat]; kernel_rfl
theorem args_mat_group_2 (a b : Value) : argsOk "re.Match.group" ⟨[a, b], []⟩ := by
  unfold argsOk; rw [signature?_of (id := "re.Match.group") (n := ['p', 'u', 'o', 'r', 'g']) (o := ['h', 'c', 't', 'a', 'M', '.', 'e', 'r']) (by kernel_rfl) owner_mat]; kernel_rfl
theorem slot_mat_end : Slot "re.Match" "end" "re.Match.end" :=
  .of (owner := "re.Match") (n := "end") (by rw [typeLookup_type, builtinLookup_eq_fast]; kernel_rfl) (by decide +kernel) (by decide +kernel) (by decide +kernel)
    (by first | exact .inl (by decide +kernel) | exact .inr (by decide +kernel)) (by rw [isSubtype_type]; kernel_rfl)
theorem type_mat_end : typeOf (.builtin "re.Match.end") = pure (.type "method_descriptor") := by show builtinType _ = _; rw [builtinType_eq_fast]; kernel_rfl
theorem entry_mat_end : entryFor table "re.Match.end" = some Builtin.«re.Match.end» := entryFor_of_tree (by kernel_rfl)
theorem args_mat_end_1 (a : Value) : argsOk "re.Match.end" ⟨[a], []⟩ := by
  unfold argsOk; rw [signature?_of (id := "re.Match.end") (n := ['d', 'n', 'e']) (o := ['h', 'c', 't', 'a', 'M', '.', 'e', 'r']) (by kernel_rfl) owner_mat]; kernel_rfl
end Mine
end
section
open PySem
set_option Elab.async false
set_option linter.unusedVariables false
set_option linter.unusedSimpArgs false
namespace Mine
open PySem.Sre

def Mk.good (m : Mk) : Prop := m.a.size ≤ 7 ∧ ∀ (g x y : Nat), ((2 * g + 1 : Nat) : Int) ≤ m.lm → m.a.getD (2 * g) none = some x → m.a.getD (2 * g + 1) none = some y → x ≤ y
def Mk.sim (m m' : Mk) : Prop := m.a.size = m'.a.size ∧ m.lm = m'.lm ∧ m.li = m'.li ∧ ∀ j : Nat, (j : Int) ≤ m.lm → m.a.getD j none = m'.a.getD j none
theorem Mk.good.sim {m m' : Mk} (h : m.good) (s : m'.sim m) : m'.good := by
  obtain ⟨s1, s2, s3, s4⟩ := s
  refine ⟨s1 ▸ h.1, fun g x y hl hx hy => ?_⟩
  rw [s4 _ (by omega)] at hx
  rw [s4 _ (by omega)] at hy
  exact h.2 g x y (by omega) hx hy
theorem Mk.back_size (m : Mk) (k : Sre.Kept) (h : k.marks.size ≤ m.a.size) : (m.back k).a.size = m.a.size := by
  unfold Mk.back
  dsimp only
  split
  · rw [Array.size_append, Array.size_extract]; omega
  · rfl
theorem Mk.keep_le (m : Mk) (whole : Bool) : (m.keep whole).marks.size ≤ m.a.size := by
  unfold Mk.keep
  cases whole
  · simp
  · simp only [if_true, Array.size_extract]; omega
theorem Mk.back_keep {m m' : Mk} (h : m'.a.size = m.a.size) : (m'.back (m.keep true)).sim m := by
  refine ⟨(Mk.back_size _ _ (h ▸ m.keep_le true)).trans h, rfl, rfl, fun j hj => ?_⟩
  have hj' : (j : Int) ≤ m.lm := hj
  show (m.a.extract 0 (m.lm + 1).toNat ++ m'.a.extract (m.a.extract 0 (m.lm + 1).toNat).size m'.a.size).getD j none = _
  rw [Array.getD_eq_getD_getElem?, Array.getD_eq_getD_getElem?]
  congr 1
  by_cases hs : j < m.a.size
  · rw [Array.getElem?_append_left (by rw [Array.size_extract]; omega), Array.getElem?_extract]
    rw [if_pos (by omega), Nat.zero_add]
  · have e2 : m.a[j]? = none := Array.getElem?_eq_none (by omega)
    rw [e2]
    exact Array.getElem?_eq_none (by rw [Array.size_append, Array.size_extract, Array.size_extract]; omega)
theorem foldl_size {α : Type} (f : Array α → Nat → Array α) (h : ∀ a j, (f a j).size = a.size) : ∀ (l : List Nat) (a : Array α), (l.foldl f a).size = a.size
  | [], a => rfl
  | x :: l, a => by rw [List.foldl_cons, foldl_size f h l, h]
theorem clear_get (lm : Int) : ∀ (l : List Nat) (a : Array (Option Nat)) (j : Nat), (l.foldl (fun (a : Array (Option Nat)) (j : Nat) => if (j : Int) > lm then a.setIfInBounds j none else a) a).getD j none = if j ∈ l ∧ (j : Int) > lm then none else a.getD j none
  | [], a, j => by simp
  | x :: l, a, j => by
    rw [List.foldl_cons, clear_get lm l]
    by_cases h1 : (j : Int) > lm
    · by_cases h2 : j ∈ l
      · simp [h1, h2]
      · by_cases h3 : j = x
        · subst h3
          simp only [h1, h2, false_and, if_false, if_true, List.mem_cons, true_or, and_self]
          rw [Array.getD_eq_getD_getElem?]
          by_cases q : j < a.size
          · simp [q]
          · simp [q]
        · have : ¬ (j ∈ x :: l) := by simp [h2, h3]
          simp only [h2, this, false_and, if_false]
          split
          · rw [Array.getD_eq_getD_getElem?, Array.getD_eq_getD_getElem?, Array.getElem?_setIfInBounds_ne (by omega)]
          · rfl
    · simp only [h1, and_false, if_false]
      split
      · rw [Array.getD_eq_getD_getElem?, Array.getD_eq_getD_getElem?, Array.getElem?_setIfInBounds_ne (by omega)]
      · rfl
theorem Mk.mark_size (m : Mk) (i p : Nat) : (m.mark i p).a.size = m.a.size := by
  unfold Mk.mark
  dsimp only
  rw [Array.size_setIfInBounds]
  split
  · rfl
  · exact foldl_size _ (fun a j => by split; exact Array.size_setIfInBounds ..; rfl) _ _
theorem Mk.mark_get (m : Mk) (i p j : Nat) (h : j ≠ i) : (m.mark i p).a.getD j none = m.a.getD j none ∨ ((m.mark i p).a.getD j none = none ∧ (j : Int) > m.lm) := by
  unfold Mk.mark
  dsimp only
  rw [Array.getD_eq_getD_getElem?, Array.getElem?_setIfInBounds_ne (by omega), ← Array.getD_eq_getD_getElem?]
  split
  · left; rfl
  · rw [clear_get]
    split
    · rename_i hc; right; exact ⟨rfl, hc.2⟩
    · left; rfl
theorem Mk.mark_self (m : Mk) (i p x : Nat) (h : (m.mark i p).a.getD i none = some x) : x = p := by
  unfold Mk.mark at h
  dsimp only at h
  rw [Array.getD_eq_getD_getElem?] at h
  rw [Array.getElem?_setIfInBounds_self] at h
  generalize (if (i : Int) ≤ m.lm + 1 then m.a else (List.range i).foldl (fun (a : Array (Option Nat)) (j : Nat) => if (j : Int) > m.lm then a.setIfInBounds j none else a) m.a) = u at h
  by_cases c : i < u.size
  · rw [if_pos c] at h
    simpa using h.symm
  · rw [if_neg c] at h
    cases h
theorem Mk.mark_clear (m : Mk) (i p j : Nat) (h : (i : Int) > m.lm + 1) (hj : j < i) (hl : (j : Int) > m.lm) : (m.mark i p).a.getD j none = none := by
  unfold Mk.mark
  dsimp only
  rw [Array.getD_eq_getD_getElem?, Array.getElem?_setIfInBounds_ne (by omega), ← Array.getD_eq_getD_getElem?, if_neg (by omega), clear_get, if_pos ⟨List.mem_range.mpr hj, hl⟩]
theorem Mk.good.marks {m : Mk} (h : m.good) (g : Nat) {p q : Nat} (hpq : p ≤ q) : ((m.mark (2 * g) p).mark (2 * g + 1) q).good := by
  refine ⟨by rw [Mk.mark_size, Mk.mark_size]; exact h.1, fun g' x y hl hx hy => ?_⟩
  by_cases hg : g' = g
  · subst hg
    have hy' := Mk.mark_self _ _ _ _ hy
    rcases Mk.mark_get (m.mark (2 * g') p) (2 * g' + 1) q (2 * g') (by omega) with e | ⟨e, _⟩
    · rw [e] at hx
      have := Mk.mark_self _ _ _ _ hx
      omega
    · rw [e] at hx; cases hx
  · have ex : (m.a.getD (2 * g') none = some x) ∧ (m.a.getD (2 * g' + 1) none = some y) := by
      constructor
      · rcases Mk.mark_get (m.mark (2 * g) p) (2 * g + 1) q (2 * g') (by omega) with e | ⟨e, _⟩
        · rw [e] at hx
          rcases Mk.mark_get m (2 * g) p (2 * g') (by omega) with e | ⟨e, _⟩
          · rw [e] at hx; exact hx
          · rw [e] at hx; cases hx
        · rw [e] at hx; cases hx
      · rcases Mk.mark_get (m.mark (2 * g) p) (2 * g + 1) q (2 * g' + 1) (by omega) with e | ⟨e, _⟩
        · rw [e] at hy
          rcases Mk.mark_get m (2 * g) p (2 * g' + 1) (by omega) with e | ⟨e, _⟩
          · rw [e] at hy; exact hy
          · rw [e] at hy; cases hy
        · rw [e] at hy; cases hy
    by_cases hlm : ((2 * g' + 1 : Nat) : Int) ≤ m.lm
    · exact h.2 g' x y hlm ex.1 ex.2
    · exfalso
      have hl' : ((2 * g' + 1 : Nat) : Int) ≤ max (max m.lm ((2 * g : Nat) : Int)) ((2 * g + 1 : Nat) : Int) := hl
      have hg' : g' < g := by omega
      have e1 := Mk.mark_clear m (2 * g) p (2 * g' + 1) (by omega) (by omega) (by omega)
      rcases Mk.mark_get (m.mark (2 * g) p) (2 * g + 1) q (2 * g' + 1) (by omega) with e | ⟨e, _⟩
      · rw [e, e1] at hy; cases hy
      · rw [e] at hy; cases hy

/-- what a loop's body does: from p on to q, or nothing -/
def BodyOk (b : Bs) (pc0 pcU : Nat) (nxt : Nat → Option Nat) (K : Nat) : Prop :=
  ∀ (p : Nat) (mks : Mk) (loops : Array Sre.Loop) (i : Nat) (frames : List Sre.Frame), p ≤ b.text.size → mks.good → i < loops.size →
    match nxt p with
    | some q => p < q ∧ q ≤ b.text.size ∧ ∃ n G mks' loops', n ≤ K ∧ Go b n ⟨pc0, p, mks, loops, some i, frames, none⟩ ⟨pcU, q, mks', loops', some i, G ++ frames, none⟩ ∧ mks'.good ∧ loops'[i]? = loops[i]? ∧ ∀ f ∈ G, okF b.om f
    | none => ∃ n pc' p' mks' loops' inner', n ≤ K ∧ Go b n ⟨pc0, p, mks, loops, some i, frames, none⟩ ⟨pc', p', mks', loops', inner', frames, some false⟩ ∧ mks'.a.size = mks.a.size ∧ loops'[i]? = loops[i]?
def starEnd (nxt : Nat → Option Nat) : Nat → Nat → Nat
  | 0, p => p
  | n + 1, p => match nxt p with
    | some q => starEnd nxt n q
    | none => p
theorem lt_size {α : Type} {a : Array α} {i : Nat} {x : α} (h : a[i]? = some x) : i < a.size := (Array.getElem?_eq_some_iff.mp h).1
/-- a star: the turns, then the tail -/
theorem star {b : Bs} {P U K lo : Nat} {nxt : Nat → Option Nat} (hb : BodyOk b (P + 4) U nxt K) (hU : b.code.getD U 0 = 18) (h2 : b.code.getD (P + 2) 0 = lo) (h3 : b.code.getD (P + 3) 0 = maxRepeat) :
    ∀ (n p : Nat) (mks : Mk) (loops : Array Sre.Loop) (i : Nat) (frames : List Sre.Frame) (l : Sre.Loop), b.text.size - p ≤ n → p ≤ b.text.size → mks.good → loops[i]? = some l → l.pc = P → l.outer = none → ¬ l.count + 1 < lo → (∀ x, l.began = some x → x < p) →
      ∃ k G mks' loops', k ≤ (K + 2) * (n + 1) ∧ Go b k ⟨U, p, mks, loops, some i, frames, none⟩ ⟨U + 1, starEnd nxt n p, mks', loops', none, G ++ frames, none⟩ ∧ mks'.good ∧ ∀ f ∈ G, okF b.om f := by
  intro n
  induction n with
  | zero =>
    intro p mks loops i frames l hn hp hm hl hP ho hc hbg
    subst hP
    have B := hb p mks (loops.modify i (fun x => { x with count := l.count + 1, began := some p })) i (moF b.om (U + 1) p i (l.count + 1) (mks.keep true) l.began :: frames) hp hm (by rw [Array.size_modify]; exact lt_size hl)
    have hnx : nxt p = none := by
      cases q : nxt p with
      | none => rfl
      | some v => rw [q] at B; have := B.1; have := B.2.1; omega
    rw [hnx] at B
    obtain ⟨n, pc', p', mks', loops', inner', hn', hG, hs, hl'⟩ := B
    have hl1 : (loops.modify i (fun x => { x with count := l.count + 1, began := some p }))[i]? = some { l with count := l.count + 1, began := some p } := by simp [Array.getElem?_modify, hl]
    have s1 := (Step.untilMore (b := b) (pc := U) (pos := p) (mks := mks) (loops := loops) (frames := frames) hU hl h2 h3 hc (.inr rfl) (fun e => by have := hbg _ e; omega) hm.1).go (by simp only [List.length_cons]; omega)
    have s2 := (Step.moreNo (b := b) (pc := pc') (pos := p') (mks := mks') (inner := inner') (frames := frames) (q := U + 1) (p := p) (n := l.count + 1) (k := mks.keep true) (g := l.began) (hl'.trans hl1)).go (by simp only [List.length_cons]; omega)
    refine ⟨K + 2, [taF b.om (U + 1) p i (l.count + 1) ((mks'.back (mks.keep true)).keep false)], _, _, ?_, ((s1.trans hG).trans (ho ▸ s2)).more ?_, hm.sim (Mk.back_keep hs), ?_⟩
    · omega
    · omega
    · intro f hf
      cases hf with
      | head => exact ⟨rfl, by simp [taF]⟩
      | tail _ h => cases h
  | succ n ih =>
    intro p mks loops i frames l hn hp hm hl hP ho hc hbg
    subst hP
    have B := hb p mks (loops.modify i (fun x => { x with count := l.count + 1, began := some p })) i (moF b.om (U + 1) p i (l.count + 1) (mks.keep true) l.began :: frames) hp hm (by rw [Array.size_modify]; exact lt_size hl)
    have hl1 : (loops.modify i (fun x => { x with count := l.count + 1, began := some p }))[i]? = some { l with count := l.count + 1, began := some p } := by simp [Array.getElem?_modify, hl]
    have s1 := (Step.untilMore (b := b) (pc := U) (pos := p) (mks := mks) (loops := loops) (frames := frames) hU hl h2 h3 hc (.inr rfl) (fun e => by have := hbg _ e; omega) hm.1).go (by simp only [List.length_cons]; omega)
    cases hnx : nxt p with
    | none =>
      rw [hnx] at B
      obtain ⟨n', pc', p', mks', loops', inner', hn', hG, hs, hl'⟩ := B
      have s2 := (Step.moreNo (b := b) (pc := pc') (pos := p') (mks := mks') (inner := inner') (frames := frames) (q := U + 1) (p := p) (n := l.count + 1) (k := mks.keep true) (g := l.began) (hl'.trans hl1)).go (by simp only [List.length_cons]; omega)
      have e : starEnd nxt (n + 1) p = p := by unfold starEnd; rw [hnx]
      rw [e]
      refine ⟨K + 2, [taF b.om (U + 1) p i (l.count + 1) ((mks'.back (mks.keep true)).keep false)], _, _, ?_, ((s1.trans hG).trans (ho ▸ s2)).more ?_, hm.sim (Mk.back_keep hs), ?_⟩
      · have : (K + 2) * 1 ≤ (K + 2) * (n + 1 + 1) := Nat.mul_le_mul_left _ (by omega)
        omega
      · have : (K + 2) * 1 ≤ (K + 2) * (n + 1 + 1) := Nat.mul_le_mul_left _ (by omega)
        omega
      · intro f hf
        cases hf with
        | head => exact ⟨rfl, by simp [taF]⟩
        | tail _ h => cases h
    | some q =>
      rw [hnx] at B
      obtain ⟨hpq, hq, n', G, mks', loops', hn', hG, hm', hl', hok⟩ := B
      obtain ⟨k, G2, mks2, loops2, hk, hG2, hm2, hok2⟩ := ih q mks' loops' i (G ++ moF b.om (U + 1) p i (l.count + 1) (mks.keep true) l.began :: frames) _ (by omega) hq hm' (hl'.trans hl1) rfl ho (by show ¬ l.count + 1 + 1 < (lo : Int); omega) (fun x hx => by cases hx; exact hpq)
      have e : starEnd nxt (n + 1) p = starEnd nxt n q := by rw [starEnd, hnx]
      rw [e]
      refine ⟨1 + n' + k, G2 ++ (G ++ [moF b.om (U + 1) p i (l.count + 1) (mks.keep true) l.began]), mks2, loops2, ?_, ?_, hm2, ?_⟩
      · have : (K + 2) * (n + 1 + 1) = (K + 2) * (n + 1) + (K + 2) := by rw [Nat.mul_succ]
        omega
      · have := (s1.trans hG).trans hG2
        simpa [List.append_assoc] using this
      · intro f hf
        rw [List.mem_append, List.mem_append] at hf
        rcases hf with h | h | h
        · exact hok2 f h
        · exact hok f h
        · cases h with
          | head => exact ⟨rfl, by simp [moF]⟩
          | tail _ h => cases h
end Mine
end
section
open PySem
set_option Elab.async false
set_option linter.unusedVariables false
set_option linter.unusedSimpArgs false
namespace Mine
open PySem.Sre

/-- the signs that a text of the law bears -/
def alpha : List Nat := [9, 10, 12, 13, 127, 128, 233, 65533, 128512] ++ (List.range 95).map (· + 32)
def Acc (code : Array Nat) (i : Nat) (p : Nat → Bool) : Prop := ∀ c ∈ alpha, acc code i c = some (p c)
def bso (om : Bool) (code : Array Nat) (t : List Nat) (start last : Nat) : Bs := ⟨code, t.toArray, start, last, om⟩
abbrev bs (code : Array Nat) (t : List Nat) (start last : Nat) : Bs := bso true code t start last
/-- a word that takes one sign: which, and how wide it is -/
structure Wd (code : Array Nat) (pc n wd : Nat) (p : Nat → Bool) : Prop where
  at' : code.getD pc 0 = n
  op : n = 13 ∨ n = 16 ∨ n = 39
  ac : Acc code pc p
  width : itemWidth code pc = wd

section
variable {om : Bool} {code : Array Nat} {t : List Nat} {st la : Nat} {pc pos : Nat} {mks : Mk} {loops : Array Sre.Loop} {inner : Option Nat} {frames : List Sre.Frame}
theorem toArray_getD (t : List Nat) (i : Nat) : t.toArray.getD i 0 = t.getD i 0 := by simp [Array.getD_eq_getD_getElem?, List.getD_eq_getElem?_getD]
theorem getD_mem {t : List Nat} {i : Nat} (h : i < t.length) : t.getD i 0 ∈ t := by
  rw [List.getD_eq_getElem?_getD, List.getElem?_eq_getElem h]; exact List.getElem_mem h
theorem Wd.take {n wd : Nat} {p : Nat → Bool} (W : Wd code pc n wd p) (hT : ∀ c ∈ t, c ∈ alpha) (hp : pos < t.length) (h : p (t.getD pos 0) = true) :
    Go (bso om code t st la) 1 ⟨pc, pos, mks, loops, inner, frames, none⟩ ⟨pc + wd, pos + 1, mks, loops, inner, frames, none⟩ := by
  have ha : acc (bso om code t st la).code pc ((bso om code t st la).text.getD pos 0) = some true := by
    show acc code pc (t.toArray.getD pos 0) = _
    rw [toArray_getD, W.ac _ (hT _ (getD_mem hp)), h]
  have hs : pos < (bso om code t st la).text.size := hp
  rcases W.op with e | e | e <;> subst e
  · exact (Step.take (b := bso om code t st la) (op := .IN) W.at' (by omega) rfl (.inl rfl) hs ha W.width).go (Nat.le_succ _)
  · exact (Step.take (b := bso om code t st la) (op := .LITERAL) W.at' (by omega) rfl (.inr (.inl rfl)) hs ha W.width).go (Nat.le_succ _)
  · exact (Step.take (b := bso om code t st la) (op := .IN_UNI_IGNORE) W.at' (by omega) rfl (.inr (.inr rfl)) hs ha W.width).go (Nat.le_succ _)
theorem Wd.no {n wd : Nat} {p : Nat → Bool} (W : Wd code pc n wd p) (hT : ∀ c ∈ t, c ∈ alpha) (h : pos < t.length → p (t.getD pos 0) = false) :
    Go (bso om code t st la) 1 ⟨pc, pos, mks, loops, inner, frames, none⟩ ⟨pc, pos, mks, loops, inner, frames, some false⟩ := by
  have ha : pos < (bso om code t st la).text.size → acc (bso om code t st la).code pc ((bso om code t st la).text.getD pos 0) = some false := by
    intro hp
    show acc code pc (t.toArray.getD pos 0) = _
    rw [toArray_getD, W.ac _ (hT _ (getD_mem hp)), h hp]
  rcases W.op with e | e | e <;> subst e
  · exact (Step.no (b := bso om code t st la) (op := .IN) W.at' (by omega) rfl (.inl rfl) ha).go (Nat.le_succ _)
  · exact (Step.no (b := bso om code t st la) (op := .LITERAL) W.at' (by omega) rfl (.inr (.inl rfl)) ha).go (Nat.le_succ _)
  · exact (Step.no (b := bso om code t st la) (op := .IN_UNI_IGNORE) W.at' (by omega) rfl (.inr (.inr rfl)) ha).go (Nat.le_succ _)
theorem go_jump {k : Nat} (h : code.getD pc 0 = 15) (hk : pc + 1 + code.getD (pc + 1) 0 = k) :
    Go (bso om code t st la) 1 ⟨pc, pos, mks, loops, inner, frames, none⟩ ⟨k, pos, mks, loops, inner, frames, none⟩ := hk ▸ (Step.jump (b := bso om code t st la) h).go (Nat.le_succ _)
theorem go_mark {k : Nat} (h : code.getD pc 0 = 17) (hk : code.getD (pc + 1) 0 = k) :
    Go (bso om code t st la) 1 ⟨pc, pos, mks, loops, inner, frames, none⟩ ⟨pc + 2, pos, mks.mark k pos, loops, inner, frames, none⟩ := hk ▸ (Step.mark (b := bso om code t st la) h).go (Nat.le_succ _)
theorem go_branch (h : code.getD pc 0 = 7) (hz : code.getD (pc + 1) 0 ≠ 0) (hm : mks.a.size ≤ 7) :
    Go (bso om code t st la) 1 ⟨pc, pos, mks, loops, inner, frames, none⟩ ⟨pc + 2, pos, mks, loops, inner, brF om (pc + 1) pos (mks.keep inner.isSome) :: frames, none⟩ := (Step.branch (b := bso om code t st la) h hz hm).go (by simp only [List.length_cons]; omega)
theorem go_next {alt p s k' : Nat} {k : Sre.Kept} (hs : code.getD alt 0 = s) (hk' : alt + s = k') (hz : code.getD k' 0 ≠ 0) (hk : k.marks.size ≤ 7) :
    Go (bso om code t st la) 1 ⟨pc, pos, mks, loops, inner, brF om alt p k :: frames, some false⟩ ⟨k' + 1, p, mks.back k, loops, inner, brF om k' p k :: frames, none⟩ := hk' ▸ (Step.nextWay (b := bso om code t st la) hs (hk' ▸ hz) hk).go (by simp only [List.length_cons]; omega)
theorem go_noWay {alt p s k' : Nat} {k : Sre.Kept} (hs : code.getD alt 0 = s) (hk' : alt + s = k') (hz : code.getD k' 0 = 0) :
    Go (bso om code t st la) 1 ⟨pc, pos, mks, loops, inner, brF om alt p k :: frames, some false⟩ ⟨alt, p, mks.back k, loops, inner, frames, some false⟩ := (Step.noWay (b := bso om code t st la) hs (hk' ▸ hz)).go (by simp only [List.length_cons]; omega)

theorem okBr {alt p : Nat} {k : Sre.Kept} : okF om (brF om alt p k) := ⟨rfl, by simp [brF]⟩
theorem okGb {q p : Nat} {n : Int} {k : Sre.Kept} : okF om (gbF om q p n k) := ⟨rfl, by simp [gbF]⟩
theorem okCl {q p i : Nat} : okF om (clF om q p i) := ⟨rfl, by simp [clF]⟩
theorem okBl {q p i : Nat} {n : Int} {g : Option Nat} : okF om (blF om q p i n g) := ⟨rfl, by simp [blF]⟩
theorem okMo {q p i : Nat} {n : Int} {k : Sre.Kept} {g : Option Nat} : okF om (moF om q p i n k g) := ⟨rfl, by simp [moF]⟩
theorem okTa {q p i : Nat} {n : Int} {k : Sre.Kept} : okF om (taF om q p i n k) := ⟨rfl, by simp [taF]⟩
theorem okNil : ∀ f ∈ ([] : List Sre.Frame), okF om f := fun f h => nomatch h
theorem okCons {f : Sre.Frame} {G : List Sre.Frame} (h : okF om f) (hG : ∀ f ∈ G, okF om f) : ∀ g ∈ f :: G, okF om g := fun g hg => by
  cases hg with
  | head => exact h
  | tail _ q => exact hG g q

/-- a white sign, or two, or none: (?:\r\n|[ \n\r\t\f])? -/
def wsEnd (t : List Nat) (j : Nat) : Nat :=
  if j + 1 < t.length ∧ t.getD j 0 = 13 ∧ t.getD (j + 1) 0 = 10 then j + 2 else if j < t.length ∧ isWs (t.getD j 0) = true then j + 1 else j
def is (k c : Nat) : Bool := decide (c = k)
structure OptCode (code : Array Nat) (o : Nat) : Prop where
  c0 : code.getD o 0 = 23
  c1 : code.getD (o + 1) 0 = 27
  c2 : code.getD (o + 2) 0 = 0
  c3 : code.getD (o + 3) 0 = 1
  c4 : code.getD (o + 4) 0 = 7
  c5 : code.getD (o + 5) 0 = 7
  w6 : Wd code (o + 6) 16 2 (is 13)
  w8 : Wd code (o + 8) 16 2 (is 10)
  c10 : code.getD (o + 10) 0 = 15
  c11 : code.getD (o + 11) 0 = 17
  c12 : code.getD (o + 12) 0 = 15
  w13 : Wd code (o + 13) 13 12 isWs
  c25 : code.getD (o + 25) 0 = 15
  c26 : code.getD (o + 26) 0 = 2
  c27 : code.getD (o + 27) 0 = 0
  c28 : code.getD (o + 28) 0 = 18
theorem push_get {α : Type} {a : Array α} {x : α} : (a.push x)[a.size]? = some x := by simp
theorem push_keep {α : Type} {a : Array α} {x : α} {i : Nat} (h : i < a.size) : (a.push x)[i]? = a[i]? := by
  rw [Array.getElem?_push_lt h, Array.getElem?_eq_getElem h]
theorem Mk.sim_rfl {m : Mk} : m.sim m := ⟨rfl, rfl, rfl, fun _ _ => rfl⟩
theorem Mk.sim_trans {a b c : Mk} (x : a.sim b) (y : b.sim c) : a.sim c := ⟨x.1.trans y.1, x.2.1.trans y.2.1, x.2.2.1.trans y.2.2.1, fun j hj => (x.2.2.2 j hj).trans (y.2.2.2 j (by rw [← x.2.1]; exact hj))⟩
theorem Mk.sim_back {m m' : Mk} (h : m'.sim m) : (m'.back (m.keep true)).sim m := Mk.back_keep h.1
/-- the white part behind an escape -/
theorem opt_go {o : Nat} (O : OptCode code o) (hT : ∀ c ∈ t, c ∈ alpha) (hm : mks.a.size ≤ 7) (hp : pos ≤ t.length) :
    ∃ n G mks' loops', n ≤ 12 ∧ Go (bs code t st la) n ⟨o, pos, mks, loops, inner, frames, none⟩ ⟨o + 29, wsEnd t pos, mks', loops', inner, G ++ frames, none⟩ ∧ mks'.sim mks ∧ (∀ i, i < loops.size → loops'[i]? = loops[i]?) ∧ ∀ f ∈ G, okF true f := by
  have s0 := (Step.repeat (b := bs code t st la) (pc := o) (pos := pos) (mks := mks) (loops := loops) (inner := inner) (frames := frames) O.c0 O.c1).go (by simp only [List.length_cons]; omega)
  rw [show o + 1 + 27 = o + 28 by omega] at s0
  have l1 : (loops.push { pc := o, outer := inner })[loops.size]? = some { pc := o, outer := inner } := push_get
  have s1 := (Step.untilMore (b := bs code t st la) (pc := o + 28) (pos := pos) (mks := mks) (loops := loops.push { pc := o, outer := inner }) (i := loops.size) (frames := clF true o pos loops.size :: frames) O.c28 l1 O.c2 O.c3 (by show ¬ (-1 : Int) + 1 < ((0 : Nat) : Int); omega) (.inl (by show (-1 : Int) + 1 < ((1 : Nat) : Int); omega)) (by intro e; cases e) hm).go (by simp only [List.length_cons]; omega)
  let L1 := (loops.push { pc := o, outer := inner }).modify loops.size (fun x => { x with count := (-1 : Int) + 1, began := some pos })
  have hL1 : L1[loops.size]? = some { pc := o, outer := inner, count := 0, began := some pos } := by
    show ((loops.push { pc := o, outer := inner }).modify loops.size _)[loops.size]? = _
    rw [Array.getElem?_modify, if_pos rfl, l1]; rfl
  have hLk : ∀ i, i < loops.size → L1[i]? = loops[i]? := fun i hi => by
    show ((loops.push { pc := o, outer := inner }).modify loops.size _)[i]? = _
    rw [Array.getElem?_modify, if_neg (by omega), push_keep hi]
  have s2 := go_branch (om := true) (code := code) (t := t) (st := st) (la := la) (pc := o + 4) (pos := pos) (mks := mks) (loops := L1) (inner := some loops.size) (frames := moF true (o + 28 + 1) pos loops.size ((-1 : Int) + 1) (mks.keep true) none :: clF true o pos loops.size :: frames) O.c4 (by rw [show o + 4 + 1 = o + 5 by omega, O.c5]; omega) hm
  have hk := mks.keep_size true hm
  have base := (s0.trans s1).trans s2
  have tail : ∀ (p : Nat) (m : Mk) (fr : List Sre.Frame), Go (bs code t st la) 1 ⟨o + 28, p, m, L1, some loops.size, fr, none⟩ ⟨o + 29, p, m, L1, inner, taF true (o + 29) p loops.size 1 (m.keep false) :: fr, none⟩ := fun p m fr =>
    (Step.untilTail (b := bs code t st la) (pc := o + 28) (pos := p) (mks := m) (loops := L1) (i := loops.size) (frames := fr) O.c28 hL1 O.c2 O.c3 (by show ¬ (0 : Int) + 1 < ((0 : Nat) : Int); omega) (by rintro ⟨h, _⟩; have h : (0 : Int) + 1 < ((1 : Nat) : Int) ∨ (1 : Nat) = maxRepeat := h; rcases h with h | h; omega; revert h; decide)).go (by simp only [List.length_cons]; omega)
  unfold wsEnd
  by_cases h1 : pos + 1 < t.length ∧ t.getD pos 0 = 13 ∧ t.getD (pos + 1) 0 = 10
  · rw [if_pos h1]
    have a1 := O.w6.take (om := true) (st := st) (la := la) (mks := mks) (loops := L1) (inner := some loops.size) (frames := brF true (o + 5) pos (mks.keep true) :: moF true (o + 29) pos loops.size ((-1 : Int) + 1) (mks.keep true) none :: clF true o pos loops.size :: frames) hT (show pos < t.length by omega) (decide_eq_true h1.2.1)
    have a2 := O.w8.take (om := true) (st := st) (la := la) (mks := mks) (loops := L1) (inner := some loops.size) (frames := brF true (o + 5) pos (mks.keep true) :: moF true (o + 29) pos loops.size ((-1 : Int) + 1) (mks.keep true) none :: clF true o pos loops.size :: frames) hT h1.1 (decide_eq_true h1.2.2)
    have a3 := go_jump (om := true) (code := code) (t := t) (st := st) (la := la) (pc := o + 10) (k := o + 28) (pos := pos + 2) (mks := mks) (loops := L1) (inner := some loops.size) (frames := brF true (o + 5) pos (mks.keep true) :: moF true (o + 29) pos loops.size ((-1 : Int) + 1) (mks.keep true) none :: clF true o pos loops.size :: frames) O.c10 (by rw [show o + 10 + 1 = o + 11 by omega, O.c11])
    exact ⟨_, [_, _, _, _], mks, L1, by omega, (((base.trans a1).trans a2).trans a3).trans (tail _ _ _), Mk.sim_rfl, hLk, okCons okTa (okCons okBr (okCons okMo (okCons okCl okNil)))⟩
  · rw [if_neg h1]
    -- the first way falls
    have f1 : ∃ n p' pc' , n ≤ 2 ∧ Go (bs code t st la) n ⟨o + 6, pos, mks, L1, some loops.size, brF true (o + 5) pos (mks.keep true) :: moF true (o + 29) pos loops.size ((-1 : Int) + 1) (mks.keep true) none :: clF true o pos loops.size :: frames, none⟩
        ⟨pc', p', mks, L1, some loops.size, brF true (o + 5) pos (mks.keep true) :: moF true (o + 29) pos loops.size ((-1 : Int) + 1) (mks.keep true) none :: clF true o pos loops.size :: frames, some false⟩ := by
      by_cases h2 : pos < t.length ∧ t.getD pos 0 = 13
      · refine ⟨2, _, _, Nat.le_refl _, (O.w6.take hT h2.1 (decide_eq_true h2.2)).trans (O.w8.no hT fun h3 => decide_eq_false fun h4 => h1 ⟨h3, h2.2, h4⟩)⟩
      · exact ⟨1, _, _, by omega, O.w6.no hT fun h3 => decide_eq_false fun h4 => h2 ⟨h3, h4⟩⟩
    obtain ⟨n1, p', pc', hn1, f1⟩ := f1
    have f2 := go_next (om := true) (code := code) (t := t) (st := st) (la := la) (pc := pc') (pos := p') (mks := mks) (loops := L1) (inner := some loops.size) (frames := moF true (o + 29) pos loops.size ((-1 : Int) + 1) (mks.keep true) none :: clF true o pos loops.size :: frames) (alt := o + 5) (p := pos) (s := 7) (k' := o + 12) (k := mks.keep true) O.c5 (by omega) (by rw [O.c12]; omega) hk
    have b2 := (base.trans f1).trans f2
    have sm : (mks.back (mks.keep true)).sim mks := Mk.back_keep rfl
    by_cases h2 : pos < t.length ∧ isWs (t.getD pos 0) = true
    · rw [if_pos h2]
      have a1 := O.w13.take (om := true) (st := st) (la := la) (mks := mks.back (mks.keep true)) (loops := L1) (inner := some loops.size) (frames := brF true (o + 12) pos (mks.keep true) :: moF true (o + 29) pos loops.size ((-1 : Int) + 1) (mks.keep true) none :: clF true o pos loops.size :: frames) hT h2.1 h2.2
      have a3 := go_jump (om := true) (code := code) (t := t) (st := st) (la := la) (pc := o + 25) (k := o + 28) (pos := pos + 1) (mks := mks.back (mks.keep true)) (loops := L1) (inner := some loops.size) (frames := brF true (o + 12) pos (mks.keep true) :: moF true (o + 29) pos loops.size ((-1 : Int) + 1) (mks.keep true) none :: clF true o pos loops.size :: frames) O.c25 (by rw [show o + 25 + 1 = o + 26 by omega, O.c26])
      exact ⟨_, [_, _, _, _], _, L1, by omega, ((b2.trans a1).trans a3).trans (tail _ _ _), sm, hLk, okCons okTa (okCons okBr (okCons okMo (okCons okCl okNil)))⟩
    · rw [if_neg h2]
      have a1 := O.w13.no (om := true) (st := st) (la := la) (pos := pos) (mks := mks.back (mks.keep true)) (loops := L1) (inner := some loops.size) (frames := brF true (o + 12) pos (mks.keep true) :: moF true (o + 29) pos loops.size ((-1 : Int) + 1) (mks.keep true) none :: clF true o pos loops.size :: frames) hT (fun h3 => by
        cases q : isWs (t.getD pos 0) with
        | false => rfl
        | true => exact absurd ⟨h3, q⟩ h2)
      have a2 := go_noWay (om := true) (code := code) (t := t) (st := st) (la := la) (pc := o + 13) (pos := pos) (mks := mks.back (mks.keep true)) (loops := L1) (inner := some loops.size) (frames := moF true (o + 29) pos loops.size ((-1 : Int) + 1) (mks.keep true) none :: clF true o pos loops.size :: frames) (alt := o + 12) (p := pos) (s := 15) (k' := o + 27) (k := mks.keep true) O.c12 (by omega) O.c27
      have a3 := (Step.moreNo (b := bs code t st la) (pc := o + 12) (pos := pos) (mks := (mks.back (mks.keep true)).back (mks.keep true)) (loops := L1) (inner := some loops.size) (frames := clF true o pos loops.size :: frames) (q := o + 29) (p := pos) (i := loops.size) (n := (-1 : Int) + 1) (k := mks.keep true) (g := none) hL1).go (by simp only [List.length_cons]; omega)
      refine ⟨_, [_, _], _, _, ?_, ((b2.trans a1).trans a2).trans a3, Mk.back_keep (((Mk.back_keep (m := mks) (Mk.back_keep (m := mks) rfl).1).1)), fun i hi => ?_, okCons okTa (okCons okCl okNil)⟩
      · omega
      · rw [Array.getElem?_modify, if_neg (by omega), Array.getElem?_modify, if_neg (by omega), hLk i hi]
end
end Mine
end
section
open PySem
set_option Elab.async false
set_option linter.unusedVariables false
set_option linter.unusedSimpArgs false
namespace Mine
open PySem.Sre
theorem runN_len (p : Nat → Bool) (t : List Nat) : ∀ n i, i + n ≤ t.length → runN p t n i = (((t.drop i).take n).takeWhile p).length
  | 0, i, _ => by simp [runN]
  | n + 1, i, h => by
    have hi : i < t.length := by omega
    rw [runN, List.drop_eq_getElem_cons hi, List.take_succ_cons, List.takeWhile_cons, List.getD_eq_getElem?_getD, List.getElem?_eq_getElem hi, Option.getD_some]
    cases hp : p t[i] with
    | false => simp
    | true => simp [runN_len p t n (i + 1) (by omega)]
theorem hexRun_is {t : List Nat} {p : Nat} (h : p + 1 ≤ t.length) : runN isHex t (min 6 (t.length - (p + 1))) (p + 1) = (hexRun t p).length := by
  rw [runN_len _ _ _ _ (by omega)]
  unfold hexRun
  congr 2
  rcases Nat.le_total 6 (t.length - (p + 1)) with q | q
  · rw [Nat.min_eq_left q]
  · rw [Nat.min_eq_right q, List.take_of_length_le (by rw [List.length_drop]; omega), List.take_of_length_le (by rw [List.length_drop]; omega)]

structure EscCode (code : Array Nat) (o g : Nat) : Prop where
  w0 : Wd code o 16 2 (is 92)
  c2 : code.getD (o + 2) 0 = 17
  c3 : code.getD (o + 3) 0 = 2 * g
  c4 : code.getD (o + 4) 0 = 24
  c5 : code.getD (o + 5) 0 = 13
  c6 : code.getD (o + 6) 0 = 1
  c7 : code.getD (o + 7) 0 = 6
  a8 : Acc code (o + 8) isHex
  c18 : code.getD (o + 18) 0 = 17
  c19 : code.getD (o + 19) 0 = 2 * g + 1
  opt : OptCode code (o + 20)
/-- \\([0-9a-f]{1,6})(?:..)? at p -/
def escAt (t : List Nat) (p : Nat) : Bool := decide (p < t.length) && decide (t.getD p 0 = 92) && decide (hexRun t p ≠ [])
section
variable {code : Array Nat} {t : List Nat} {st la : Nat} {pc pos : Nat} {mks : Mk} {loops : Array Sre.Loop} {inner : Option Nat} {frames : List Sre.Frame}
theorem wsEnd_le {t : List Nat} {j : Nat} (h : j ≤ t.length) : wsEnd t j ≤ t.length := by unfold wsEnd; split; omega; split <;> omega
theorem wsEnd_ge (t : List Nat) (j : Nat) : j ≤ wsEnd t j := by unfold wsEnd; split; omega; split <;> omega
theorem hexRun_end {t : List Nat} {p : Nat} (h : p < t.length) : p + 1 + (hexRun t p).length ≤ t.length := by
  unfold hexRun
  have := tw_len isHex ((t.drop (p + 1)).take 6)
  rw [List.length_take, List.length_drop] at this
  omega
theorem esc_go {o g : Nat} (E : EscCode code o g) (hT : ∀ c ∈ t, c ∈ alpha) (hm : mks.a.size ≤ 7) (h : escAt t pos = true) :
    ∃ n G mks' loops', n ≤ 16 ∧ Go (bs code t st la) n ⟨o, pos, mks, loops, inner, frames, none⟩ ⟨o + 49, wsEnd t (pos + 1 + (hexRun t pos).length), mks', loops', inner, G ++ frames, none⟩ ∧
      mks'.sim ((mks.mark (2 * g) (pos + 1)).mark (2 * g + 1) (pos + 1 + (hexRun t pos).length)) ∧ (∀ i, i < loops.size → loops'[i]? = loops[i]?) ∧ ∀ f ∈ G, okF true f := by
  unfold escAt at h
  simp only [Bool.and_eq_true, decide_eq_true_eq] at h
  obtain ⟨⟨h1, h2⟩, h3⟩ := h
  have hr := hexRun_is (t := t) (p := pos) h1
  have h0 : 0 < (hexRun t pos).length := List.length_pos_iff.mpr h3
  have s1 := E.w0.take (om := true) (st := st) (la := la) (mks := mks) (loops := loops) (inner := inner) (frames := frames) hT h1 (decide_eq_true h2)
  have s2 := go_mark (om := true) (code := code) (t := t) (st := st) (la := la) (pc := o + 2) (pos := pos + 1) (mks := mks) (loops := loops) (inner := inner) (frames := frames) E.c2 E.c3
  have s3 := (Step.repOne (b := bs code t st la) (pc := o + 4) (pos := pos + 1) (mks := mks.mark (2 * g) (pos + 1)) (loops := loops) (inner := inner) (frames := frames) (t := t) (p := isHex) rfl E.c4 E.c5 E.c6 E.c7 (fun k hk1 hk2 => E.a8 _ (hT _ (getD_mem hk2))) h1 (by rw [Mk.mark_size]; exact hm) (by rw [hr]; omega)).go (by simp only [List.length_cons]; omega)
  rw [hr] at s3
  rw [show o + 4 + 1 + 13 = o + 18 by omega] at s3
  have s4 := go_mark (om := true) (code := code) (t := t) (st := st) (la := la) (pc := o + 18) (pos := pos + 1 + (hexRun t pos).length) (mks := mks.mark (2 * g) (pos + 1)) (loops := loops) (inner := inner) (frames := gbF true (o + 4) (pos + 1 + (hexRun t pos).length) (hexRun t pos).length ((mks.mark (2 * g) (pos + 1)).keep inner.isSome) :: frames) E.c18 E.c19
  obtain ⟨n, G, mks', loops', hn, s5, hs, hl, hok⟩ := opt_go (code := code) (t := t) (st := st) (la := la) (pos := pos + 1 + (hexRun t pos).length) (mks := (mks.mark (2 * g) (pos + 1)).mark (2 * g + 1) (pos + 1 + (hexRun t pos).length)) (loops := loops) (inner := inner)
    (frames := gbF true (o + 4) (pos + 1 + (hexRun t pos).length) (hexRun t pos).length ((mks.mark (2 * g) (pos + 1)).keep inner.isSome) :: frames) E.opt hT (by rw [Mk.mark_size, Mk.mark_size]; exact hm) (hexRun_end h1)
  refine ⟨4 + n, G ++ [gbF true (o + 4) (pos + 1 + (hexRun t pos).length) (hexRun t pos).length ((mks.mark (2 * g) (pos + 1)).keep inner.isSome)], mks', loops', by omega, ?_, hs, hl, fun f hf => ?_⟩
  · have := (((s1.trans s2).trans s3).trans s4).trans s5
    rw [show o + 20 + 29 = o + 49 by omega] at this
    rw [List.append_assoc]
    exact this.more (by omega)
  · rcases List.mem_append.mp hf with q | q
    · exact hok f q
    · exact okCons okGb okNil f q
theorem esc_no {o g : Nat} (E : EscCode code o g) (hT : ∀ c ∈ t, c ∈ alpha) (h : escAt t pos = false) :
    ∃ n pc' p' mks', n ≤ 16 ∧ Go (bs code t st la) n ⟨o, pos, mks, loops, inner, frames, none⟩ ⟨pc', p', mks', loops, inner, frames, some false⟩ ∧ mks'.a.size = mks.a.size := by
  by_cases h1 : pos < t.length ∧ t.getD pos 0 = 92
  · have h3 : hexRun t pos = [] := by
      unfold escAt at h
      rw [decide_eq_true h1.1, decide_eq_true h1.2] at h
      simpa using h
    have hr := hexRun_is (t := t) (p := pos) h1.1
    rw [h3] at hr
    have s1 := E.w0.take (om := true) (st := st) (la := la) (mks := mks) (loops := loops) (inner := inner) (frames := frames) hT h1.1 (decide_eq_true h1.2)
    have s2 := go_mark (om := true) (code := code) (t := t) (st := st) (la := la) (pc := o + 2) (pos := pos + 1) (mks := mks) (loops := loops) (inner := inner) (frames := frames) E.c2 E.c3
    have s3 := (Step.repOneNo (b := bs code t st la) (pc := o + 4) (pos := pos + 1) (mks := mks.mark (2 * g) (pos + 1)) (loops := loops) (inner := inner) (frames := frames) (t := t) (p := isHex) rfl E.c4 E.c6 E.c7 (fun k hk1 hk2 => E.a8 _ (hT _ (getD_mem hk2))) h1.1 (by rw [hr]; exact Nat.zero_lt_one)).go (Nat.le_succ _)
    exact ⟨_, _, _, _, by omega, (s1.trans s2).trans s3, Mk.mark_size _ _ _⟩
  · exact ⟨1, _, _, mks, by omega, E.w0.no hT (fun h3 => decide_eq_false fun h4 => h1 ⟨h3, h4⟩), rfl⟩

/-- \\[^\n\r\f0-9a-f] -/
def isPlainEsc (c : Nat) : Bool := !isHex c && !decide (c ∈ [10, 13, 12])
structure TwoCode (code : Array Nat) (o w : Nat) (p : Nat → Bool) : Prop where
  w0 : Wd code o 16 2 (is 92)
  w2 : ∃ n, Wd code (o + 2) n w p
def twoAt (t : List Nat) (p : Nat) (q : Nat → Bool) : Bool := decide (p + 1 < t.length) && decide (t.getD p 0 = 92) && q (t.getD (p + 1) 0)
theorem two_go {o w : Nat} {q : Nat → Bool} (E : TwoCode code o w q) (hT : ∀ c ∈ t, c ∈ alpha) (h : twoAt t pos q = true) :
    Go (bs code t st la) 2 ⟨o, pos, mks, loops, inner, frames, none⟩ ⟨o + 2 + w, pos + 2, mks, loops, inner, frames, none⟩ := by
  unfold twoAt at h
  simp only [Bool.and_eq_true, decide_eq_true_eq] at h
  obtain ⟨n, W⟩ := E.w2
  exact (E.w0.take hT (by omega) (decide_eq_true h.1.2)).trans (W.take hT h.1.1 h.2)
theorem two_no {o w : Nat} {q : Nat → Bool} (E : TwoCode code o w q) (hT : ∀ c ∈ t, c ∈ alpha) (h : twoAt t pos q = false) :
    ∃ n pc' p', n ≤ 2 ∧ Go (bs code t st la) n ⟨o, pos, mks, loops, inner, frames, none⟩ ⟨pc', p', mks, loops, inner, frames, some false⟩ := by
  obtain ⟨n, W⟩ := E.w2
  by_cases h1 : pos < t.length ∧ t.getD pos 0 = 92
  · exact ⟨2, _, _, Nat.le_refl _, (E.w0.take hT h1.1 (decide_eq_true h1.2)).trans (W.no hT fun h2 => by
      unfold twoAt at h
      rw [decide_eq_true h2, decide_eq_true h1.2] at h
      simpa using h)⟩
  · exact ⟨1, _, _, by omega, E.w0.no hT fun h2 => decide_eq_false fun h3 => h1 ⟨h2, h3⟩⟩

/-- (?:\n|\r\n|\r|\f) -/
structure NlCode (code : Array Nat) (o : Nat) : Prop where
  c0 : code.getD o 0 = 7
  c1 : code.getD (o + 1) 0 = 5
  w2 : Wd code (o + 2) 16 2 (is 10)
  c4 : code.getD (o + 4) 0 = 15
  c5 : code.getD (o + 5) 0 = 19
  c6 : code.getD (o + 6) 0 = 7
  w7 : Wd code (o + 7) 16 2 (is 13)
  w9 : Wd code (o + 9) 16 2 (is 10)
  c11 : code.getD (o + 11) 0 = 15
  c12 : code.getD (o + 12) 0 = 12
  c13 : code.getD (o + 13) 0 = 5
  w14 : Wd code (o + 14) 16 2 (is 13)
  c16 : code.getD (o + 16) 0 = 15
  c17 : code.getD (o + 17) 0 = 7
  c18 : code.getD (o + 18) 0 = 5
  w19 : Wd code (o + 19) 16 2 (is 12)
  c21 : code.getD (o + 21) 0 = 15
  c22 : code.getD (o + 22) 0 = 2
  c23 : code.getD (o + 23) 0 = 0
/-- where a line end at p is over -/
def nlEnd (t : List Nat) (p : Nat) : Option Nat :=
  if p < t.length ∧ t.getD p 0 = 10 then some (p + 1) else if p + 1 < t.length ∧ t.getD p 0 = 13 ∧ t.getD (p + 1) 0 = 10 then some (p + 2)
  else if p < t.length ∧ t.getD p 0 = 13 then some (p + 1) else if p < t.length ∧ t.getD p 0 = 12 then some (p + 1) else none
theorem nl_go {om : Bool} {o : Nat} (N : NlCode code o) (hT : ∀ c ∈ t, c ∈ alpha) (hm : mks.a.size ≤ 7) :
    match nlEnd t pos with
    | some q => ∃ n G mks', n ≤ 14 ∧ Go (bso om code t st la) n ⟨o, pos, mks, loops, inner, frames, none⟩ ⟨o + 24, q, mks', loops, inner, G ++ frames, none⟩ ∧ mks'.a.size = mks.a.size ∧ (inner.isSome = true → mks'.sim mks) ∧ (∀ f ∈ G, okF om f)
    | none => ∃ n pc' p' mks', n ≤ 14 ∧ Go (bso om code t st la) n ⟨o, pos, mks, loops, inner, frames, none⟩ ⟨pc', p', mks', loops, inner, frames, some false⟩ ∧ mks'.a.size = mks.a.size := by
  have hk := mks.keep_size inner.isSome hm
  have hkl := mks.keep_le inner.isSome
  generalize hK : mks.keep inner.isSome = K at hk hkl
  have s0 := go_branch (om := om) (code := code) (t := t) (st := st) (la := la) (pc := o) (pos := pos) (mks := mks) (loops := loops) (inner := inner) (frames := frames) N.c0 (by rw [N.c1]; omega) hm
  rw [hK] at s0
  have bs1 : (mks.back K).a.size = mks.a.size := Mk.back_size _ _ hkl
  have bs2 : ((mks.back K).back K).a.size = mks.a.size := (Mk.back_size _ _ (bs1 ▸ hkl)).trans bs1
  have bs3 : (((mks.back K).back K).back K).a.size = mks.a.size := (Mk.back_size _ _ (bs2 ▸ hkl)).trans bs2
  have bs4 : ((((mks.back K).back K).back K).back K).a.size = mks.a.size := (Mk.back_size _ _ (bs3 ▸ hkl)).trans bs3
  have sim1 : ∀ m : Mk, m.a.size = mks.a.size → inner.isSome = true → (m.back K).sim mks := fun m hs hi => by rw [← hK, hi]; exact Mk.back_keep hs
  unfold nlEnd
  by_cases h1 : pos < t.length ∧ t.getD pos 0 = 10
  · rw [if_pos h1]
    exact ⟨_, [_], mks, by omega, (s0.trans (N.w2.take hT h1.1 (decide_eq_true h1.2))).trans (go_jump N.c4 (by rw [show o + 4 + 1 = o + 5 by omega, N.c5])), rfl, fun _ => Mk.sim_rfl, okCons okBr okNil⟩
  rw [if_neg h1]
  have n1 := (s0.trans (N.w2.no hT fun h2 => decide_eq_false fun h3 => h1 ⟨h2, h3⟩)).trans (go_next (s := 5) (k' := o + 6) N.c1 (by omega) (by rw [N.c6]; omega) hk)
  by_cases h2 : pos + 1 < t.length ∧ t.getD pos 0 = 13 ∧ t.getD (pos + 1) 0 = 10
  · rw [if_pos h2]
    exact ⟨_, [_], mks.back K, by omega, ((n1.trans (N.w7.take hT (by omega) (decide_eq_true h2.2.1))).trans (N.w9.take hT h2.1 (decide_eq_true h2.2.2))).trans (go_jump N.c11 (by rw [show o + 11 + 1 = o + 12 by omega, N.c12])), bs1, sim1 _ rfl, okCons okBr okNil⟩
  rw [if_neg h2]
  have f2 : ∃ n p' pc', n ≤ 2 ∧ Go (bso om code t st la) n ⟨o + 7, pos, mks.back K, loops, inner, brF om (o + 6) pos K :: frames, none⟩ ⟨pc', p', mks.back K, loops, inner, brF om (o + 6) pos K :: frames, some false⟩ := by
    by_cases h3 : pos < t.length ∧ t.getD pos 0 = 13
    · exact ⟨2, _, _, Nat.le_refl _, (N.w7.take hT h3.1 (decide_eq_true h3.2)).trans (N.w9.no hT fun h4 => decide_eq_false fun h5 => h2 ⟨h4, h3.2, h5⟩)⟩
    · exact ⟨1, _, _, by omega, N.w7.no hT fun h4 => decide_eq_false fun h5 => h3 ⟨h4, h5⟩⟩
  obtain ⟨k2, p', pc', hk2, f2⟩ := f2
  have n2 := (n1.trans f2).trans (go_next (s := 7) (k' := o + 13) N.c6 (by omega) (by rw [N.c13]; omega) hk)
  by_cases h3 : pos < t.length ∧ t.getD pos 0 = 13
  · rw [if_pos h3]
    exact ⟨_, [_], (mks.back K).back K, by omega, (n2.trans (N.w14.take hT h3.1 (decide_eq_true h3.2))).trans (go_jump N.c16 (by rw [show o + 16 + 1 = o + 17 by omega, N.c17])), bs2, sim1 _ bs1, okCons okBr okNil⟩
  rw [if_neg h3]
  have n3 := (n2.trans (N.w14.no hT fun h2 => decide_eq_false fun h4 => h3 ⟨h2, h4⟩)).trans (go_next (s := 5) (k' := o + 18) N.c13 (by omega) (by rw [N.c18]; omega) hk)
  by_cases h4 : pos < t.length ∧ t.getD pos 0 = 12
  · rw [if_pos h4]
    exact ⟨_, [_], ((mks.back K).back K).back K, by omega, (n3.trans (N.w19.take hT h4.1 (decide_eq_true h4.2))).trans (go_jump N.c21 (by rw [show o + 21 + 1 = o + 22 by omega, N.c22])), bs3, sim1 _ bs2, okCons okBr okNil⟩
  rw [if_neg h4]
  exact ⟨_, _, _, _, by omega, (n3.trans (N.w19.no hT fun h2 => decide_eq_false fun h5 => h4 ⟨h2, h5⟩)).trans (go_noWay (s := 5) (k' := o + 23) N.c18 (by omega) N.c23), bs4⟩
end
end Mine
end
section
open PySem
set_option Elab.async false
set_option linter.unusedVariables false
set_option linter.unusedSimpArgs false
namespace Mine
open PySem.Sre

/-- in order, but for the group g0, which was opened at p -/
def Mk.open' (g0 p : Nat) (m : Mk) : Prop := m.a.size ≤ 7 ∧ ((2 * g0 : Nat) : Int) ≤ m.lm ∧ (∀ (g x y : Nat), g ≠ g0 → ((2 * g + 1 : Nat) : Int) ≤ m.lm → m.a.getD (2 * g) none = some x → m.a.getD (2 * g + 1) none = some y → x ≤ y) ∧ ∀ x, m.a.getD (2 * g0) none = some x → x = p
theorem Mk.open'.sim {m m' : Mk} {g0 p : Nat} (h : m.open' g0 p) (s : m'.sim m) : m'.open' g0 p := by
  obtain ⟨s1, s2, s3, s4⟩ := s
  obtain ⟨h1, h2, h3, h4⟩ := h
  refine ⟨s1 ▸ h1, s2 ▸ h2, fun g x y hg hl hx hy => ?_, fun x hx => ?_⟩
  · rw [s4 _ (by omega)] at hx
    rw [s4 _ (by omega)] at hy
    exact h3 g x y hg (by omega) hx hy
  · rw [s4 _ (by omega)] at hx
    exact h4 x hx
theorem Mk.mark_lm (m : Mk) (i p : Nat) : (m.mark i p).lm = max m.lm i := rfl
theorem Mk.good.opens {m : Mk} (h : m.good) (g0 p : Nat) : (m.mark (2 * g0) p).open' g0 p := by
  refine ⟨by rw [Mk.mark_size]; exact h.1, by rw [Mk.mark_lm]; omega, fun g x y hg hl hx hy => ?_, fun x hx => Mk.mark_self _ _ _ _ hx⟩
  rw [Mk.mark_lm] at hl
  by_cases hlm : ((2 * g + 1 : Nat) : Int) ≤ m.lm
  · rcases Mk.mark_get m (2 * g0) p (2 * g) (by omega) with e | ⟨e, _⟩
    · rcases Mk.mark_get m (2 * g0) p (2 * g + 1) (by omega) with e' | ⟨e', _⟩
      · exact h.2 g x y hlm (e ▸ hx) (e' ▸ hy)
      · rw [e'] at hy; cases hy
    · rw [e] at hx; cases hx
  · have e1 := Mk.mark_clear m (2 * g0) p (2 * g + 1) (by omega) (by omega) (by omega)
    rw [e1] at hy; cases hy
theorem Mk.open'.marks {m : Mk} {g0 p0 : Nat} (h : m.open' g0 p0) {g p q : Nat} (hg : g ≠ g0) (hpq : p ≤ q) : ((m.mark (2 * g) p).mark (2 * g + 1) q).open' g0 p0 := by
  obtain ⟨h1, h2, h3, h4⟩ := h
  refine ⟨by rw [Mk.mark_size, Mk.mark_size]; exact h1, by rw [Mk.mark_lm, Mk.mark_lm]; omega, fun g' x y hg' hl hx hy => ?_, fun x hx => ?_⟩
  · rw [Mk.mark_lm, Mk.mark_lm] at hl
    by_cases hgg : g' = g
    · subst hgg
      have hy' := Mk.mark_self _ _ _ _ hy
      rcases Mk.mark_get (m.mark (2 * g') p) (2 * g' + 1) q (2 * g') (by omega) with e | ⟨e, _⟩
      · rw [e] at hx
        have := Mk.mark_self _ _ _ _ hx
        omega
      · rw [e] at hx; cases hx
    · rcases Mk.mark_get (m.mark (2 * g) p) (2 * g + 1) q (2 * g') (by omega) with e | ⟨e, _⟩
      · rcases Mk.mark_get (m.mark (2 * g) p) (2 * g + 1) q (2 * g' + 1) (by omega) with e' | ⟨e', _⟩
        · rw [e] at hx
          rw [e'] at hy
          by_cases hlm : ((2 * g' + 1 : Nat) : Int) ≤ m.lm
          · rcases Mk.mark_get m (2 * g) p (2 * g') (by omega) with e | ⟨e, _⟩
            · rcases Mk.mark_get m (2 * g) p (2 * g' + 1) (by omega) with e' | ⟨e', _⟩
              · exact h3 g' x y hg' hlm (e ▸ hx) (e' ▸ hy)
              · rw [e'] at hy; cases hy
            · rw [e] at hx; cases hx
          · have e1 := Mk.mark_clear m (2 * g) p (2 * g' + 1) (by omega) (by omega) (by omega)
            rw [e1] at hy; cases hy
        · rw [e'] at hy; cases hy
      · rw [e] at hx; cases hx
  · rcases Mk.mark_get (m.mark (2 * g) p) (2 * g + 1) q (2 * g0) (by omega) with e | ⟨e, _⟩
    · rw [e] at hx
      rcases Mk.mark_get m (2 * g) p (2 * g0) (by omega) with e | ⟨e, _⟩
      · rw [e] at hx; exact h4 x hx
      · rw [e] at hx; cases hx
    · rw [e] at hx; cases hx
theorem Mk.open'.close {m : Mk} {g0 p q : Nat} (h : m.open' g0 p) (hpq : p ≤ q) : (m.mark (2 * g0 + 1) q).good := by
  obtain ⟨h1, h2, h3, h4⟩ := h
  refine ⟨by rw [Mk.mark_size]; exact h1, fun g x y hl hx hy => ?_⟩
  rw [Mk.mark_lm] at hl
  by_cases hgg : g = g0
  · subst hgg
    have hy' := Mk.mark_self _ _ _ _ hy
    rcases Mk.mark_get m (2 * g + 1) q (2 * g) (by omega) with e | ⟨e, _⟩
    · rw [e] at hx
      have := h4 x hx
      omega
    · rw [e] at hx; cases hx
  · rcases Mk.mark_get m (2 * g0 + 1) q (2 * g) (by omega) with e | ⟨e, _⟩
    · rcases Mk.mark_get m (2 * g0 + 1) q (2 * g + 1) (by omega) with e' | ⟨e', _⟩
      · rw [e] at hx
        rw [e'] at hy
        by_cases hlm : ((2 * g + 1 : Nat) : Int) ≤ m.lm
        · exact h3 g x y hgg hlm hx hy
        · omega
      · rw [e'] at hy; cases hy
    · rw [e] at hx; cases hx

section
variable {code : Array Nat} {t : List Nat} {st la : Nat} {pc pos : Nat} {mks : Mk} {loops : Array Sre.Loop} {inner : Option Nat} {frames : List Sre.Frame}

/-- the body of a quoted text: ([^\n\r\f\\q]|\\(?:nl)|esc|two) -/
structure StrCode (code : Array Nat) (q : Nat) : Prop where
  c9 : code.getD 9 0 = 17
  c10 : code.getD 10 0 = 0
  c11 : code.getD 11 0 = 7
  c12 : code.getD 12 0 = 16
  w13 : Wd code 13 13 13 (fun c => !decide (c ∈ [10, 13, 12, 92, q]))
  c26 : code.getD 26 0 = 15
  c27 : code.getD 27 0 = 101
  c28 : code.getD 28 0 = 29
  w29 : Wd code 29 16 2 (is 92)
  nl : NlCode code 31
  c55 : code.getD 55 0 = 15
  c56 : code.getD 56 0 = 72
  c57 : code.getD 57 0 = 52
  esc : EscCode code 58 1
  c107 : code.getD 107 0 = 15
  c108 : code.getD 108 0 = 20
  c109 : code.getD 109 0 = 18
  two : TwoCode code 110 13 isPlainEsc
  c125 : code.getD 125 0 = 15
  c126 : code.getD 126 0 = 2
  c127 : code.getD 127 0 = 0
  c128 : code.getD 128 0 = 17
  c129 : code.getD 129 0 = 1
def strNext (t : List Nat) (q p : Nat) : Option Nat :=
  if p < t.length ∧ t.getD p 0 ∉ [10, 13, 12, 92, q] then some (p + 1)
  else if p < t.length ∧ t.getD p 0 = 92 ∧ (nlEnd t (p + 1)).isSome = true then nlEnd t (p + 1)
  else if escAt t p = true then some (wsEnd t (p + 1 + (hexRun t p).length))
  else if twoAt t p isPlainEsc = true then some (p + 2) else none
theorem nlEnd_le {t : List Nat} {p q : Nat} (h : nlEnd t p = some q) : p < q ∧ q ≤ t.length := by
  unfold nlEnd at h
  split at h
  · cases h; omega
  · split at h
    · cases h; omega
    · split at h
      · cases h; omega
      · split at h
        · cases h; omega
        · cases h
theorem str_body {q : Nat} (S : StrCode code q) (hT : ∀ c ∈ t, c ∈ alpha) : BodyOk (bs code t st la) 9 130 (strNext t q) 60 := by
  intro p mks loops i frames hp hm hi
  have hm1 := hm.1
  have s0 := (go_mark (om := true) (code := code) (t := t) (st := st) (la := la) (pc := 9) (pos := p) (mks := mks) (loops := loops) (inner := some i) (frames := frames) S.c9 S.c10)
  have ho : (mks.mark 0 p).open' 0 p := hm.opens 0 p
  have hos := ho.1
  generalize hM : mks.mark 0 p = M at s0 ho hos
  have hMs : M.a.size = mks.a.size := hM ▸ Mk.mark_size _ _ _
  have s1 := s0.trans (go_branch (om := true) (code := code) (t := t) (st := st) (la := la) (pc := 11) (pos := p) (mks := M) (loops := loops) (inner := some i) (frames := frames) S.c11 (by rw [S.c12]; omega) hos)
  have hk := M.keep_size true hos
  have fin : ∀ (r : Nat) (M' : Mk) (loops' : Array Sre.Loop) (fr : List Sre.Frame), Go (bs code t st la) 1 ⟨128, r, M', loops', some i, fr, none⟩ ⟨130, r, M'.mark 1 r, loops', some i, fr, none⟩ := fun r M' loops' fr => go_mark S.c128 S.c129
  have backs : ∀ m : Mk, m.a.size = M.a.size → (m.back (M.keep true)).sim M := fun m h => Mk.back_keep h
  unfold strNext
  by_cases h1 : p < t.length ∧ t.getD p 0 ∉ [10, 13, 12, 92, q]
  · rw [if_pos h1]
    refine ⟨Nat.lt_succ_self _, h1.1, _, [_], M.mark 1 (p + 1), loops, ?_, ((s1.trans (S.w13.take hT h1.1 (by rw [decide_eq_false h1.2]; rfl))).trans (go_jump S.c26 (by rw [S.c27]))).trans (fin _ _ _ _), ho.close (Nat.le_succ _), rfl, okCons okBr okNil⟩
    omega
  rw [if_neg h1]
  have n1 := (s1.trans (S.w13.no hT fun h2 => by
    have : t.getD p 0 ∈ [10, 13, 12, 92, q] := Classical.byContradiction fun h3 => h1 ⟨h2, h3⟩
    show (!decide _) = false
    rw [decide_eq_true this]; rfl)).trans (go_next (s := 16) (k' := 28) S.c12 rfl (by rw [S.c28]; omega) hk)
  have sm1 := backs M rfl
  -- the second way
  have way2 := fun (h2 : p < t.length ∧ t.getD p 0 = 92) => n1.trans (S.w29.take hT h2.1 (decide_eq_true h2.2))
  have N := nl_go (om := true) (code := code) (t := t) (st := st) (la := la) (pos := p + 1) (mks := M.back (M.keep true)) (loops := loops) (inner := some i) (frames := brF true 28 p (M.keep true) :: frames) S.nl hT (sm1.1 ▸ hos)
  by_cases h2 : p < t.length ∧ t.getD p 0 = 92 ∧ (nlEnd t (p + 1)).isSome = true
  · rw [if_pos h2]
    cases hn : nlEnd t (p + 1) with
    | none => rw [hn] at h2; exact absurd h2.2.2 (by simp)
    | some r =>
      rw [hn] at N
      obtain ⟨n, G, M', hn', g, hs, hsim, hok⟩ := N
      have hr := nlEnd_le hn
      have hsim' := Mk.sim_trans (hsim rfl) sm1
      refine ⟨by omega, hr.2, 8 + n, G ++ [brF true 28 p (M.keep true)], M'.mark 1 r, loops, ?_, ?_, (ho.sim hsim').close (by omega), rfl, ?_⟩
      · omega
      · have := (((way2 ⟨h2.1, h2.2.1⟩).trans g).trans (go_jump (k := 128) S.c55 (by rw [S.c56]))).trans (fin r M' loops (G ++ brF true 28 p (M.keep true) :: frames))
        rw [List.append_assoc]
        exact this.more (by omega)
      · intro f hf
        rcases List.mem_append.mp hf with a | a
        · exact hok f a
        · exact okCons okBr okNil f a
  rw [if_neg h2]
  have f2 : ∃ n p' pc' M', n ≤ 15 ∧ M'.a.size = M.a.size ∧ Go (bs code t st la) n ⟨29, p, M.back (M.keep true), loops, some i, brF true 28 p (M.keep true) :: frames, none⟩ ⟨pc', p', M', loops, some i, brF true 28 p (M.keep true) :: frames, some false⟩ := by
    by_cases h3 : p < t.length ∧ t.getD p 0 = 92
    · cases hn : nlEnd t (p + 1) with
      | some r => exact absurd ⟨h3.1, h3.2, by rw [hn]; rfl⟩ h2
      | none =>
        rw [hn] at N
        obtain ⟨n, pc', p', M', hn', g, hs⟩ := N
        exact ⟨1 + n, p', pc', M', by omega, hs.trans sm1.1, (S.w29.take hT h3.1 (decide_eq_true h3.2)).trans g⟩
    · exact ⟨1, _, _, _, by omega, sm1.1, S.w29.no hT fun h4 => decide_eq_false fun h5 => h3 ⟨h4, h5⟩⟩
  obtain ⟨k2, p2, pc2, M2, hk2, hM2, f2⟩ := f2
  have n2 := (n1.trans f2).trans (go_next (s := 29) (k' := 57) S.c28 rfl (by rw [S.c57]; omega) hk)
  have sm2 := backs M2 hM2
  generalize M2.back (M.keep true) = M3 at n2 sm2
  by_cases h3 : escAt t p = true
  · rw [if_pos h3]
    obtain ⟨n, G, M', loops', hn, g, hs, hl, hok⟩ := esc_go (st := st) (la := la) (mks := M3) (loops := loops) (inner := some i) (frames := brF true 57 p (M.keep true) :: frames) S.esc hT (sm2.1 ▸ hos) h3
    have hp' : p < t.length := by unfold escAt at h3; simp only [Bool.and_eq_true, decide_eq_true_eq] at h3; exact h3.1.1
    have hge := wsEnd_ge t (p + 1 + (hexRun t p).length)
    refine ⟨by omega, wsEnd_le (hexRun_end hp'), 8 + k2 + n, G ++ [brF true 57 p (M.keep true)], M'.mark 1 (wsEnd t (p + 1 + (hexRun t p).length)), loops', by omega, ?_, ((Mk.open'.marks (g := 1) (p := p + 1) (q := p + 1 + (hexRun t p).length) (ho.sim sm2) (by omega) (by omega)).sim hs).close (by omega), hl i hi, ?_⟩
    · have := ((n2.trans g).trans (go_jump (k := 128) S.c107 (by rw [S.c108]))).trans (fin (wsEnd t (p + 1 + (hexRun t p).length)) M' loops' (G ++ brF true 57 p (M.keep true) :: frames))
      rw [List.append_assoc]
      exact this.more (by omega)
    · intro f hf
      rcases List.mem_append.mp hf with a | a
      · exact hok f a
      · exact okCons okBr okNil f a
  rw [if_neg h3]
  obtain ⟨n3, pc3, p3, M4, hn3, g3, hs3⟩ := esc_no (st := st) (la := la) (pos := p) (mks := M3) (loops := loops) (inner := some i) (frames := brF true 57 p (M.keep true) :: frames) S.esc hT (by simpa using h3)
  have n3' := (n2.trans g3).trans (go_next (s := 52) (k' := 109) S.c57 rfl (by rw [S.c109]; omega) hk)
  have sm3 := backs M4 (hs3.trans sm2.1)
  generalize M4.back (M.keep true) = M5 at n3' sm3
  by_cases h4 : twoAt t p isPlainEsc = true
  · rw [if_pos h4]
    have g := two_go (st := st) (la := la) (mks := M5) (loops := loops) (inner := some i) (frames := brF true 109 p (M.keep true) :: frames) S.two hT h4
    have hp' : p + 1 < t.length := by unfold twoAt at h4; simp only [Bool.and_eq_true, decide_eq_true_eq] at h4; exact h4.1.1
    refine ⟨by omega, (show p + 2 ≤ t.length by omega), _, [brF true 109 p (M.keep true)], M5.mark 1 (p + 2), loops, ?_, (((n3'.trans g).trans (go_jump (k := 128) S.c125 (by rw [S.c126]))).trans (fin _ _ _ _)), (ho.sim sm3).close (by omega), rfl, okCons okBr okNil⟩
    omega
  · rw [if_neg h4]
    obtain ⟨n5, pc5, p5, hn5, g5⟩ := two_no (st := st) (la := la) (pos := p) (mks := M5) (loops := loops) (inner := some i) (frames := brF true 109 p (M.keep true) :: frames) S.two hT (by simpa using h4)
    have last := (n3'.trans g5).trans (go_noWay (s := 18) (k' := 127) S.c109 rfl S.c127)
    exact ⟨_, _, _, _, loops, some i, by omega, last, (backs M5 sm3.1).1.trans hMs, rfl⟩
end
end Mine
end
section
open PySem
set_option Elab.async false
set_option linter.unusedVariables false
set_option linter.unusedSimpArgs false
namespace Mine
open PySem.Sre

theorem Mk.back_sim {m m' : Mk} {w : Bool} (h : m'.a.size = m.a.size) (hw : w = true ∨ m.lm < 0) : (m'.back (m.keep w)).sim m := by
  cases w with
  | true => exact Mk.back_keep h
  | false =>
    have hw : m.lm < 0 := by rcases hw with q | q; cases q; exact q
    refine ⟨h, rfl, rfl, fun j hj => ?_⟩
    have hj : (j : Int) ≤ m.lm := hj
    omega

section
variable {code : Array Nat} {t : List Nat} {st la : Nat} {pc pos : Nat} {mks : Mk} {loops : Array Sre.Loop} {inner : Option Nat} {frames : List Sre.Frame}

/-- one sign of a name: [set]|esc|two|[^\0-\177] -/
structure NameCode (code : Array Nat) (o g : Nat) (set : Nat → Bool) : Prop where
  c0 : code.getD o 0 = 7
  c1 : code.getD (o + 1) 0 = 96
  w2 : Wd code (o + 2) 39 93 set
  c95 : code.getD (o + 95) 0 = 15
  c96 : code.getD (o + 96) 0 = 169
  c97 : code.getD (o + 97) 0 = 52
  esc : EscCode code (o + 98) g
  c147 : code.getD (o + 147) 0 = 15
  c148 : code.getD (o + 148) 0 = 117
  c149 : code.getD (o + 149) 0 = 18
  two : TwoCode code (o + 150) 13 isPlainEsc
  c165 : code.getD (o + 165) 0 = 15
  c166 : code.getD (o + 166) 0 = 99
  c167 : code.getD (o + 167) 0 = 97
  w168 : Wd code (o + 168) 39 94 (fun c => decide (c > 127))
  c262 : code.getD (o + 262) 0 = 15
  c263 : code.getD (o + 263) 0 = 2
  c264 : code.getD (o + 264) 0 = 0
def nameNext (t : List Nat) (set : Nat → Bool) (p : Nat) : Option Nat :=
  if p < t.length ∧ set (t.getD p 0) = true then some (p + 1)
  else if escAt t p = true then some (wsEnd t (p + 1 + (hexRun t p).length))
  else if twoAt t p isPlainEsc = true then some (p + 2)
  else if p < t.length ∧ t.getD p 0 > 127 then some (p + 1) else none
theorem name_go {o g : Nat} {set : Nat → Bool} (S : NameCode code o g set) (hT : ∀ c ∈ t, c ∈ alpha) (hm : mks.good) (hw : inner.isSome = true ∨ mks.lm < 0) :
    match nameNext t set pos with
    | some q => pos < q ∧ q ≤ t.length ∧ ∃ n G mks' loops', n ≤ 50 ∧ Go (bs code t st la) n ⟨o, pos, mks, loops, inner, frames, none⟩ ⟨o + 265, q, mks', loops', inner, G ++ frames, none⟩ ∧ mks'.good ∧ (∀ i, i < loops.size → loops'[i]? = loops[i]?) ∧ ∀ f ∈ G, okF true f
    | none => ∃ n pc' p' mks', n ≤ 50 ∧ Go (bs code t st la) n ⟨o, pos, mks, loops, inner, frames, none⟩ ⟨pc', p', mks', loops, inner, frames, some false⟩ ∧ mks'.sim mks := by
  have hos := hm.1
  generalize hK : mks.keep inner.isSome = K
  have hk : K.marks.size ≤ 7 := hK ▸ mks.keep_size inner.isSome hos
  have backs : ∀ m : Mk, m.a.size = mks.a.size → (m.back K).sim mks := fun m h => hK ▸ Mk.back_sim h hw
  have s1 := go_branch (om := true) (code := code) (t := t) (st := st) (la := la) (pc := o) (pos := pos) (mks := mks) (loops := loops) (inner := inner) (frames := frames) S.c0 (by rw [S.c1]; omega) hos
  rw [hK] at s1
  unfold nameNext
  by_cases h1 : pos < t.length ∧ set (t.getD pos 0) = true
  · rw [if_pos h1]
    exact ⟨Nat.lt_succ_self _, h1.1, _, [_], mks, loops, by omega, (s1.trans (S.w2.take hT h1.1 h1.2)).trans (go_jump S.c95 (by rw [show o + 95 + 1 = o + 96 by omega, S.c96])), hm, fun _ _ => rfl, okCons okBr okNil⟩
  rw [if_neg h1]
  have n1 := (s1.trans (S.w2.no hT fun h2 => by
    cases q : set (t.getD pos 0) with
    | false => rfl
    | true => exact absurd ⟨h2, q⟩ h1)).trans (go_next (s := 96) (k' := o + 97) S.c1 (by omega) (by rw [S.c97]; omega) hk)
  have sm1 := backs mks rfl
  generalize mks.back K = M1 at n1 sm1
  by_cases h3 : escAt t pos = true
  · rw [if_pos h3]
    obtain ⟨n, G, M', loops', hn, e, hs, hl, hok⟩ := esc_go (st := st) (la := la) (mks := M1) (loops := loops) (inner := inner) (frames := brF true (o + 97) pos K :: frames) S.esc hT (sm1.1 ▸ hos) h3
    have hp' : pos < t.length := by unfold escAt at h3; simp only [Bool.and_eq_true, decide_eq_true_eq] at h3; exact h3.1.1
    have hge := wsEnd_ge t (pos + 1 + (hexRun t pos).length)
    refine ⟨by omega, wsEnd_le (hexRun_end hp'), 5 + n, G ++ [brF true (o + 97) pos K], M', loops', by omega, ?_, ((hm.sim sm1).marks g (by omega)).sim hs, hl, ?_⟩
    · have := (n1.trans e).trans (go_jump (k := o + 265) (by rw [show o + 98 + 49 = o + 147 by omega]; exact S.c147) (by rw [show o + 98 + 49 + 1 = o + 148 by omega, S.c148]))
      rw [List.append_assoc]
      exact this.more (by omega)
    · intro f hf
      rcases List.mem_append.mp hf with a | a
      · exact hok f a
      · exact okCons okBr okNil f a
  rw [if_neg h3]
  obtain ⟨n3, pc3, p3, M2, hn3, g3, hs3⟩ := esc_no (st := st) (la := la) (pos := pos) (mks := M1) (loops := loops) (inner := inner) (frames := brF true (o + 97) pos K :: frames) S.esc hT (by simpa using h3)
  have n3' := (n1.trans g3).trans (go_next (s := 52) (k' := o + 149) S.c97 (by omega) (by rw [S.c149]; omega) hk)
  have sm3 := backs M2 (hs3.trans sm1.1)
  generalize M2.back K = M3 at n3' sm3
  by_cases h4 : twoAt t pos isPlainEsc = true
  · rw [if_pos h4]
    have e := two_go (st := st) (la := la) (mks := M3) (loops := loops) (inner := inner) (frames := brF true (o + 149) pos K :: frames) S.two hT h4
    have hp' : pos + 1 < t.length := by unfold twoAt at h4; simp only [Bool.and_eq_true, decide_eq_true_eq] at h4; exact h4.1.1
    exact ⟨by omega, (show pos + 2 ≤ t.length by omega), _, [brF true (o + 149) pos K], M3, loops, by omega, (n3'.trans e).trans (go_jump (k := o + 265) (by rw [show o + 150 + 2 + 13 = o + 165 by omega]; exact S.c165) (by rw [show o + 150 + 2 + 13 + 1 = o + 166 by omega, S.c166])), hm.sim sm3, fun _ _ => rfl, okCons okBr okNil⟩
  rw [if_neg h4]
  obtain ⟨n5, pc5, p5, hn5, g5⟩ := two_no (st := st) (la := la) (pos := pos) (mks := M3) (loops := loops) (inner := inner) (frames := brF true (o + 149) pos K :: frames) S.two hT (by simpa using h4)
  have n5' := (n3'.trans g5).trans (go_next (s := 18) (k' := o + 167) S.c149 (by omega) (by rw [S.c167]; omega) hk)
  have sm5 := backs M3 sm3.1
  generalize M3.back K = M4 at n5' sm5
  by_cases h6 : pos < t.length ∧ t.getD pos 0 > 127
  · rw [if_pos h6]
    exact ⟨Nat.lt_succ_self _, h6.1, _, [_], M4, loops, by omega, (n5'.trans (S.w168.take hT h6.1 (decide_eq_true h6.2))).trans (go_jump (by rw [show o + 168 + 94 = o + 262 by omega]; exact S.c262) (by rw [show o + 168 + 94 + 1 = o + 263 by omega, S.c263])), hm.sim sm5, fun _ _ => rfl, okCons okBr okNil⟩
  rw [if_neg h6]
  have last := (n5'.trans (S.w168.no hT fun h2 => decide_eq_false fun h7 => h6 ⟨h2, h7⟩)).trans (go_noWay (s := 97) (k' := o + 264) S.c167 (by omega) S.c264)
  exact ⟨_, _, _, _, by omega, last, backs M4 sm5.1⟩
theorem name_body {o g : Nat} {set : Nat → Bool} (S : NameCode code o g set) (hT : ∀ c ∈ t, c ∈ alpha) : BodyOk (bs code t st la) o (o + 265) (nameNext t set) 60 := by
  intro p mks loops i frames hp hm hi
  have N := name_go (st := st) (la := la) (pos := p) (loops := loops) (inner := some i) (frames := frames) S hT hm (.inl rfl)
  cases h : nameNext t set p with
  | some q =>
    rw [h] at N
    obtain ⟨h1, h2, n, G, mks', loops', hn, e, hg, hl, hok⟩ := N
    exact ⟨h1, h2, n, G, mks', loops', by omega, e, hg, hl i hi, hok⟩
  | none =>
    rw [h] at N
    obtain ⟨n, pc', p', mks', hn, e, hs⟩ := N
    exact ⟨n, pc', p', mks', loops, some i, by omega, e, hs.1, rfl⟩
end

/-- what a match answers -/
def Mat (code : Array Nat) (groups : Nat) (t : List Nat) (pos : Nat) (r : Option Nat) : Prop :=
  ∃ k, k ≤ 2 ^ 40 ∧ match r with
    | some e => e ≤ t.length ∧ ∃ mks : Mk, mks.good ∧ Found (bs code t pos 0) mks e ((forMatch code t.toArray groups pos t.length false false).runFor k)
    | none => ((forMatch code t.toArray groups pos t.length false false).runFor k).outcome = some .failed
def mk0 (groups : Nat) : Mk := ⟨Array.replicate (2 * groups) none, -1, -1⟩
theorem mk0_good {groups : Nat} (h : groups ≤ 3) : (mk0 groups).good := ⟨by show (Array.replicate (2 * groups) (none : Option Nat)).size ≤ 7; rw [Array.size_replicate]; omega, fun g x y hl => by
  have hl : ((2 * g + 1 : Nat) : Int) ≤ -1 := hl
  omega⟩
theorem forMatch_is {code : Array Nat} {t : List Nat} {groups pos h0 h1 : Nat} (hh : header code = (h0, h1)) (hne : h1 ≠ 0) (hp : pos ≤ t.length) :
    (h0 = 0 ∨ h0 ≤ t.length - pos) → forMatch code t.toArray groups pos t.length false false = mM (bs code t pos 0) ⟨h1, pos, mk0 groups, #[], none, [], none⟩ 0 (({} : Seen).add 14) pos := by
  intro h
  have e : forMatch code t.toArray groups pos t.length false false = (if ((header code).1 != 0 && decide (pos ≤ t.length) && decide (t.length - pos < (header code).1)) = true then (mM (bs code t pos 0) ⟨(header code).2, pos, mk0 groups, #[], none, [], none⟩ 0 (if ((header code).2 == 0) = true then {} else ({} : Seen).add 14) pos).say false
      else mM (bs code t pos 0) ⟨(header code).2, pos, mk0 groups, #[], none, [], none⟩ 0 (if ((header code).2 == 0) = true then {} else ({} : Seen).add 14) pos) := rfl
  rw [e, hh]
  dsimp only
  rw [if_neg (by simp only [Bool.and_eq_true, bne_iff_ne, decide_eq_true_eq]; omega), if_neg (by simpa using hne)]
theorem forMatch_short {code : Array Nat} {t : List Nat} {groups pos h0 h1 : Nat} (hh : header code = (h0, h1)) (hp : pos ≤ t.length) (h : h0 ≠ 0 ∧ t.length - pos < h0) : Mat code groups t pos none := by
  have e : forMatch code t.toArray groups pos t.length false false = (if ((header code).1 != 0 && decide (pos ≤ t.length) && decide (t.length - pos < (header code).1)) = true then (mM (bs code t pos 0) ⟨(header code).2, pos, mk0 groups, #[], none, [], none⟩ 0 (if ((header code).2 == 0) = true then {} else ({} : Seen).add 14) pos).say false
      else mM (bs code t pos 0) ⟨(header code).2, pos, mk0 groups, #[], none, [], none⟩ 0 (if ((header code).2 == 0) = true then {} else ({} : Seen).add 14) pos) := rfl
  refine ⟨1, by decide, ?_⟩
  dsimp only
  rw [e, hh]
  dsimp only
  rw [if_pos (by simp only [Bool.and_eq_true, bne_iff_ne, decide_eq_true_eq]; omega)]
  rw [runFor_one _ rfl]
  rfl
end Mine
end
section
open PySem
set_option Elab.async false
set_option linter.unusedVariables false
set_option linter.unusedSimpArgs false
namespace Mine
open PySem.Sre

theorem Mat.found {code : Array Nat} {groups : Nat} {t : List Nat} {pos n h0 h1 pc e : Nat} {mks : Mk} {loops : Array Sre.Loop} {inner : Option Nat} {frames : List Sre.Frame} (hh : header code = (h0, h1)) (hne : h1 ≠ 0) (hp : pos ≤ t.length) (hl : h0 = 0 ∨ h0 ≤ t.length - pos)
    (g : Go (bs code t pos 0) n ⟨h1, pos, mk0 groups, #[], none, [], none⟩ ⟨pc, e, mks, loops, inner, frames, none⟩) (hop : code.getD pc 0 = 1) (hf : ∀ f ∈ frames, okF true f) (hn : n ≤ 2 ^ 18) (hm : mks.good) (he : e ≤ t.length) : Mat code groups t pos (some e) := by
  obtain ⟨k, hk, F⟩ := g.finds hop hf (w := 0) (sn := ({} : Seen).add 14) (hd := pos) (by omega)
  refine ⟨k, ?_, he, mks, hm, ?_⟩
  · have : k ≤ 0 + 2 * n + 2 := hk
    omega
  · rw [forMatch_is hh hne hp hl]
    exact F
theorem Mat.none' {code : Array Nat} {groups : Nat} {t : List Nat} {pos n h0 h1 pc p : Nat} {mks : Mk} {loops : Array Sre.Loop} {inner : Option Nat} (hh : header code = (h0, h1)) (hne : h1 ≠ 0) (hp : pos ≤ t.length) (hl : h0 = 0 ∨ h0 ≤ t.length - pos)
    (g : Go (bs code t pos 0) n ⟨h1, pos, mk0 groups, #[], none, [], none⟩ ⟨pc, p, mks, loops, inner, [], some false⟩) (hn : n ≤ 2 ^ 18) : Mat code groups t pos none := by
  obtain ⟨k, hk, F⟩ := g.falls (w := 0) (sn := ({} : Seen).add 14) (hd := pos) (by omega)
  refine ⟨k, by omega, ?_⟩
  show ((forMatch code t.toArray groups pos t.length false false).runFor k).outcome = _
  rw [forMatch_is hh hne hp hl]
  exact F
theorem runN_all {p : Nat → Bool} {t : List Nat} {i hi : Nat} (h : t.length ≤ hi) (hp : i ≤ t.length) : i + runN p t (min hi (t.length - i)) i = runEnd p t i := by
  rw [Nat.min_eq_right (by omega), runN_len _ _ _ _ (by omega)]
  unfold runEnd
  rw [List.take_of_length_le (by rw [List.length_drop]; omega)]
theorem runN_one {p : Nat → Bool} {t : List Nat} {i : Nat} : runN p t (min 1 (t.length - i)) i = if i < t.length ∧ p (t.getD i 0) = true then 1 else 0 := by
  by_cases h : i < t.length
  · rw [Nat.min_eq_left (by omega), runN]
    by_cases q : p (t.getD i 0) = true
    · rw [if_pos q, if_pos ⟨h, q⟩]; rfl
    · rw [if_neg q, if_neg (fun x => q x.2)]
  · rw [show t.length - i = 0 by omega, Nat.min_zero, if_neg (fun x => h x.1)]; rfl

section
variable {code : Array Nat} {t : List Nat} {pos : Nat}

/-! white signs -/
structure WsCode (code : Array Nat) : Prop where
  hd : header code = (1, 5)
  c5 : code.getD 5 0 = 24
  c6 : code.getD 6 0 = 16
  c7 : code.getD 7 0 = 1
  c8 : code.getD 8 0 = maxRepeat
  a9 : Acc code 9 isWs
  c22 : code.getD 22 0 = 1
theorem ws_mat (S : WsCode code) (hT : ∀ c ∈ t, c ∈ alpha) (hl : t.length < 1000) (hp : pos < t.length) : Mat code 0 t pos (if isWs (t.getD pos 0) = true then some (runEnd isWs t pos) else none) := by
  have hmx : t.length ≤ maxRepeat := by unfold maxRepeat; omega
  have hr := runN_all (p := isWs) (t := t) (i := pos) hmx (by omega)
  have ha : ∀ k, pos ≤ k → k < t.length → acc (bs code t pos 0).code (5 + 4) (t.getD k 0) = some (isWs (t.getD k 0)) := fun k _ hk => S.a9 _ (hT _ (getD_mem hk))
  by_cases h : isWs (t.getD pos 0) = true
  · rw [if_pos h]
    have hgt : pos < runEnd isWs t pos := by rw [← runEnd_step hp h]; exact runEnd_ge _ _ _
    have s := (Step.repOne (b := bs code t pos 0) (pc := 5) (pos := pos) (mks := mk0 0) (loops := #[]) (inner := none) (frames := []) (t := t) (p := isWs) rfl S.c5 S.c6 S.c7 S.c8 ha (by omega) (by decide) (by omega)).go (by simp only [List.length_cons]; omega)
    rw [hr] at s
    refine Mat.found S.hd (by decide) (by omega) (.inr (by omega)) s S.c22 (okCons okGb okNil) (by decide) (mk0_good (by decide)) ?_
    unfold runEnd
    have := tw_len isWs (t.drop pos)
    rw [List.length_drop] at this
    omega
  · rw [if_neg h]
    have he : runEnd isWs t pos = pos := runEnd_stop hp (by simpa using h)
    exact Mat.none' S.hd (by decide) (by omega) (.inr (by omega)) ((Step.repOneNo (b := bs code t pos 0) (pc := 5) (pos := pos) (mks := mk0 0) (loops := #[]) (inner := none) (frames := []) (t := t) (p := isWs) rfl S.c5 S.c7 S.c8 ha (by omega) (by omega)).go (Nat.le_succ _)) (by decide)

/-! names -/
def isStart (c : Nat) : Bool := decide (c = 95) || (decide (97 ≤ c) && decide (c ≤ 122)) || (decide (65 ≤ c) && decide (c ≤ 90))
def isName (c : Nat) : Bool := isStart c || isFig c || decide (c = 45)
def identEnd (t : List Nat) (pos : Nat) : Option Nat :=
  match nameNext t isStart (if pos < t.length ∧ t.getD pos 0 = 45 then pos + 1 else pos) with
  | some q => some (starEnd (nameNext t isName) t.length q)
  | none => none
structure IdentCode (code : Array Nat) : Prop where
  hd : header code = (1, 5)
  c5 : code.getD 5 0 = 24
  c6 : code.getD 6 0 = 6
  c7 : code.getD 7 0 = 0
  c8 : code.getD 8 0 = 1
  a9 : Acc code 9 (is 45)
  n12 : NameCode code 12 0 isStart
  c277 : code.getD 277 0 = 23
  c278 : code.getD 278 0 = 268
  c279 : code.getD 279 0 = 0
  c280 : code.getD 280 0 = maxRepeat
  n281 : NameCode code 281 1 isName
  c546 : code.getD 546 0 = 18
  c547 : code.getD 547 0 = 1
theorem nameNext_le {set : Nat → Bool} {p q : Nat} (h : nameNext t set p = some q) : p < q ∧ q ≤ t.length := by
  unfold nameNext at h
  split at h
  · cases h; omega
  · split at h
    · rename_i h3
      have hp' : p < t.length := by unfold escAt at h3; simp only [Bool.and_eq_true, decide_eq_true_eq] at h3; exact h3.1.1
      have hge := wsEnd_ge t (p + 1 + (hexRun t p).length)
      cases h
      exact ⟨by omega, wsEnd_le (hexRun_end hp')⟩
    · split at h
      · rename_i h4
        have hp' : p + 1 < t.length := by unfold twoAt at h4; simp only [Bool.and_eq_true, decide_eq_true_eq] at h4; exact h4.1.1
        cases h; omega
      · split at h
        · cases h; omega
        · cases h
theorem starEnd_le {nxt : Nat → Option Nat} (hn : ∀ p q, nxt p = some q → q ≤ t.length) : ∀ n p, p ≤ t.length → starEnd nxt n p ≤ t.length
  | 0, p, h => h
  | n + 1, p, h => by
    unfold starEnd
    cases q : nxt p with
    | none => exact h
    | some r => exact starEnd_le hn n r (hn p r q)
theorem dash_no {set : Nat → Bool} {p : Nat} (h : t.getD p 0 = 45) (hs : set 45 = false) : nameNext t set p = none := by
  unfold nameNext escAt twoAt
  rw [h, hs]
  simp
/-- a REPEAT's entry, then the star -/
theorem star_go {P U K s st la p n : Nat} {nxt : Nat → Option Nat} {mks : Mk} {loops : Array Sre.Loop} {frames : List Sre.Frame} (hb : BodyOk (bs code t st la) (P + 4) U nxt K) (h0 : code.getD P 0 = 23) (h1 : code.getD (P + 1) 0 = s) (hs : P + 1 + s = U) (h2 : code.getD (P + 2) 0 = 0) (h3 : code.getD (P + 3) 0 = maxRepeat)
    (hU : code.getD U 0 = 18) (hp : p ≤ t.length) (hn : t.length - p ≤ n) (hm : mks.good) :
    ∃ k G mks' loops', k ≤ (K + 2) * (n + 1) + 1 ∧ Go (bs code t st la) k ⟨P, p, mks, loops, none, frames, none⟩ ⟨U + 1, starEnd nxt n p, mks', loops', none, G ++ frames, none⟩ ∧ mks'.good ∧ ∀ f ∈ G, okF true f := by
  have s0 := (Step.repeat (b := bs code t st la) (pc := P) (pos := p) (mks := mks) (loops := loops) (inner := none) (frames := frames) h0 h1).go (by simp only [List.length_cons]; omega)
  rw [hs] at s0
  obtain ⟨k, G, mks', loops', hk, g, hg, hok⟩ := star (b := bs code t st la) hb hU h2 h3 n p mks (loops.push { pc := P, outer := none }) loops.size (clF true P p loops.size :: frames) { pc := P, outer := none } hn hp hm push_get rfl rfl (by show ¬ (-1 : Int) + 1 < ((0 : Nat) : Int); omega) (fun x hx => by cases hx)
  refine ⟨k + 1, G ++ [clF true P p loops.size], mks', loops', by omega, ?_, hg, ?_⟩
  · rw [List.append_assoc]
    exact (s0.trans g).more (by omega)
  · intro f hf
    rcases List.mem_append.mp hf with a | a
    · exact hok f a
    · exact okCons okCl okNil f a
theorem sizes {b : Bs} {n : Nat} {c d : Cf} (g : Go b n c d) : True := trivial
end
end Mine
end
section
open PySem
set_option Elab.async false
set_option linter.unusedVariables false
set_option linter.unusedSimpArgs false
namespace Mine
open PySem.Sre
section
variable {code : Array Nat} {t : List Nat} {pos : Nat}
theorem okApp {G H : List Sre.Frame} (h1 : ∀ f ∈ G, okF true f) (h2 : ∀ f ∈ H, okF true f) : ∀ f ∈ G ++ H, okF true f := fun f hf => (List.mem_append.mp hf).elim (h1 f) (h2 f)
theorem ident_mat (S : IdentCode code) (hT : ∀ c ∈ t, c ∈ alpha) (hl : t.length < 1000) (hp : pos < t.length) : Mat code 2 t pos (identEnd t pos) := by
  have ha : ∀ k, pos ≤ k → k < t.length → acc (bs code t pos 0).code (5 + 4) (t.getD k 0) = some (is 45 (t.getD k 0)) := fun k _ hk => S.a9 _ (hT _ (getD_mem hk))
  have s := (Step.repOne (b := bs code t pos 0) (pc := 5) (pos := pos) (mks := mk0 2) (loops := #[]) (inner := none) (frames := []) (t := t) (p := is 45) rfl S.c5 S.c6 S.c7 S.c8 ha (by omega) (by decide) (Nat.zero_le _)).go (by simp only [List.length_cons]; omega)
  rw [runN_one] at s
  have e0 : (if pos < t.length ∧ t.getD pos 0 = 45 then pos + 1 else pos) = pos + (if pos < t.length ∧ is 45 (t.getD pos 0) = true then 1 else 0) := by
    unfold is
    by_cases h : pos < t.length ∧ t.getD pos 0 = 45
    · rw [if_pos h, if_pos ⟨h.1, decide_eq_true h.2⟩]
    · rw [if_neg h, if_neg (fun q => h ⟨q.1, of_decide_eq_true q.2⟩)]; rfl
  unfold identEnd
  rw [e0]
  generalize hj : (if pos < t.length ∧ is 45 (t.getD pos 0) = true then 1 else 0) = j at s
  have hj1 : j = 0 ∨ (j = 1 ∧ t.getD pos 0 = 45) := by
    rw [← hj]
    split
    · rename_i h; exact .inr ⟨rfl, of_decide_eq_true h.2⟩
    · exact .inl rfl
  have hm0 : (mk0 2).good := mk0_good (by decide)
  have hk : ((mk0 2).keep (none : Option Nat).isSome).marks.size ≤ 7 := by decide
  have N := name_go (st := pos) (la := 0) (pos := pos + j) (mks := mk0 2) (loops := #[]) (inner := none) (frames := [gbF true 5 (pos + j) j ((mk0 2).keep (none : Option Nat).isSome)]) S.n12 hT hm0 (.inr (by decide))
  cases hn : nameNext t isStart (pos + j) with
  | some q =>
    rw [hn] at N
    obtain ⟨h1, h2, n, G, mks', loops', hn', g, hg, _, hok⟩ := N
    obtain ⟨k, G2, mks2, loops2, hk2, g2, hg2, hok2⟩ := star_go (st := pos) (la := 0) (p := q) (n := t.length) (mks := mks') (loops := loops') (frames := G ++ [gbF true 5 (pos + j) j ((mk0 2).keep (none : Option Nat).isSome)]) (P := 277) (U := 546) (K := 60) (s := 268) (nxt := nameNext t isName) (name_body S.n281 hT) S.c277 S.c278 rfl S.c279 S.c280 S.c546 h2 (by omega) hg
    have he := starEnd_le (t := t) (nxt := nameNext t isName) (fun p q h => (nameNext_le h).2) t.length q h2
    exact Mat.found S.hd (by decide) (by omega) (.inr (by omega)) ((s.trans g).trans g2) S.c547 (okApp hok2 (okApp hok (okCons okGb okNil))) (by omega) hg2 he
  | none =>
    rw [hn] at N
    obtain ⟨n, pc', p', mks', hn', g, hs⟩ := N
    rcases hj1 with rfl | ⟨rfl, h45⟩
    · have g3 := (Step.giveNo (b := bs code t pos 0) (pc := pc') (pos := p') (mks := mks') (loops := #[]) (inner := none) (frames := []) (q := 5) (p := pos + 0) (n := ((0 : Nat) : Int)) (k := (mk0 2).keep (none : Option Nat).isSome) (by show ((0 : Nat) : Int) - 1 < ((code.getD (5 + 2) 0 : Nat) : Int); omega)).go (Nat.le_succ_of_le (Nat.le_succ _))
      exact Mat.none' S.hd (by decide) (by omega) (.inr (by omega)) ((s.trans g).trans g3) (by omega)
    · have g3 := (Step.giveBack (b := bs code t pos 0) (pc := pc') (pos := p') (mks := mks') (loops := #[]) (inner := none) (frames := []) (q := 5) (p := pos + 1) (s := 6) (n := ((1 : Nat) : Int)) (k := (mk0 2).keep (none : Option Nat).isSome) S.c6 (by show ¬ ((1 : Nat) : Int) - 1 < ((code.getD (5 + 2) 0 : Nat) : Int); rw [S.c7]; omega) hk).go (by simp only [List.length_cons]; omega)
      have hm2 : (mks'.back ((mk0 2).keep (none : Option Nat).isSome)).sim (mk0 2) := Mk.back_sim hs.1 (.inr (by decide))
      generalize mks'.back ((mk0 2).keep (none : Option Nat).isSome) = M at g3 hm2
      have N2 := name_go (st := pos) (la := 0) (pos := pos) (mks := M) (loops := #[]) (inner := none) (frames := [gbF true 5 (pos + 1 - 1) (((1 : Nat) : Int) - 1) ((mk0 2).keep (none : Option Nat).isSome)]) S.n12 hT (hm0.sim hm2) (.inr (by rw [hm2.2.1]; decide))
      rw [dash_no h45 (by decide)] at N2
      obtain ⟨n2, pc2, p2, mks2, hn2, g4, hs2⟩ := N2
      have g5 := (Step.giveNo (b := bs code t pos 0) (pc := pc2) (pos := p2) (mks := mks2) (loops := #[]) (inner := none) (frames := []) (q := 5) (p := pos + 1 - 1) (n := ((1 : Nat) : Int) - 1) (k := (mk0 2).keep (none : Option Nat).isSome) (by show ((1 : Nat) : Int) - 1 - 1 < ((code.getD (5 + 2) 0 : Nat) : Int); omega)).go (Nat.le_succ_of_le (Nat.le_succ _))
      exact Mat.none' S.hd (by decide) (by omega) (.inr (by omega)) ((((s.trans g).trans g3).trans g4).trans g5) (by omega)

structure HashCode (code : Array Nat) : Prop where
  hd : header code = (2, 9)
  w9 : Wd code 9 16 2 (is 35)
  c11 : code.getD 11 0 = 23
  c12 : code.getD 12 0 = 268
  c13 : code.getD 13 0 = 1
  c14 : code.getD 14 0 = maxRepeat
  n15 : NameCode code 15 0 isName
  c280 : code.getD 280 0 = 18
  c281 : code.getD 281 0 = 1
def hashEnd (t : List Nat) (pos : Nat) : Option Nat :=
  if t.getD pos 0 = 35 then
    match nameNext t isName (pos + 1) with
    | some q => some (starEnd (nameNext t isName) t.length q)
    | none => none
  else none
theorem hash_mat (S : HashCode code) (hT : ∀ c ∈ t, c ∈ alpha) (hl : t.length < 1000) (hp : pos < t.length) : Mat code 1 t pos (hashEnd t pos) := by
  by_cases h2 : t.length - pos < 2
  · have : hashEnd t pos = none := by
      unfold hashEnd
      split
      · have : nameNext t isName (pos + 1) = none := by
          cases q : nameNext t isName (pos + 1) with
          | none => rfl
          | some r => have := nameNext_le q; omega
        rw [this]
      · rfl
    rw [this]
    exact forMatch_short S.hd (by omega) ⟨by decide, h2⟩
  unfold hashEnd
  by_cases h1 : t.getD pos 0 = 35
  · rw [if_pos h1]
    have hm0 : (mk0 1).good := mk0_good (by decide)
    have s1 := S.w9.take (om := true) (st := pos) (la := 0) (mks := mk0 1) (loops := #[]) (inner := none) (frames := []) hT hp (decide_eq_true h1)
    have s2 := (Step.repeat (b := bs code t pos 0) (pc := 11) (pos := pos + 1) (mks := mk0 1) (loops := #[]) (inner := none) (frames := []) S.c11 S.c12).go (by simp only [List.length_cons]; omega)
    have l1 : ((#[] : Array Sre.Loop).push { pc := 11, outer := none })[0]? = some { pc := 11, outer := none } := rfl
    have s3 := (Step.untilBelow (b := bs code t pos 0) (pc := 280) (pos := pos + 1) (mks := mk0 1) (loops := (#[] : Array Sre.Loop).push { pc := 11, outer := none }) (i := 0) (lo := 1) (frames := [clF true 11 (pos + 1) 0]) S.c280 l1 S.c13 (by show (-1 : Int) + 1 < ((1 : Nat) : Int); omega)).go (by simp only [List.length_cons]; omega)
    let L1 := ((#[] : Array Sre.Loop).push { pc := 11, outer := none }).modify 0 (fun x => { x with count := (-1 : Int) + 1, began := x.began })
    have hL1 : L1[0]? = some { pc := 11, outer := none, count := 0 } := rfl
    have N := name_go (st := pos) (la := 0) (pos := pos + 1) (mks := mk0 1) (loops := L1) (inner := some 0) (frames := [blF true 281 (pos + 1) 0 ((-1 : Int) + 1) none, clF true 11 (pos + 1) 0]) S.n15 hT hm0 (.inl rfl)
    cases hn : nameNext t isName (pos + 1) with
    | some q =>
      rw [hn] at N
      obtain ⟨h1, h2, n, G, mks', loops', hn', g, hg, hlk, hok⟩ := N
      obtain ⟨k, G2, mks2, loops2, hk2, g2, hg2, hok2⟩ := star (b := bs code t pos 0) (P := 11) (U := 280) (K := 60) (lo := 1) (nxt := nameNext t isName) (name_body S.n15 hT) S.c280 S.c13 S.c14 t.length q mks' loops' 0 (G ++ [blF true 281 (pos + 1) 0 ((-1 : Int) + 1) none, clF true 11 (pos + 1) 0]) { pc := 11, outer := none, count := 0 } (by show t.length - q ≤ t.length; omega) h2 hg ((hlk 0 (by decide)).trans hL1) rfl rfl (by show ¬ (0 : Int) + 1 < ((1 : Nat) : Int); omega) (fun x hx => by cases hx)
      have he := starEnd_le (t := t) (nxt := nameNext t isName) (fun p q h => (nameNext_le h).2) t.length q h2
      exact Mat.found S.hd (by decide) (by omega) (.inr (by omega)) ((((s1.trans s2).trans s3).trans g).trans g2) S.c281 (okApp hok2 (okApp hok (okCons okBl (okCons okCl okNil)))) (by omega) hg2 he
    | none =>
      rw [hn] at N
      obtain ⟨n, pc', p', mks', hn', g, hs⟩ := N
      have g3 := (Step.belowNo (b := bs code t pos 0) (pc := pc') (pos := p') (mks := mks') (loops := L1) (inner := some 0) (frames := [clF true 11 (pos + 1) 0]) (i := 0) (q := 281) (p := pos + 1) (n := (-1 : Int) + 1) (g := none)).go (by simp only [List.length_cons]; omega)
      have g4 := (Step.closeNo (b := bs code t pos 0) (pc := 281) (pos := pos + 1) (mks := mks') (loops := L1.modify 0 (fun x => { x with count := (-1 : Int) + 1 - 1 })) (inner := some 0) (frames := []) (i := 0) (q := 11) (p := pos + 1) (l := { pc := 11, outer := none, count := -1 }) rfl).go (by simp only [List.length_cons]; omega)
      exact Mat.none' S.hd (by decide) (by omega) (.inr (by omega)) (((((s1.trans s2).trans s3).trans g).trans g3).trans g4) (by omega)
  · rw [if_neg h1]
    exact Mat.none' S.hd (by decide) (by omega) (.inr (by omega)) (S.w9.no hT fun _ => decide_eq_false h1) (by decide)

structure StrAll (code : Array Nat) (q : Nat) : Prop where
  hd : header code = (0, 5)
  c5 : code.getD 5 0 = 23
  c6 : code.getD 6 0 = 124
  c7 : code.getD 7 0 = 0
  c8 : code.getD 8 0 = maxRepeat
  body : StrCode code q
  c130 : code.getD 130 0 = 18
  c131 : code.getD 131 0 = 1
theorem strNext_le {q p r : Nat} (h : strNext t q p = some r) : p < r ∧ r ≤ t.length := by
  unfold strNext at h
  split at h
  · cases h; omega
  · split at h
    · have := nlEnd_le h; omega
    · split at h
      · rename_i h3
        have hp' : p < t.length := by unfold escAt at h3; simp only [Bool.and_eq_true, decide_eq_true_eq] at h3; exact h3.1.1
        have hge := wsEnd_ge t (p + 1 + (hexRun t p).length)
        cases h
        exact ⟨by omega, wsEnd_le (hexRun_end hp')⟩
      · split at h
        · rename_i h4
          have hp' : p + 1 < t.length := by unfold twoAt at h4; simp only [Bool.and_eq_true, decide_eq_true_eq] at h4; exact h4.1.1
          cases h; omega
        · cases h
theorem str_mat {q : Nat} (S : StrAll code q) (hT : ∀ c ∈ t, c ∈ alpha) (hl : t.length < 1000) (hp : pos ≤ t.length) : Mat code 2 t pos (some (starEnd (strNext t q) t.length pos)) := by
  obtain ⟨k, G2, mks2, loops2, hk2, g2, hg2, hok2⟩ := star_go (st := pos) (la := 0) (p := pos) (n := t.length) (mks := mk0 2) (loops := #[]) (frames := []) (P := 5) (U := 130) (K := 60) (s := 124) (nxt := strNext t q) (str_body S.body hT) S.c5 S.c6 rfl S.c7 S.c8 S.c130 hp (by omega) (mk0_good (by decide))
  have he := starEnd_le (t := t) (nxt := strNext t q) (fun p q h => (strNext_le h).2) t.length pos hp
  exact Mat.found S.hd (by decide) (by omega) (.inl rfl) g2 S.c131 (okApp hok2 okNil) (by omega) hg2 he

structure UniCode (code : Array Nat) : Prop where
  hd : header code = (2, 9)
  esc : EscCode code 9 0
  c58 : code.getD 58 0 = 1
/-- a match with its first group -/
theorem uni_mat (S : UniCode code) (hT : ∀ c ∈ t, c ∈ alpha) (hl : t.length < 1000) (hp : pos < t.length) (h : escAt t pos = true) :
    ∃ k, k ≤ 2 ^ 40 ∧ wsEnd t (pos + 1 + (hexRun t pos).length) ≤ t.length ∧ ∃ mks : Mk, mks.good ∧ mks.lm = 1 ∧ mks.a.getD 0 none = some (pos + 1) ∧ mks.a.getD 1 none = some (pos + 1 + (hexRun t pos).length) ∧
      Found (bs code t pos 0) mks (wsEnd t (pos + 1 + (hexRun t pos).length)) ((forMatch code t.toArray 1 pos t.length false false).runFor k) := by
  have hm0 : (mk0 1).good := mk0_good (by decide)
  obtain ⟨n, G, M', loops', hn, g, hs, _, hok⟩ := esc_go (st := pos) (la := 0) (mks := mk0 1) (loops := #[]) (inner := none) (frames := []) S.esc hT hm0.1 h
  have h' := h
  unfold escAt at h'
  simp only [Bool.and_eq_true, decide_eq_true_eq] at h'
  have h0 : 0 < (hexRun t pos).length := List.length_pos_iff.mpr h'.2
  have he := hexRun_end (t := t) (p := pos) hp
  obtain ⟨k, hk, F⟩ := g.finds S.c58 (okApp hok okNil) (w := 0) (sn := ({} : Seen).add 14) (hd := pos) (by omega)
  have hM : ((mk0 1).mark (2 * 0) (pos + 1)).mark (2 * 0 + 1) (pos + 1 + (hexRun t pos).length) = ⟨#[some (pos + 1), some (pos + 1 + (hexRun t pos).length)], 1, 1⟩ := rfl
  rw [hM] at hs
  refine ⟨k, ?_, wsEnd_le he, M', ?_, hs.2.1, ?_, ?_, ?_⟩
  · have : k ≤ 0 + 2 * n + 2 := hk
    omega
  · refine Mk.good.sim ?_ hs
    rw [← hM]
    exact hm0.marks 0 (by omega)
  · rw [hs.2.2.2 0 (by rw [hs.2.1]; show (0 : Int) ≤ 1; omega)]; rfl
  · rw [hs.2.2.2 1 (by rw [hs.2.1]; show (1 : Int) ≤ 1; omega)]; rfl
  · rw [forMatch_is S.hd (by decide) (by omega) (.inr (by omega))]
    exact F
theorem uni_no (S : UniCode code) (hT : ∀ c ∈ t, c ∈ alpha) (hl : t.length < 1000) (hp : pos < t.length) (h : escAt t pos = false) : Mat code 1 t pos none := by
  by_cases h2 : t.length - pos < 2
  · exact forMatch_short S.hd (by omega) ⟨by decide, h2⟩
  · obtain ⟨n, pc', p', mks', hn, g, hs⟩ := esc_no (st := pos) (la := 0) (pos := pos) (mks := mk0 1) (loops := #[]) (inner := none) (frames := []) S.esc hT h
    exact Mat.none' S.hd (by decide) (by omega) (.inr (by omega)) g (by omega)
end
end Mine
end
section
open PySem
set_option Elab.async false
set_option linter.unusedVariables false
set_option linter.unusedSimpArgs false
namespace Mine
open PySem.Sre
section
variable {code : Array Nat} {t : List Nat} {st la pos : Nat} {frames : List Sre.Frame}
def isSign (c : Nat) : Bool := decide (c ∈ [43, 45])
structure NumCode (code : Array Nat) : Prop where
  hd : header code = (1, 5)
  c5 : code.getD 5 0 = 24
  c6 : code.getD 6 0 = 11
  c7 : code.getD 7 0 = 0
  c8 : code.getD 8 0 = 1
  a9 : Acc code 9 isSign
  c17 : code.getD 17 0 = 7
  c18 : code.getD 18 0 = 27
  c19 : code.getD 19 0 = 24
  c20 : code.getD 20 0 = 10
  c21 : code.getD 21 0 = 0
  c22 : code.getD 22 0 = maxRepeat
  a23 : Acc code 23 isFig
  w30 : Wd code 30 16 2 (is 46)
  c32 : code.getD 32 0 = 24
  c33 : code.getD 33 0 = 10
  c34 : code.getD 34 0 = 1
  c35 : code.getD 35 0 = maxRepeat
  a36 : Acc code 36 isFig
  c43 : code.getD 43 0 = 15
  c44 : code.getD 44 0 = 16
  c45 : code.getD 45 0 = 14
  c46 : code.getD 46 0 = 24
  c47 : code.getD 47 0 = 10
  c48 : code.getD 48 0 = 1
  c49 : code.getD 49 0 = maxRepeat
  a50 : Acc code 50 isFig
  c57 : code.getD 57 0 = 15
  c58 : code.getD 58 0 = 2
  c59 : code.getD 59 0 = 0
  c60 : code.getD 60 0 = 1
/-- [0-9]*\.[0-9]+|[0-9]+ at p -/
def numAt (t : List Nat) (p : Nat) : Option Nat := if numEnd t p > p then some (numEnd t p) else none
theorem figs_run (t : List Nat) (p : Nat) : figs t p = runEnd isFig t p := rfl
theorem figs_le {p : Nat} (h : p ≤ t.length) : figs t p ≤ t.length := by
  unfold figs
  have := tw_len isFig (t.drop p)
  rw [List.length_drop] at this
  omega
theorem fig_of {p k : Nat} (h1 : p ≤ k) (h2 : k < figs t p) : isFig (t.getD k 0) = true := by
  unfold figs at h2
  have := tw_get (p := isFig) (d := 0) (l := t.drop p) (k := k - p) (by omega)
  have h := this.2
  rw [List.getD_eq_getElem?_getD, List.getElem?_drop, show p + (k - p) = k by omega, ← List.getD_eq_getElem?_getD] at h
  exact h
theorem figs_at {p : Nat} (h : figs t p < t.length) : isFig (t.getD (figs t p) 0) = false := by
  cases q : isFig (t.getD (figs t p) 0) with
  | false => rfl
  | true =>
    exfalso
    have hr := run_step (p := isFig) (d := 0) (l := t.drop p) (k := ((t.drop p).takeWhile isFig).length) (Nat.le_refl _)
    have h1 : figs t p = p + ((t.drop p).takeWhile isFig).length := rfl
    have : ((t.drop p).takeWhile isFig).length < (t.drop p).length ∧ isFig ((t.drop p).getD ((t.drop p).takeWhile isFig).length 0) = true := by
      refine ⟨by rw [List.length_drop]; omega, ?_⟩
      rw [List.getD_eq_getElem?_getD, List.getElem?_drop, ← h1, ← List.getD_eq_getElem?_getD]
      exact q
    exact Nat.lt_irrefl _ (hr.mpr this)
/-- all figures are given back -/
theorem give_all (S : NumCode code) (hT : ∀ c ∈ t, c ∈ alpha) (mks0 : Mk) (hs0 : mks0.a.size ≤ 7) (p : Nat) : ∀ (k : Nat) (pc' p' : Nat) (mks : Mk), (∀ j, p ≤ j → j < p + k → isFig (t.getD j 0) = true) → p + k ≤ t.length → mks.a.size = mks0.a.size →
    ∃ n pc2 p2 mks2, n ≤ 2 * k + 1 ∧ Go (bs code t st la) n ⟨pc', p', mks, #[], none, gbF true 19 (p + k) k (mks0.keep false) :: frames, some false⟩ ⟨pc2, p2, mks2, #[], none, frames, some false⟩ ∧ mks2.a.size = mks0.a.size := by
  have hk := mks0.keep_size false hs0
  have hkl := mks0.keep_le false
  intro k
  induction k with
  | zero =>
    intro pc' p' mks _ _ hs
    exact ⟨1, _, _, _, by omega, (Step.giveNo (b := bs code t st la) (pc := pc') (pos := p') (mks := mks) (loops := #[]) (inner := none) (frames := frames) (q := 19) (p := p + 0) (n := ((0 : Nat) : Int)) (k := mks0.keep false) (by show ((0 : Nat) : Int) - 1 < ((code.getD (19 + 2) 0 : Nat) : Int); omega)).go (Nat.le_succ_of_le (Nat.le_succ _)), (Mk.back_size _ _ (hs ▸ hkl)).trans hs⟩
  | succ k ih =>
    intro pc' p' mks hf hl hs
    have g1 := (Step.giveBack (b := bs code t st la) (pc := pc') (pos := p') (mks := mks) (loops := #[]) (inner := none) (frames := frames) (q := 19) (p := p + (k + 1)) (s := 10) (n := ((k + 1 : Nat) : Int)) (k := mks0.keep false) S.c20 (by show ¬ ((k + 1 : Nat) : Int) - 1 < ((code.getD (19 + 2) 0 : Nat) : Int); rw [S.c21]; omega) hk).go (by simp only [List.length_cons]; omega)
    have e1 : ((k + 1 : Nat) : Int) - 1 = ((k : Nat) : Int) := by omega
    have e2 : p + (k + 1) - 1 = p + k := by omega
    rw [e1, e2] at g1
    have hs' : (mks.back (mks0.keep false)).a.size = mks0.a.size := (Mk.back_size _ _ (hs ▸ hkl)).trans hs
    have g2 := S.w30.no (om := true) (st := st) (la := la) (pos := p + k) (mks := mks.back (mks0.keep false)) (loops := #[]) (inner := none) (frames := gbF true 19 (p + k) k (mks0.keep false) :: frames) hT (fun _ => by
      have := hf (p + k) (by omega) (by omega)
      unfold isFig at this
      simp only [Bool.and_eq_true, decide_eq_true_eq] at this
      exact decide_eq_false (by omega))
    obtain ⟨n, pc2, p2, mks2, hn, g3, hs2⟩ := ih _ (p + k) (mks.back (mks0.keep false)) (fun j h1 h2 => hf j h1 (by omega)) (by omega) hs'
    exact ⟨_, pc2, p2, mks2, by omega, (g1.trans g2).trans g3, hs2⟩
/-- the two ways of a number -/
theorem num_go (S : NumCode code) (hT : ∀ c ∈ t, c ∈ alpha) (hl : t.length < 1000) {mks : Mk} (hm : mks.good) (hlm : mks.lm < 0) (p : Nat) (hp : p ≤ t.length) :
    match numAt t p with
    | some q => q ≤ t.length ∧ ∃ n G mks', n ≤ 3000 ∧ Go (bs code t st la) n ⟨17, p, mks, #[], none, frames, none⟩ ⟨60, q, mks', #[], none, G ++ frames, none⟩ ∧ mks'.good ∧ ∀ f ∈ G, okF true f
    | none => ∃ n pc' p' mks', n ≤ 3000 ∧ Go (bs code t st la) n ⟨17, p, mks, #[], none, frames, none⟩ ⟨pc', p', mks', #[], none, frames, some false⟩ ∧ mks'.sim mks := by
  have hmx : t.length ≤ maxRepeat := by unfold maxRepeat; omega
  have hk := mks.keep_size (none : Option Nat).isSome hm.1
  have hkl := mks.keep_le (none : Option Nat).isSome
  have backs : ∀ m : Mk, m.a.size = mks.a.size → (m.back (mks.keep (none : Option Nat).isSome)).sim mks := fun m h => Mk.back_sim h (.inr hlm)
  have s0 := go_branch (om := true) (code := code) (t := t) (st := st) (la := la) (pc := 17) (pos := p) (mks := mks) (loops := #[]) (inner := none) (frames := frames) S.c17 (by rw [S.c18]; omega) hm.1
  have s1 := (Step.repOne (b := bs code t st la) (pc := 19) (pos := p) (mks := mks) (loops := #[]) (inner := none) (frames := brF true 18 p (mks.keep (none : Option Nat).isSome) :: frames) (t := t) (p := isFig) rfl S.c19 S.c20 S.c21 S.c22 (fun k _ h => S.a23 _ (hT _ (getD_mem h))) hp hm.1 (Nat.zero_le _)).go (by simp only [List.length_cons]; omega)
  have hr := runN_all (p := isFig) (t := t) (i := p) hmx hp
  have hge := figs_ge t p
  have hle := figs_le (t := t) hp
  rw [← figs_run] at hr
  have hn : runN isFig t (min maxRepeat (t.length - p)) p = figs t p - p := by omega
  rw [hn, show p + (figs t p - p) = figs t p by omega] at s1
  have b1 := s0.trans s1
  -- the figures alone
  have second : ∀ (M : Mk), M.sim mks → match (if figs t p > p then some (figs t p) else none : Option Nat) with
      | some q => q ≤ t.length ∧ ∃ n G mks', n ≤ 10 ∧ Go (bs code t st la) n ⟨46, p, M, #[], none, brF true 45 p (mks.keep (none : Option Nat).isSome) :: frames, none⟩ ⟨60, q, mks', #[], none, G ++ frames, none⟩ ∧ mks'.good ∧ ∀ f ∈ G, okF true f
      | none => ∃ n pc' p' mks', n ≤ 10 ∧ Go (bs code t st la) n ⟨46, p, M, #[], none, brF true 45 p (mks.keep (none : Option Nat).isSome) :: frames, none⟩ ⟨pc', p', mks', #[], none, frames, some false⟩ ∧ mks'.sim mks := by
    intro M hM
    by_cases h : figs t p > p
    · rw [if_pos h]
      have g1 := (Step.repOne (b := bs code t st la) (pc := 46) (pos := p) (mks := M) (loops := #[]) (inner := none) (frames := brF true 45 p (mks.keep (none : Option Nat).isSome) :: frames) (t := t) (p := isFig) rfl S.c46 S.c47 S.c48 S.c49 (fun k _ h => S.a50 _ (hT _ (getD_mem h))) hp (hM.1 ▸ hm.1) (by omega)).go (by simp only [List.length_cons]; omega)
      rw [hn, show p + (figs t p - p) = figs t p by omega] at g1
      exact ⟨hle, _, [_, _], M, by omega, g1.trans (go_jump S.c57 (by rw [S.c58])), hm.sim hM, okCons okGb (okCons okBr okNil)⟩
    · rw [if_neg h]
      have g1 := (Step.repOneNo (b := bs code t st la) (pc := 46) (pos := p) (mks := M) (loops := #[]) (inner := none) (frames := brF true 45 p (mks.keep (none : Option Nat).isSome) :: frames) (t := t) (p := isFig) rfl S.c46 S.c48 S.c49 (fun k _ h => S.a50 _ (hT _ (getD_mem h))) hp (by omega)).go (Nat.le_succ _)
      exact ⟨_, _, _, _, by omega, g1.trans (go_noWay (s := 14) (k' := 59) S.c45 rfl S.c59), backs M hM.1⟩
  -- what follows where the first way falls
  have fall : ∀ (n pc' p' : Nat) (M : Mk), n ≤ 4 → M.a.size = mks.a.size → Go (bs code t st la) n ⟨30, figs t p, mks, #[], none, gbF true 19 (figs t p) (((figs t p - p : Nat) : Int)) (mks.keep (none : Option Nat).isSome) :: brF true 18 p (mks.keep (none : Option Nat).isSome) :: frames, none⟩
      ⟨pc', p', M, #[], none, gbF true 19 (figs t p) (((figs t p - p : Nat) : Int)) (mks.keep (none : Option Nat).isSome) :: brF true 18 p (mks.keep (none : Option Nat).isSome) :: frames, some false⟩ →
      match (if figs t p > p then some (figs t p) else none : Option Nat) with
      | some q => q ≤ t.length ∧ ∃ n G mks', n ≤ 3000 ∧ Go (bs code t st la) n ⟨17, p, mks, #[], none, frames, none⟩ ⟨60, q, mks', #[], none, G ++ frames, none⟩ ∧ mks'.good ∧ ∀ f ∈ G, okF true f
      | none => ∃ n pc' p' mks', n ≤ 3000 ∧ Go (bs code t st la) n ⟨17, p, mks, #[], none, frames, none⟩ ⟨pc', p', mks', #[], none, frames, some false⟩ ∧ mks'.sim mks := by
    intro n pc' p' M hn4 hM g
    obtain ⟨n2, pc2, p2, mks2, hn2, g2, hs2⟩ := give_all (st := st) (la := la) (frames := brF true 18 p (mks.keep false) :: frames) S hT mks hm.1 p (figs t p - p) pc' p' M (fun j h1 h2 => fig_of h1 (by omega)) (by omega) hM
    rw [show p + (figs t p - p) = figs t p by omega] at g2
    have g3 := go_next (om := true) (code := code) (t := t) (st := st) (la := la) (pc := pc2) (pos := p2) (mks := mks2) (loops := #[]) (inner := none) (frames := frames) (alt := 18) (p := p) (s := 27) (k' := 45) (k := mks.keep (none : Option Nat).isSome) S.c18 rfl (by rw [S.c45]; omega) hk
    have sec := second _ (backs mks2 hs2)
    have pre := ((b1.trans g).trans g2).trans g3
    by_cases h : figs t p > p
    · rw [if_pos h] at sec ⊢
      obtain ⟨h1, n5, G, mks', hn5, g5, hg, hok⟩ := sec
      exact ⟨h1, _, G, mks', by omega, pre.trans g5, hg, hok⟩
    · rw [if_neg h] at sec ⊢
      obtain ⟨n5, pc5, p5, mks', hn5, g5, hs5⟩ := sec
      exact ⟨_, pc5, p5, mks', by omega, pre.trans g5, hs5⟩
  unfold numAt
  by_cases h1 : figs t p < t.length ∧ t.getD (figs t p) 0 = 46 ∧ figs t (figs t p + 1) > figs t p + 1
  · have e : numEnd t p = figs t (figs t p + 1) := if_pos h1
    rw [e, if_pos (by omega)]
    have hle2 := figs_le (t := t) (p := figs t p + 1) (by omega)
    have hr2 := runN_all (p := isFig) (t := t) (i := figs t p + 1) hmx (by omega)
    rw [← figs_run] at hr2
    have g1 := S.w30.take (om := true) (st := st) (la := la) (mks := mks) (loops := #[]) (inner := none) (frames := gbF true 19 (figs t p) (((figs t p - p : Nat) : Int)) (mks.keep (none : Option Nat).isSome) :: brF true 18 p (mks.keep (none : Option Nat).isSome) :: frames) hT h1.1 (decide_eq_true h1.2.1)
    have g2 := (Step.repOne (b := bs code t st la) (pc := 32) (pos := figs t p + 1) (mks := mks) (loops := #[]) (inner := none) (frames := gbF true 19 (figs t p) (((figs t p - p : Nat) : Int)) (mks.keep (none : Option Nat).isSome) :: brF true 18 p (mks.keep (none : Option Nat).isSome) :: frames) (t := t) (p := isFig) rfl S.c32 S.c33 S.c34 S.c35 (fun k _ h => S.a36 _ (hT _ (getD_mem h))) (by omega) hm.1 (by omega)).go (by simp only [List.length_cons]; omega)
    rw [hr2] at g2
    exact ⟨hle2, _, [_, _, _], mks, by omega, ((b1.trans g1).trans g2).trans (go_jump S.c43 (by rw [S.c44])), hm, okCons okGb (okCons okGb (okCons okBr okNil))⟩
  · have e : numEnd t p = figs t p := if_neg h1
    rw [e]
    by_cases h2 : figs t p < t.length ∧ t.getD (figs t p) 0 = 46
    · have g1 := S.w30.take (om := true) (st := st) (la := la) (mks := mks) (loops := #[]) (inner := none) (frames := gbF true 19 (figs t p) (((figs t p - p : Nat) : Int)) (mks.keep (none : Option Nat).isSome) :: brF true 18 p (mks.keep (none : Option Nat).isSome) :: frames) hT h2.1 (decide_eq_true h2.2)
      have hr2 := runN_all (p := isFig) (t := t) (i := figs t p + 1) hmx (by omega)
      rw [← figs_run] at hr2
      have hge2 := figs_ge t (figs t p + 1)
      have g2 := (Step.repOneNo (b := bs code t st la) (pc := 32) (pos := figs t p + 1) (mks := mks) (loops := #[]) (inner := none) (frames := gbF true 19 (figs t p) (((figs t p - p : Nat) : Int)) (mks.keep (none : Option Nat).isSome) :: brF true 18 p (mks.keep (none : Option Nat).isSome) :: frames) (t := t) (p := isFig) rfl S.c32 S.c34 S.c35 (fun k _ h => S.a36 _ (hT _ (getD_mem h))) (by omega) (by
        have : ¬ figs t (figs t p + 1) > figs t p + 1 := fun q => h1 ⟨h2.1, h2.2, q⟩
        omega)).go (Nat.le_succ _)
      exact fall _ _ _ _ (by omega) rfl (g1.trans g2)
    · exact fall 1 _ _ _ (by omega) rfl (S.w30.no hT fun h3 => decide_eq_false fun h4 => h2 ⟨h3, h4⟩)
def numMatch (t : List Nat) (pos : Nat) : Option Nat := numAt t (if isSign (t.getD pos 0) = true then pos + 1 else pos)
theorem num_mat (S : NumCode code) (hT : ∀ c ∈ t, c ∈ alpha) (hl : t.length < 1000) (hp : pos < t.length) : Mat code 0 t pos (numMatch t pos) := by
  have ha : ∀ k, pos ≤ k → k < t.length → acc (bs code t pos 0).code (5 + 4) (t.getD k 0) = some (isSign (t.getD k 0)) := fun k _ hk => S.a9 _ (hT _ (getD_mem hk))
  have s := (Step.repOne (b := bs code t pos 0) (pc := 5) (pos := pos) (mks := mk0 0) (loops := #[]) (inner := none) (frames := []) (t := t) (p := isSign) rfl S.c5 S.c6 S.c7 S.c8 ha (by omega) (by decide) (Nat.zero_le _)).go (by simp only [List.length_cons]; omega)
  rw [runN_one] at s
  unfold numMatch
  have hm0 : (mk0 0).good := mk0_good (by decide)
  have hk : ((mk0 0).keep (none : Option Nat).isSome).marks.size ≤ 7 := by decide
  by_cases hsg : isSign (t.getD pos 0) = true
  · rw [if_pos ⟨hp, hsg⟩] at s
    rw [if_pos hsg]
    have N := num_go (st := pos) (la := 0) (frames := [gbF true 5 (pos + 1) ((1 : Nat) : Int) ((mk0 0).keep (none : Option Nat).isSome)]) S hT hl hm0 (by decide) (pos + 1) (by omega)
    cases hn : numAt t (pos + 1) with
    | some q =>
      rw [hn] at N
      obtain ⟨h1, n, G, mks', hn', g, hg, hok⟩ := N
      exact Mat.found S.hd (by decide) (by omega) (.inr (by omega)) (s.trans g) S.c60 (okApp hok (okCons okGb okNil)) (by omega) hg h1
    | none =>
      rw [hn] at N
      obtain ⟨n, pc', p', mks', hn', g, hs⟩ := N
      have g3 := (Step.giveBack (b := bs code t pos 0) (pc := pc') (pos := p') (mks := mks') (loops := #[]) (inner := none) (frames := []) (q := 5) (p := pos + 1) (s := 11) (n := ((1 : Nat) : Int)) (k := (mk0 0).keep (none : Option Nat).isSome) S.c6 (by show ¬ ((1 : Nat) : Int) - 1 < ((code.getD (5 + 2) 0 : Nat) : Int); rw [S.c7]; omega) hk).go (by simp only [List.length_cons]; omega)
      have hm2 : (mks'.back ((mk0 0).keep (none : Option Nat).isSome)).sim (mk0 0) := Mk.back_sim hs.1 (.inr (by decide))
      generalize mks'.back ((mk0 0).keep (none : Option Nat).isSome) = M at g3 hm2
      have N2 := num_go (st := pos) (la := 0) (frames := [gbF true 5 (pos + 1 - 1) (((1 : Nat) : Int) - 1) ((mk0 0).keep (none : Option Nat).isSome)]) S hT hl (hm0.sim hm2) (by rw [hm2.2.1]; decide) pos (by omega)
      have hno : numAt t pos = none := by
        have hsg' := of_decide_eq_true hsg
        have h0 : isFig (t.getD pos 0) = false := by
          simp only [List.mem_cons, List.not_mem_nil, or_false] at hsg'
          rcases hsg' with q | q <;> rw [q] <;> decide
        have hf : figs t pos = pos := by rw [figs_run]; exact runEnd_stop hp h0
        unfold numAt
        rw [if_neg]
        unfold numEnd
        rw [hf]
        dsimp only
        rw [if_neg]
        · omega
        · rintro ⟨_, q, _⟩
          rw [q] at hsg'
          revert hsg'
          decide
      rw [hno] at N2
      obtain ⟨n2, pc2, p2, mks2, hn2, g4, hs2⟩ := N2
      have g5 := (Step.giveNo (b := bs code t pos 0) (pc := pc2) (pos := p2) (mks := mks2) (loops := #[]) (inner := none) (frames := []) (q := 5) (p := pos + 1 - 1) (n := ((1 : Nat) : Int) - 1) (k := (mk0 0).keep (none : Option Nat).isSome) (by show ((1 : Nat) : Int) - 1 - 1 < ((code.getD (5 + 2) 0 : Nat) : Int); omega)).go (Nat.le_succ_of_le (Nat.le_succ _))
      exact Mat.none' S.hd (by decide) (by omega) (.inr (by omega)) ((((s.trans g).trans g3).trans g4).trans g5) (by omega)
  · rw [if_neg (fun q => hsg q.2)] at s
    rw [if_neg hsg]
    have N := num_go (st := pos) (la := 0) (frames := [gbF true 5 (pos + 0) ((0 : Nat) : Int) ((mk0 0).keep (none : Option Nat).isSome)]) S hT hl hm0 (by decide) pos (by omega)
    cases hn : numAt t pos with
    | some q =>
      rw [hn] at N
      obtain ⟨h1, n, G, mks', hn', g, hg, hok⟩ := N
      exact Mat.found S.hd (by decide) (by omega) (.inr (by omega)) (s.trans g) S.c60 (okApp hok (okCons okGb okNil)) (by omega) hg h1
    | none =>
      rw [hn] at N
      obtain ⟨n, pc', p', mks', hn', g, hs⟩ := N
      have g3 := (Step.giveNo (b := bs code t pos 0) (pc := pc') (pos := p') (mks := mks') (loops := #[]) (inner := none) (frames := []) (q := 5) (p := pos + 0) (n := ((0 : Nat) : Int)) (k := (mk0 0).keep (none : Option Nat).isSome) (by show ((0 : Nat) : Int) - 1 < ((code.getD (5 + 2) 0 : Nat) : Int); omega)).go (Nat.le_succ_of_le (Nat.le_succ _))
      exact Mat.none' S.hd (by decide) (by omega) (.inr (by omega)) ((s.trans g).trans g3) (by omega)
end
end Mine
end
section
open PySem
set_option Elab.async false
set_option linter.unusedVariables false
set_option linter.unusedSimpArgs false
namespace Mine
open PySem.Sre
structure NlAll (code : Array Nat) : Prop where
  hd : header code = (2, 9)
  c0 : code.getD 0 0 = 14
  c2 : code.getD 2 0 = 1
  w9 : Wd code 9 16 2 (is 92)
  nl : NlCode code 11
  c35 : code.getD 35 0 = 1
def nlAt (t : List Nat) (p : Nat) : Option Nat := if p < t.length ∧ t.getD p 0 = 92 then nlEnd t (p + 1) else none
def firstNl (t : List Nat) : Nat → Nat → Option (Nat × Nat)
  | 0, _ => none
  | n + 1, p => match nlAt t p with
    | some q => some (p, q)
    | none => firstNl t n (p + 1)
def nsF (om : Bool) (pc pos : Nat) : Sre.Frame := { wait := .nextStart, pc := pc, pos := pos, outermost := om }
theorem nlAt_go {om : Bool} {code : Array Nat} {t : List Nat} {st la : Nat} {pos : Nat} {mks : Mk} {frames : List Sre.Frame} (S : NlAll code) (hT : ∀ c ∈ t, c ∈ alpha) (hm : mks.a.size ≤ 7) :
    match nlAt t pos with
    | some q => q ≤ t.length ∧ ∃ n G mks', n ≤ 15 ∧ Go (bso om code t st la) n ⟨9, pos, mks, #[], none, frames, none⟩ ⟨35, q, mks', #[], none, G ++ frames, none⟩ ∧ (∀ f ∈ G, okF om f)
    | none => ∃ n pc' p' mks', n ≤ 15 ∧ Go (bso om code t st la) n ⟨9, pos, mks, #[], none, frames, none⟩ ⟨pc', p', mks', #[], none, frames, some false⟩ ∧ mks'.a.size = mks.a.size := by
  unfold nlAt
  by_cases h : pos < t.length ∧ t.getD pos 0 = 92
  · rw [if_pos h]
    have s1 := S.w9.take (om := om) (st := st) (la := la) (mks := mks) (loops := #[]) (inner := none) (frames := frames) hT h.1 (decide_eq_true h.2)
    have N := nl_go (om := om) (code := code) (t := t) (st := st) (la := la) (pos := pos + 1) (mks := mks) (loops := #[]) (inner := none) (frames := frames) S.nl hT hm
    cases hn : nlEnd t (pos + 1) with
    | some q =>
      rw [hn] at N
      obtain ⟨n, G, mks', hn', g, hs, _, hok⟩ := N
      exact ⟨(nlEnd_le hn).2, 1 + n, G, mks', by omega, s1.trans g, hok⟩
    | none =>
      rw [hn] at N
      obtain ⟨n, pc', p', mks', hn', g, hs⟩ := N
      exact ⟨1 + n, pc', p', mks', by omega, s1.trans g, hs⟩
  · rw [if_neg h]
    exact ⟨1, _, _, mks, by omega, S.w9.no hT fun h2 => decide_eq_false fun h3 => h ⟨h2, h3⟩, rfl⟩
theorem nlAt_lt {t : List Nat} {p q : Nat} (h : nlAt t p = some q) : p + 1 < q ∧ q ≤ t.length := by
  unfold nlAt at h
  split at h
  · exact nlEnd_le h
  · cases h
/-- what a search answers -/
def Sought (r : Option (Nat × Nat)) (m : M) : Prop := match r with
  | some (p, q) => m.outcome = some .matched ∧ m.start = p ∧ m.handed = q
  | none => m.outcome = some .failed
theorem attemptFrom_is {om om' : Bool} {code : Array Nat} {t : List Nat} {st s : Nat} {c : Cf} {w : Nat} {sn : Seen} {hd : Nat} (h0 : code.getD 0 0 = 14) (h2 : code.getD 2 0 = 1) (hw : w ≤ 2 ^ 23) :
    M.attemptFrom (mM (bso om code t st t.length) c w sn hd) s om' = mM (bso om' code t s t.length) ⟨c.pc, s, ⟨c.mks.a, -1, -1⟩, c.loops, c.inner, nsF om' c.pc s :: c.frames, c.ans⟩ (w + 1) sn s := by
  unfold M.attemptFrom
  have hf : M.hasFirstSet (mM (bso om code t st t.length) c w sn hd) = false := by
    unfold M.hasFirstSet
    show ((match ops[code.getD 0 0]? with | some .INFO => true | _ => false) && code.getD 2 0 == 4) = false
    rw [h2]
    simp
  rw [hf]
  show M.attemptAt _ s om' = _
  unfold M.attemptAt M.attempt
  show (if w + 1 + 0 > 16777216 then _ else _) = _
  rw [if_neg (by omega)]
  rfl
theorem search_from {code : Array Nat} {t : List Nat} (S : NlAll code) (hT : ∀ c ∈ t, c ∈ alpha) : ∀ (n : Nat) (s : Nat) (om : Bool) (mks : Mk) (w : Nat) (sn : Seen) (hd : Nat), t.length - s < n → s ≤ t.length → mks.a.size ≤ 7 → w + 200 * n ≤ 2 ^ 23 →
    ∃ k, k ≤ 40 * n ∧ Sought (firstNl t n s) ((mM (bso om code t s t.length) ⟨9, s, mks, #[], none, [nsF om 9 s], none⟩ w sn hd).runFor k) := by
  intro n
  induction n with
  | zero => intro s om mks w sn hd h; omega
  | succ n ih =>
    intro s om mks w sn hd hn hs hm hw
    have N := nlAt_go (om := om) (code := code) (t := t) (st := s) (la := t.length) (pos := s) (mks := mks) (frames := [nsF om 9 s]) S hT hm
    unfold firstNl
    cases hq : nlAt t s with
    | some q =>
      rw [hq] at N
      obtain ⟨h1, n', G, mks', hn', g, hok⟩ := N
      have okG : ∀ f ∈ G ++ [nsF om 9 s], okF om f := fun f hf => by
        rcases List.mem_append.mp hf with a | a
        · exact hok f a
        · cases a with
          | head => exact ⟨rfl, .inl rfl⟩
          | tail _ h => cases h
      obtain ⟨k, hk, F⟩ := g.finds S.c35 okG (w := w) (sn := sn) (hd := hd) (by omega)
      refine ⟨k, ?_, F.out, F.start, F.handed⟩
      have : k ≤ 1 + 2 * n' + 2 := hk
      omega
    | none =>
      rw [hq] at N
      obtain ⟨n', pc', p', mks', hn', g, hsz⟩ := N
      obtain ⟨k, w', sn', hd', hk, hw', e⟩ := g.2 w sn hd (by omega)
      have st := step_resume (b := bso om code t s t.length) (pc := pc') (pos := p') (mks := mks') (loops := #[]) (inner := none) (frames := []) (f := nsF om 9 s) (w := w') (sn := sn') (hd := hd') (yes := false) rfl
      have one : ((mM (bso om code t s t.length) ⟨9, s, mks, #[], none, [nsF om 9 s], none⟩ w sn hd).runFor (k + 1)) = M.resume (mM (bso om code t s t.length) ⟨9, s, mks', #[], none, [], none⟩ (w' - 1) sn' hd') (nsF om 9 s) false := by
        rw [runFor_add, e, runFor_one _ rfl, st]
        rfl
      have res : M.resume (mM (bso om code t s t.length) ⟨9, s, mks', #[], none, [], none⟩ (w' - 1) sn' hd') (nsF om 9 s) false = (if s < t.length then M.attemptFrom (mM (bso om code t s t.length) ⟨9, s, mks', #[], none, [], none⟩ (w' - 1) sn' hd') (s + 1) false else (mM (bso om code t s t.length) ⟨9, s, mks', #[], none, [], none⟩ (w' - 1) sn' hd').say false) := by
        unfold M.resume
        dsimp only [nsF]
        rw [if_neg Bool.false_ne_true]
        rfl
      by_cases hlt : s < t.length
      · rw [if_pos hlt, attemptFrom_is S.c0 S.c2 (by omega)] at res
        obtain ⟨k2, hk2, F⟩ := ih (s + 1) false ⟨mks'.a, -1, -1⟩ (w' - 1 + 1) sn' (s + 1) (by omega) (by omega) (by show mks'.a.size ≤ 7; omega) (by omega)
        refine ⟨k + 1 + k2, by omega, ?_⟩
        rw [runFor_add, one, res]
        exact F
      · rw [if_neg hlt] at res
        have hnone : ∀ m p, t.length ≤ p → firstNl t m p = none := by
          intro m
          induction m with
          | zero => intro p _; rfl
          | succ m ih2 =>
            intro p hp
            unfold firstNl
            have : nlAt t p = none := by unfold nlAt; rw [if_neg (by omega)]
            rw [this]
            exact ih2 (p + 1) (by omega)
        show ∃ k, k ≤ 40 * (n + 1) ∧ Sought (firstNl t n (s + 1)) _
        rw [hnone n (s + 1) (by omega)]
        refine ⟨k + 1 + 1, by omega, ?_⟩
        rw [runFor_add, one, res, runFor_one _ rfl]
        rfl
theorem forSearch_sought {code : Array Nat} {t : List Nat} (S : NlAll code) (hT : ∀ c ∈ t, c ∈ alpha) (hl : t.length < 1000) (s : Nat) (hs : s ≤ t.length) :
    ∃ k, k ≤ 2 ^ 20 ∧ Sought (firstNl t (t.length + 1) s) ((forSearch code t.toArray 0 s t.length false).runFor k) := by
  have e : forSearch code t.toArray 0 s t.length false = (if (decide (s > t.length) || decide (t.length - s < (header code).1)) = true then (mM (bso true code t s 0) ⟨(header code).2, s, mk0 0, #[], none, [], none⟩ 0 (if ((header code).2 == 0) = true then {} else ({} : Seen).add 14) s).say false
      else M.attemptFrom (mM (bso true code t s (if (decide ((header code).1 > 1) && !((header code).2 != 0 && code.getD 2 0 &&& 5 != 0)) = true then max s (t.length - ((header code).1 - 1)) else t.length)) ⟨(header code).2, s, mk0 0, #[], none, [], none⟩ 0 (if ((header code).2 == 0) = true then {} else ({} : Seen).add 14) s) s true) := rfl
  rw [e]
  rw [S.hd, S.c2]
  dsimp only
  have hno : ∀ m p, t.length ≤ p + 1 → firstNl t m p = none := by
    intro m
    induction m with
    | zero => intro p _; rfl
    | succ m ih2 =>
      intro p hp
      unfold firstNl
      have : nlAt t p = none := by
        cases q : nlAt t p with
        | none => rfl
        | some r => have := nlAt_lt q; omega
      rw [this]
      exact ih2 (p + 1) (by omega)
  by_cases hc : (decide (s > t.length) || decide (t.length - s < 2)) = true
  · rw [if_pos hc]
    simp only [Bool.or_eq_true, decide_eq_true_eq] at hc
    rw [hno _ s (by omega)]
    refine ⟨1, by decide, ?_⟩
    rw [runFor_one _ rfl]
    rfl
  · rw [if_neg hc, if_neg (by decide), attemptFrom_is S.c0 S.c2 (by decide)]
    obtain ⟨k, hk, F⟩ := search_from S hT (t.length + 1) s true ⟨(mk0 0).a, -1, -1⟩ (0 + 1) (if ((9 : Nat) == 0) = true then {} else ({} : Seen).add 14) s (by omega) hs (by decide) (by omega)
    exact ⟨k, by omega, F⟩
end Mine
end
section
open PySem PySem.W PyProof.Rows PySem.Calls
set_option Elab.async false
set_option linter.unusedVariables false
set_option linter.unusedSimpArgs false
namespace Mine
open PySem.Builtin.Re
section
variable {M : Model} {A : Around} {E : Value → Shared → Prop} {s : Shared}

theorem drive {Q : Sre.M → Shared → Prop} : ∀ (n : Nat) (m : Sre.M) (k : Nat), k ≤ 4 * n → ((m.runFor k).outcome).isSome = true → 0 < n → Q (m.runFor k) s → wpAny M A (reDrive n m) Q E s
  | 0, m, k, _, _, h, _ => absurd h (by omega)
  | n + 1, m, k, hk, ho, _, hQ => by
    unfold reDrive
    show wpAny M A (if ((m.runFor 4).outcome).isSome = true then pure (m.runFor 4) else do rule "sre.turn"; reDrive n (m.runFor 4)) Q E s
    by_cases h4 : ((m.runFor 4).outcome).isSome = true
    · rw [if_pos h4]
      have e : m.runFor 4 = m.runFor k := by
        rcases Nat.le_total k 4 with q | q
        · obtain ⟨d, e⟩ := Nat.exists_eq_add_of_le q
          rw [e, runFor_add, runFor_done d _ ho]
        · obtain ⟨d, rfl⟩ := Nat.exists_eq_add_of_le q
          rw [runFor_add, runFor_done d _ h4]
      rw [e]
      exact wpAny_pure hQ
    · rw [if_neg h4]
      have hk4 : 4 < k := by
        rcases Nat.lt_or_ge 4 k with q | q
        · exact q
        · exfalso
          obtain ⟨d, e⟩ := Nat.exists_eq_add_of_le q
          have : m.runFor 4 = (m.runFor k).runFor d := by rw [← runFor_add, ← e]
          rw [runFor_done d _ ho] at this
          rw [this] at h4
          exact h4 ho
      obtain ⟨d, rfl⟩ := Nat.exists_eq_add_of_le (Nat.le_of_lt hk4)
      rw [runFor_add] at ho hQ
      refine wpAny_bind (wpAny_rule (drive n (m.runFor 4) d (by omega) ho (by omega) hQ))
theorem toEnd {m : Sre.M} {k : Nat} {Q : Option Sre.M → Shared → Prop} (hk : k ≤ 2 ^ 40) (r : Option Sre.M) (hr : (r = some (m.runFor k) ∧ (m.runFor k).outcome = some .matched) ∨ (r = none ∧ (m.runFor k).outcome = some .failed)) (h : Q r s) : wpAny M A (reRunToEnd m) Q E s := by
  unfold reRunToEnd
  have ho : ((m.runFor k).outcome).isSome = true := by rcases hr with ⟨_, h⟩ | ⟨_, h⟩ <;> rw [h] <;> rfl
  refine wpAny_bind (drive (2 ^ 64) m k (by omega) ho (by decide) ?_)
  refine wpAny_bind ?_
  refine wpAny_mono (Q := fun _ s' => s' = s) ?_ ?_ fun _ _ x => x
  · refine wpAny_forIn_list _ (fun _ _ s' => s' = s) _ ?_ (fun b s' h => h) _ _ rfl
    rintro i l b s' rfl
    split
    · exact wpAny_bind (wpAny_rule (wpAny_pure rfl))
    · exact wpAny_pure rfl
  · rintro _ _ rfl
    rcases hr with ⟨rfl, h2⟩ | ⟨rfl, h2⟩ <;> rw [h2] <;> exact wpAny_pure h
end
end Mine
end
section
open PySem PySem.W PyProof.Rows PySem.Calls
set_option Elab.async false
set_option linter.unusedVariables false
set_option linter.unusedSimpArgs false
set_option maxRecDepth 100000
namespace Mine
open PySem.Builtin.Re PySem.Flt
section
variable {prog : Program} {w : World} {A : Around} {E : Value → Shared → Prop} {s : Shared}

theorem asIndex_int' (p : Int) (tk : Tok) : asIndex (.int p tk) = pure p := rfl
theorem ssize_wp {M : Model} {p : Int} {tk : Tok} {Q : Int → Shared → Prop} (h : -(2 ^ 63) ≤ p) (h2 : p < 2 ^ 63) (hQ : Q p s) : wpAny M A (reSsize (.int p tk)) Q E s := by
  unfold reSsize
  rw [asIndex_int']
  refine wpAny_bind (wpAny_pure ?_)
  rw [if_neg (by simp only [Bool.or_eq_true, decide_eq_true_eq]; omega)]
  exact wpAny_pure hQ
theorem named_match (a b : Value) : reNamed "re.Pattern.match" "match" ["string", "pos", "endpos"] 1 [a, b] [] = pure [some a, some b, none] := by kernel_rfl
theorem textOf_str (x : Str) (tk : Tok) : reTextOf (.str x tk) = pure (x.cps, 0) := rfl
theorem rawItems_wp {M : Model} {T : Addr} {ws : Array Value} {n : Nat} {Q : Array Int → Shared → Prop} (h : s.heap.get? T = some { cls := .type "tuple", data := .seq ws n }) (hQ : Q (ws.map reRawOf) s) : wpAny M A (reRawItems (.ref T)) Q E s := by
  unfold reRawItems
  exact wpAny_bind (wpAny_seqItems h rfl (wpAny_pure hQ))
theorem target_wp {M : Model} {a : Addr} {r : PatRec} {t : List Nat} {tk ptk : Tok} {pos : Nat} {Q : ReTarget → Shared → Prop} (hp : IsPattern s.heap a r) (hk : r.kind = 0) (hpos : pos ≤ t.length) (hl : t.length < 1000)
    (hQ : Q { pattern := .ref a, string := .str (S t) tk, code := r.code.toArray, text := t.toArray, kind := 0, groups := r.groups, pos := pos, lim := t.length } s) :
    wpAny M A (reTarget "re.Pattern.match" "match" ⟨[.ref a, .str (S t) tk, .int pos ptk], []⟩) Q E s := by
  obtain ⟨fs, T, ws, n, h1, h2, h3, h4, h5, h6⟩ := hp
  unfold reTarget
  show wpAny M A (reNamed "re.Pattern.match" "match" ["string", "pos", "endpos"] 1 [.str (S t) tk, .int pos ptk] [] >>= _) Q E s
  rw [named_match]
  refine wpAny_bind (wpAny_pure ?_)
  dsimp only
  refine wpAny_bind (ssize_wp (by omega) (by omega) ?_)
  refine wpAny_bind (wpAny_pure ?_)
  refine wpAny_bind (wpAny_fieldsOf h1 rfl ?_)
  rw [textOf_str]
  refine wpAny_bind (wpAny_pure ?_)
  dsimp only
  rw [h4, hk]
  refine wpAny_bind (wpAny_pure ?_)
  rw [h2]
  refine wpAny_bind (rawItems_wp h5 (wpAny_pure ?_))
  have e1 : Array.map (fun x => x.toNat) (Array.map reRawOf ws) = r.code.toArray := by rw [← h6]
  have e2 : min ((pos : Int)).toNat (S t).cps.size = pos := by show min ((pos : Int)).toNat t.length = pos; omega
  have e3 : min ((2 ^ 63 - 1 : Int)).toNat (S t).cps.size = t.length := by show min ((2 ^ 63 - 1 : Int)).toNat t.length = t.length; omega
  rw [e1, e2, e3, h3]
  exact hQ
def sps (groups : Nat) (m : Sre.M) : List Int := (List.range groups).flatMap fun g =>
    match if ((2 * g + 1 : Nat) : Int) ≤ m.lastmark then (m.marks.getD (2 * g) none, m.marks.getD (2 * g + 1) none) else (none, none) with
    | (some b, some e) => [(b : Int), (e : Int)]
    | _ => [-1, -1]
theorem spans_is (groups : Nat) (m : Sre.M) : ((List.range groups).flatMap fun g =>
    match if ((2 * g + 1 : Nat) : Int) ≤ m.lastmark then (m.marks.getD (2 * g) none, m.marks.getD (2 * g + 1) none) else (none, none) with
    | (some b, some e) => [rawInt b, rawInt e]
    | _ => [rawInt (-1), rawInt (-1)]) = (sps groups m).map rawInt := by
  unfold sps
  rw [List.map_flatMap]
  congr 1
  funext g
  split <;> rfl
theorem sps_len (groups : Nat) (m : Sre.M) : (sps groups m).length = 2 * groups := by
  unfold sps
  have : ∀ l : List Nat, (l.flatMap fun g =>
    match if ((2 * g + 1 : Nat) : Int) ≤ m.lastmark then (m.marks.getD (2 * g) none, m.marks.getD (2 * g + 1) none) else (none, none) with
    | (some b, some e) => [(b : Int), (e : Int)]
    | _ => [-1, -1]).length = 2 * l.length := by
    intro l
    induction l with
    | nil => rfl
    | cons a l ih =>
      rw [List.flatMap_cons, List.length_append, ih, List.length_cons]
      split <;> simp only [List.length_cons, List.length_nil] <;> omega
  rw [this, List.length_range]
theorem newMatch_wp {M : Model} {X : List Addr} {pat : Value} {t : List Nat} {tk : Tok} {groups pos lim b e : Nat} {m : Sre.M} {mks : Mk} {g : Option (Nat × Nat)} {Q : Value → Shared → Prop} (hX : ∀ a ∈ X, ∃ o, s.heap.get? a = some o) (hg3 : groups ≤ 3) (hm : m.marks = mks.a) (hlm : m.lastmark = mks.lm) (hgood : mks.good) (hb : m.start = b) (he : m.handed = e)
    (hg : g = none ∨ ∃ x y, g = some (x, y) ∧ 1 ≤ groups ∧ mks.lm = 1 ∧ mks.a.getD 0 none = some x ∧ mks.a.getD 1 none = some y)
    (hQ : ∀ v h', Rp X h' v (.mat t b e g) → Heap.le s.heap h' → Q v { s with heap := h' }) : wpAny M A (reNewMatch pat (.str (S t) tk) groups pos lim m) Q E s := by
  unfold reNewMatch
  dsimp only
  rw [if_neg]
  · generalize hL : (List.flatMap _ (List.range groups)) = L
    obtain rfl : L = (sps groups m).map rawInt := hL.symm.trans (spans_is groups m)
    refine wpAny_bind (wpAny_newTuple ?_ (by rw [sizeLine_eq]; simp only [List.length_cons, List.length_map, sps_len]; omega))
    unfold newFields
    have k1 : Heap.le s.heap (s.heap.push { cls := .type "tuple", data := .seq (rawInt m.start :: rawInt m.handed :: (sps groups m).map rawInt).toArray }) := fun _ _ e => Heap.get?_push_of_some _ e
    refine wpAny_newObj_type (hQ _ _ ?_ (fun b o e => Heap.get?_push_of_some _ (k1 b o e))) (by show 6 ≤ sizeLine + 2; rw [sizeLine_eq]; omega)
    rw [Heap.size_push]
    have hX' : ∀ k, s.heap.objs.size + k ∉ X := fun k h => by
      obtain ⟨o, ho⟩ := hX _ h
      exact absurd (Heap.lt_size ho) (Nat.not_lt.mpr (Nat.le_add_right _ k))
    refine .mat _ s.heap.objs.size t tk pat (rawInt pos) (rawInt lim) (rawInt m.lastindex) b e g (m.start :: m.handed :: sps groups m) 0 (hX' 1) (hX' 0) ?_ ?_ ?_
    · have e1 := Heap.get?_push_size (s.heap.push { cls := .type "tuple", data := .seq (rawInt m.start :: rawInt m.handed :: (sps groups m).map rawInt).toArray }) (o := { cls := .type "re.Match", data := .fields [.str (S t) tk, pat, rawInt pos, rawInt lim, rawInt m.lastindex, .ref s.heap.objs.size].toArray }) rfl
      rw [Heap.size_push] at e1
      exact e1
    · exact Heap.get?_push_of_some _ (Heap.get?_push_size _ rfl)
    · rw [hb, he]
      rcases hg with rfl | ⟨x, y, rfl, h1, h2, h3, h4⟩
      · exact ⟨_, rfl⟩
      · obtain ⟨k, rfl⟩ : ∃ k, groups = k + 1 := ⟨groups - 1, by omega⟩
        unfold sps
        rw [List.range_succ_eq_map, List.flatMap_cons]
        rw [hm, hlm, h2]
        rw [if_pos (by decide), show 2 * 0 = 0 from rfl, show 0 + 1 = 1 from rfl, h3, h4]
        exact ⟨_, rfl⟩
  · intro hh
    rw [List.any_eq_true] at hh
    obtain ⟨g', _, hg'⟩ := hh
    rw [hm, hlm] at hg'
    cases q1 : mks.a.getD (2 * g') none with
    | none => rw [q1] at hg'; cases hg'
    | some x =>
      cases q2 : mks.a.getD (2 * g' + 1) none with
      | none => rw [q1, q2] at hg'; cases hg'
      | some y =>
        rw [q1, q2] at hg'
        simp only [Bool.and_eq_true, decide_eq_true_eq] at hg'
        have := hgood.2 g' x y hg'.1 q1 q2
        omega
end
end Mine
end
section
open PySem PySem.W PyProof.Rows PySem.Calls
set_option Elab.async false
set_option linter.unusedVariables false
set_option linter.unusedSimpArgs false
set_option maxRecDepth 100000
namespace Mine
open PySem.Builtin.Re PySem.Flt

def MatG (code : Array Nat) (groups : Nat) (t : List Nat) (pos : Nat) (r : Option (Nat × Option (Nat × Nat))) : Prop :=
  ∃ k, k ≤ 2 ^ 40 ∧ match r with
    | some (e, g) => ∃ mks : Mk, mks.good ∧ (g = none ∨ ∃ x y, g = some (x, y) ∧ 1 ≤ groups ∧ mks.lm = 1 ∧ mks.a.getD 0 none = some x ∧ mks.a.getD 1 none = some y) ∧ Found (bs code t pos 0) mks e ((Sre.forMatch code t.toArray groups pos t.length false false).runFor k)
    | none => ((Sre.forMatch code t.toArray groups pos t.length false false).runFor k).outcome = some .failed
theorem Mat.g {code : Array Nat} {groups : Nat} {t : List Nat} {pos : Nat} {r : Option Nat} (h : Mat code groups t pos r) : MatG code groups t pos (r.map fun e => (e, none)) := by
  obtain ⟨k, hk, h⟩ := h
  refine ⟨k, hk, ?_⟩
  cases r with
  | none => exact h
  | some e => obtain ⟨_, mks, hg, F⟩ := h; exact ⟨mks, hg, .inl rfl, F⟩
def pvM (t : List Nat) (pos : Nat) : Option (Nat × Option (Nat × Nat)) → PV
  | some (e, g) => .mat t pos e g
  | none => .none
section
variable {C : Cx} {ρ : Rho}
theorem pat_type {s : Shared} {a : Addr} {r : PatRec} (hp : IsPattern s.heap a r) : s.TypeIs (.ref a) "re.Pattern" ∧ ∀ b, Value.ref a = .ref b → ∃ ob, s.heap.get? b = some ob ∧ ob.dict = none := by
  obtain ⟨fs, T, ws, n, h1, _⟩ := hp
  exact ⟨⟨_, h1, rfl⟩, fun b e => by cases e; exact ⟨_, h1, rfl⟩⟩
theorem match_call {prog : Program} {w : World} {A : Around} {E : Value → Shared → Prop} {s : Shared} {X : List Addr} {a : Addr} {r : PatRec} {t : List Nat} {tk ptk : Tok} {pos : Nat} {res : Option (Nat × Option (Nat × Nat))} (hX : ∀ a ∈ X, ∃ o, s.heap.get? a = some o) (hp : IsPattern s.heap a r) (hk : r.kind = 0) (hg3 : r.groups ≤ 3) (hpos : pos ≤ t.length) (hl : t.length < 1000) (hM : MatG r.code.toArray r.groups t pos res) :
    wpAny (model prog w) A (call (.builtin "re.Pattern.match") [.ref a, .str (S t) tk, .int pos ptk]) (fun v s' => Rp X s'.heap v (pvM t pos res) ∧ Le0 s s') E s := by
  refine wpAny_call_entry slot_pat_match (pat_type hp).1 entry_pat_match ?_ (args_pat_match_3 _ _ _)
  show wpAny _ _ (reTarget "re.Pattern.match" "match" ⟨[.ref a, .str (S t) tk, .int pos ptk], []⟩ >>= fun t => reAnswer t (Sre.forMatch t.code t.text t.groups t.pos t.lim false false)) _ _ _
  refine wpAny_bind (target_wp hp hk hpos hl ?_)
  unfold reAnswer
  dsimp only
  obtain ⟨k, hk40, h⟩ := hM
  cases res with
  | none => exact wpAny_bind (toEnd hk40 none (.inr ⟨rfl, h⟩) (wpAny_pure ⟨_, rfl, .none, .rfl⟩))
  | some v =>
    obtain ⟨e, g⟩ := v
    obtain ⟨mks, hgood, hg, F⟩ := h
    refine wpAny_bind (toEnd hk40 (some _) (.inl ⟨rfl, F.out⟩) ?_)
    exact wpAny_bind (newMatch_wp hX hg3 F.marks F.lm hgood F.start F.handed hg fun v h' hr hle => wpAny_pure ⟨v, rfl, hr, .of hle⟩)
theorem Ev.match {o e f : Expr} {apos pos : Pos} {a : Addr} {r : PatRec} {t : List Nat} {i : Nat} {res : Option (Nat × Option (Nat × Nat))} (ho : Ev C ρ o (.raw (.ref a))) (hp : IsPattern C.hB a r) (hk : r.kind = 0) (hg3 : r.groups ≤ 3)
    (he : Ev C ρ e (.str t)) (hf : Ev C ρ f (.int i)) (hpos : i ≤ t.length) (hl : t.length < 1000) (hM : MatG r.code.toArray r.groups t i res)
    (hb : attributeBase o "match" C.env (eval o C.env) = eval o C.env) (hlp : (apos.endLine == pos.line) = true) (h1 : starEach [e, f] C.env = (false, eval e C.env) :: starEach [f] C.env) (h2 : starEach [f] C.env = (false, eval f C.env) :: starEach [] C.env) :
    Ev C ρ (.Call (.Attribute o "match" apos) [e, f] [] pos) (pvM t i res) :=
  Ev.meth ho plainAttrs_pat slot_pat_match type_pat_match (fun s v σ q => by cases q; exact pat_type (hp.keeps σ.base)) (fun s v σ q => by
    cases q
    refine callWith_method1 (wpAny_mono (Evs.cons he (Evs.cons hf Evs.nil h2) h1 s pos σ) (fun vs s1 q1 => ?_) fun _ _ x => x) h1 (by rw [h2]; rfl)
    obtain ⟨r1, k1⟩ := q1
    obtain ⟨v1, v2, rfl, e1, e2⟩ := r1.two
    cases e1; cases e2
    have σ1 := σ.le k1
    exact wpAny_mono (match_call σ1.inX (hp.keeps σ1.base) hk hg3 hpos hl hM) (fun v s2 q2 => ⟨q2.1, k1.1.trans q2.2⟩) fun _ _ x => x) hb (by rw [h1, h2]; rfl) hlp
end
end Mine
end
section
open PySem PySem.W PyProof.Rows PySem.Calls
set_option Elab.async false
set_option linter.unusedVariables false
set_option linter.unusedSimpArgs false
set_option maxRecDepth 100000
namespace Mine
open PySem.Builtin.Re PySem.Flt
theorem raw_map (sp : List Int) : ((sp.map fun i => Value.int i 0).toArray).map reRawOf = sp.toArray := by
  rw [List.map_toArray]
  congr 1
  rw [List.map_map]
  show sp.map (fun i => i) = sp
  simp
section
variable {s : Shared} {X : List Addr}
theorem reFound_wp {M : Model} {A : Around} {E : Value → Shared → Prop} {v : Value} {t : List Nat} {b e : Nat} {g : Option (Nat × Nat)} {Q : ReFound → Shared → Prop} (h : Rp X s.heap v (.mat t b e g))
    (hQ : ∀ tk pat p lim li T sp, (∃ r, sp = spanOf b e g ++ r) → Q { fields := #[.str (S t) tk, pat, p, lim, li, T], spans := sp.toArray } s) : wpAny M A (reFound v) Q E s := by
  cases h with
  | mat a T t tk pat p lim li b e g sp n ha hT h1 h2 h3 =>
    unfold reFound
    refine wpAny_bind (wpAny_fieldsOf h1 rfl ?_)
    refine wpAny_bind (rawItems_wp h2 (wpAny_pure ?_))
    rw [raw_map]
    exact hQ _ _ _ _ _ _ _ h3
theorem mat_type {v : Value} {t : List Nat} {b e : Nat} {g : Option (Nat × Nat)} (h : Rp X s.heap v (.mat t b e g)) : s.TypeIs v "re.Match" ∧ ∀ b, v = .ref b → ∃ ob, s.heap.get? b = some ob ∧ ob.dict = none := by
  cases h with
  | mat a T t tk pat p lim li b e g sp n ha hT h1 h2 h3 => exact ⟨⟨_, h1, rfl⟩, fun b e => by cases e; exact ⟨_, h1, rfl⟩⟩
theorem slice_str (t : List Nat) (b e : Nat) : reSlice t.toArray 0 b e = mkStr (S ((t.drop b).take (e - b))) := by
  unfold reSlice
  rw [if_pos (show ((0 : Nat) == 0) = true from rfl)]
  congr 1
  show Str.mk _ = Str.mk _
  congr 1
  rw [List.extract_toArray]
theorem group_text {M : Model} {A : Around} {E : Value → Shared → Prop} {t : List Nat} {tk : Tok} {pat p lim li T : Value} {sp : List Int} {i b e : Nat} {Q : Value → Shared → Prop} (h0 : sp.toArray.getD (2 * i) (-1) = b) (h1 : sp.toArray.getD (2 * i + 1) (-1) = e) (hl : t.length < 1000)
    (hQ : Q (.str (S ((t.drop b).take (e - b))) s.toks) { s with toks := s.toks + 1 }) : wpAny M A (reGroupText { fields := #[.str (S t) tk, pat, p, lim, li, T], spans := sp.toArray } i .none) Q E s := by
  unfold reGroupText
  dsimp only
  rw [h0, h1, if_neg (by simp only [Bool.or_eq_true, decide_eq_true_eq]; omega)]
  show wpAny M A (reTextOf (.str (S t) tk) >>= _) Q E s
  rw [textOf_str]
  refine wpAny_bind (wpAny_pure ?_)
  show wpAny M A (reSlice t.toArray 0 ((b : Int)).toNat ((e : Int)).toNat) Q E s
  rw [Int.toNat_natCast, Int.toNat_natCast, slice_str]
  exact wpAny_mkStr hQ (by rw [S_length, sizeLine_eq, List.length_take, List.length_drop]; omega)
end
section
variable {C : Cx} {ρ : Rho}
theorem Ev.group0 {o : Expr} {apos pos : Pos} {t : List Nat} {b e : Nat} {g : Option (Nat × Nat)} (ho : Ev C ρ o (.mat t b e g)) (hl : t.length < 1000)
    (hb : attributeBase o "group" C.env (eval o C.env) = eval o C.env) (hp : (apos.endLine == pos.line) = true) : Ev C ρ (.Call (.Attribute o "group" apos) [] [] pos) (.str ((t.drop b).take (e - b))) :=
  Ev.meth ho plainAttrs_mat slot_mat_group type_mat_group (fun s v σ r => mat_type r) (fun s v σ r => callWith_method0 (by
    refine wpAny_call_entry slot_mat_group (mat_type r).1 entry_mat_group ?_ (args_mat_group_1 _)
    show wpAny _ _ (do let x ← reFound v; ret (← reGroupText x 0 .none)) _ _ s
    refine wpAny_bind (reFound_wp r fun tk pat p lim li T sp hsp => wpAny_bind (group_text (i := 0) (b := b) (e := e) ?_ ?_ hl (wpAny_pure ⟨_, rfl, .str _ _, .toks _⟩)))
    · obtain ⟨q, rfl⟩ := hsp
      cases g <;> rfl
    · obtain ⟨q, rfl⟩ := hsp
      cases g <;> rfl)) hb rfl hp
theorem Ev.end' {o : Expr} {apos pos : Pos} {t : List Nat} {b e : Nat} {g : Option (Nat × Nat)} (ho : Ev C ρ o (.mat t b e g))
    (hb : attributeBase o "end" C.env (eval o C.env) = eval o C.env) (hp : (apos.endLine == pos.line) = true) : Ev C ρ (.Call (.Attribute o "end" apos) [] [] pos) (.int e) :=
  Ev.meth ho plainAttrs_mat slot_mat_end type_mat_end (fun s v σ r => mat_type r) (fun s v σ r => callWith_method0 (by
    refine wpAny_call_entry slot_mat_end (mat_type r).1 entry_mat_end ?_ (args_mat_end_1 _)
    show wpAny _ _ (do let (x, g) ← (do let x ← reFound v; pure (x, ← pure 0)); retInt (x.spans.getD (2 * g + 1) (-1))) _ _ s
    refine wpAny_bind (wpAny_bind (reFound_wp r fun tk pat p lim li T sp hsp => wpAny_bind (wpAny_pure (wpAny_pure ?_))))
    have : sp.toArray.getD (2 * 0 + 1) (-1) = e := by
      obtain ⟨q, rfl⟩ := hsp
      cases g <;> rfl
    show wpAny _ _ (retInt (sp.toArray.getD (2 * 0 + 1) (-1))) _ _ s
    rw [this]
    unfold retInt
    exact wpAny_bind (wpAny_mkInt (wpAny_pure ⟨_, rfl, .int _ _, .toks _⟩)))) hb rfl hp
theorem Ev.group1 {o e1 : Expr} {apos pos : Pos} {t : List Nat} {b e x y : Nat} (ho : Ev C ρ o (.mat t b e (some (x, y)))) (he : Ev C ρ e1 (.int 1)) (hl : t.length < 1000)
    (hb : attributeBase o "group" C.env (eval o C.env) = eval o C.env) (hp : (apos.endLine == pos.line) = true) (h1 : starEach [e1] C.env = (false, eval e1 C.env) :: starEach [] C.env) : Ev C ρ (.Call (.Attribute o "group" apos) [e1] [] pos) (.str ((t.drop x).take (y - x))) :=
  Ev.meth ho plainAttrs_mat slot_mat_group type_mat_group (fun s v σ r => mat_type r) (fun s v σ r => by
    refine callWith_method1 (wpAny_mono (Evs.cons he Evs.nil h1 s pos σ) (fun vs s1 q1 => ?_) fun _ _ x => x) h1 rfl
    obtain ⟨r1, k1⟩ := q1
    obtain ⟨v1, rfl, e1⟩ := r1.one
    cases e1 with
    | int i tk1 =>
    have r' := r.le0 k1.1
    refine wpAny_mono (Q := fun v s' => Rp C.X s'.heap v (.str ((t.drop x).take (y - x))) ∧ Le0 s1 s') (wpAny_call_entry slot_mat_group (mat_type r').1 entry_mat_group ?_ (args_mat_group_2 _ _)) (fun v s2 q2 => ⟨q2.1, k1.1.trans q2.2⟩) fun _ _ x => x
    show wpAny _ _ (do let x ← reFound v; ret (← reGroupText x (← reGroupNumber x (.int 1 tk1)) .none)) _ _ s1
    refine wpAny_bind (reFound_wp r' fun tk pat p lim li T sp hsp => ?_)
    obtain ⟨q, rfl⟩ := hsp
    refine wpAny_bind ?_
    unfold reGroupNumber
    rw [show asInt? (.int 1 tk1) = pure (some 1) from rfl, asIndex_int']
    refine wpAny_bind (wpAny_pure ?_)
    dsimp only
    rw [if_pos (show (some (1 : Int)).isSome = true from rfl)]
    refine wpAny_bind (wpAny_pure ?_)
    rw [if_neg (by
      simp only [spanOf, Bool.or_eq_true, decide_eq_true_eq, List.size_toArray, List.length_append, List.length_cons, List.length_nil]
      omega)]
    refine wpAny_pure ?_
    exact wpAny_bind (group_text (i := 1) (b := x) (e := y) rfl rfl hl (wpAny_pure ⟨_, rfl, .str _ _, .toks _⟩))) hb (by rw [h1]; rfl) hp
end
end Mine
end
section
open PySem PySem.W PyProof.Rows PySem.Calls
set_option Elab.async false
set_option linter.unusedVariables false
set_option linter.unusedSimpArgs false
set_option maxRecDepth 100000
namespace Mine
open PySem.Builtin.Re PySem.Flt
def subFrom (t : List Nat) : Nat → Nat → List Nat
  | 0, p => t.drop p
  | n + 1, p => match firstNl t (t.length + 1) p with
    | some (a, b) => (t.drop p).take (a - p) ++ subFrom t n b
    | none => t.drop p
theorem entry_sub_loop : entryFor table "re.Pattern.sub.loop" = some Builtin.«re.Pattern.sub.loop» := entryFor_of_tree (by kernel_rfl)
section
variable {prog : Program} {w : World} {A : Around} {E : Value → Shared → Prop} {s : Shared}
theorem call_tree {T : String} {name : Str} {id : String} {b : Builtin} {self : Value} {rest : List Value} {Q : Value → Shared → Prop} (h : Slot T name id) (hT : s.TypeIs self T) (hb : entryFor table id = some b)
    (hc : wpAny (model prog w) A.in1 (b ⟨self :: rest, []⟩) (fun fin s' => match fin with
      | .done f => (match (Except.ok f : Result) with | .ok (.ret v) => Q v s' | .ok _ => False | .error e => E e s')
      | .again c' => c'.quiet = true ∧ codeAny (model prog w) A c' (fun r s' => match r with | .ok (.ret v) => Q v s' | .ok _ => False | .error e => E e s') s') E s)
    (ha : argsOk id ⟨self :: rest, []⟩) : wpAny (model prog w) A (call (.builtin id) (self :: rest)) Q E s :=
  wpAny_call (codeAny_call_builtin h.plain hb (h.check _ _ _ _ _ _ _ _ hT ha hc))
theorem wholeTarget_wp {M : Model} {a : Addr} {r : PatRec} {t : List Nat} {tk : Tok} {Q : ReTarget → Shared → Prop} (hp : IsPattern s.heap a r) (hk : r.kind = 0)
    (hQ : Q { pattern := .ref a, string := .str (S t) tk, code := r.code.toArray, text := t.toArray, kind := 0, groups := r.groups, pos := 0, lim := t.length } s) :
    wpAny M A (reWholeTarget (.ref a) (.str (S t) tk)) Q E s := by
  obtain ⟨fs, T, ws, n, h1, h2, h3, h4, h5, h6⟩ := hp
  unfold reWholeTarget
  refine wpAny_bind (wpAny_fieldsOf h1 rfl ?_)
  rw [textOf_str]
  refine wpAny_bind (wpAny_pure ?_)
  dsimp only
  rw [h4, hk]
  refine wpAny_bind (wpAny_pure ?_)
  rw [h2]
  refine wpAny_bind (rawItems_wp h5 (wpAny_pure ?_))
  have e1 : Array.map (fun x => x.toNat) (Array.map reRawOf ws) = r.code.toArray := by rw [← h6]
  rw [e1, h3]
  exact hQ
theorem push_wp {M : Model} {L : Addr} {items : Array Value} {x : Value} {Q : Unit → Shared → Prop} (hl : s.heap.PlainList L items) (hsz : items.size ≤ 100000)
    (hQ : ∀ h', h'.PlainList L (items.push x) → Heap.SameBut L s.heap h' → Q () { s with heap := h' }) : wpAny M A (updateSeq L (·.push x)) Q E s := by
  obtain ⟨n, ho⟩ := hl
  refine wpAny_updateSeq ho rfl (hQ _ ⟨n + 1, ?_⟩ (Heap.SameBut.update ..)) (by rw [sizeLine_eq]; omega) (by rw [sizeLine_eq, Array.size_push]; omega)
  rw [Heap.get?_update_self _ ho (by rw [Obj.mapSeq_push_plain]; rfl), Obj.mapSeq_push_plain]
theorem strValues_push (l : List (Str × Tok)) (x : Str) (k : Tok) : (strValues l).toArray.push (.str x k) = (strValues (l ++ [(x, k)])).toArray := by
  simp [strValues]
theorem join_S (ts : List (List Nat)) : Txt.join (S []) (ts.map S) = S ts.flatten := glued_S ts
end
end Mine
end
section
open PySem PySem.W PyProof.Rows PySem.Calls
set_option Elab.async false
set_option linter.unusedVariables false
set_option linter.unusedSimpArgs false
set_option maxRecDepth 100000
namespace Mine
open PySem.Builtin.Re PySem.Flt
section
variable {prog : Program} {w : World}
theorem firstNl_le {t : List Nat} {a b : Nat} : ∀ n p, firstNl t n p = some (a, b) → p ≤ a ∧ a + 1 < b ∧ b ≤ t.length := by
  intro n
  induction n with
  | zero => intro p h; cases h
  | succ n ih =>
    intro p h
    unfold firstNl at h
    cases q : nlAt t p with
    | some r =>
      rw [q] at h
      cases h
      have := nlAt_lt q
      omega
    | none =>
      rw [q] at h
      have := ih (p + 1) h
      omega
theorem flat_snoc (ts : List (List Nat)) (x : List Nat) : (ts ++ [x]).flatten = ts.flatten ++ x := by simp
theorem texts_snoc {l : List (Str × Tok)} {ts : List (List Nat)} (h : l.map (·.1) = ts.map S) (x : List Nat) (k : Tok) : (l ++ [(S x, k)]).map (·.1) = (ts ++ [x]).map S := by simp [h]
/-- the end of a substitution: what was gathered is joined -/
def subEnd (t : List Nat) (L : Addr) : Sem Fin := do
  let joiner ← reSlice t.toArray 0 0 0
  let text ← if ((← seqItems? (.ref L)).getD #[]).isEmpty then pure joiner else call (.builtin "str.join") [joiner, .ref L]
  ret text
theorem subEnd_wp {A A' : Around} {s : Shared} {t : List Nat} {L : Addr} {l : List (Str × Tok)} {ts : List (List Nat)} {R : Result → Shared → Prop} (hL : s.heap.PlainList L (strValues l).toArray) (hl1 : l.map (·.1) = ts.map S) (hlen : ∀ x ∈ ts, x.length ≤ 1000) (hcnt : ts.length ≤ 3000)
    (hR : ∀ k' k, R (.ok (.ret (.str (S ts.flatten) k'))) { s with toks := k }) :
    wpAny (model prog w) A' (subEnd t L) (fun fin s' => match fin with | .done f => R (.ok f) s' | .again c' => c'.quiet = true ∧ codeAny (model prog w) A c' R s') (fun e s' => R (.error e) s') s := by
  unfold subEnd
  rw [slice_str]
  refine wpAny_bind (wpAny_mkStr ?_ (by rw [S_length, sizeLine_eq]; simp))
  obtain ⟨n1, ho1⟩ := id hL
  refine wpAny_bind (wpAny_seqItems (s := { s with toks := s.toks + 1 }) ho1 rfl ?_)
  have hll : l.length = ts.length := by have := congrArg List.length hl1; simpa using this
  by_cases he : l = []
  · subst he
    have : ts = [] := List.length_eq_zero_iff.mp (by rw [← hll]; rfl)
    subst this
    rw [if_pos (by rfl)]
    exact wpAny_bind (wpAny_pure (wpAny_pure (hR _ _)))
  · rw [if_neg (by
      show ¬ (strValues l).toArray.isEmpty = true
      simp [strValues, he])]
    refine wpAny_bind ?_
    refine wpAny_mono (Q := fun v s' => ∃ k' k, v = .str (S ts.flatten) k' ∧ s' = { s with toks := k }) (E := fun _ _ => False) ?_ ?_ fun _ _ x => x.elim
    · have hj : S ((t.drop 0).take (0 - 0)) = S [] := by simp
      rw [hj]
      refine SC.join (s := { s with toks := s.toks + 1 }) (Heap.PlainList.isList hL) hl1 ?_ (fun t' k => ⟨t', k, by rw [glued_S], rfl⟩)
      unfold JoinOk
      rw [StrLaws.joinFits (B := 1000)]
      · rfl
      · intro y hy
        obtain ⟨x, hx, rfl⟩ := List.mem_map.mp hy
        rw [S_length]; exact hlen x hx
      · rw [List.length_map, S_length]; simp only [List.length_nil]; omega
    · rintro _ _ ⟨k', k, rfl, rfl⟩
      exact wpAny_pure (hR _ _)
theorem sub_loop {a : Addr} {r : PatRec} {t : List Nat} {tk rk : Tok} {L : Addr} (S0 : NlAll r.code.toArray) (hg0 : r.groups = 0) (hk : r.kind = 0) (hT : ∀ c ∈ t, c ∈ alpha) (hl : t.length < 1000) :
    ∀ (n p : Nat) (m : Int) (A : Around) (s : Shared) (l : List (Str × Tok)) (ts : List (List Nat)) (R : Result → Shared → Prop), t.length - p < n → p ≤ t.length → IsPattern s.heap a r → (∀ h' : Heap, (∀ b o, b ≠ L → s.heap.get? b = some o → h'.get? b = some o) → IsPattern h' a r) → s.heap.PlainList L (strValues l).toArray → l.map (·.1) = ts.map S → (∀ x ∈ ts, x.length ≤ t.length) → ts.length ≤ 2 * p →
      (∀ v h' k, (∃ k', v = .str (S (ts.flatten ++ subFrom t n p)) k') → (∀ b o, b ≠ L → s.heap.get? b = some o → h'.get? b = some o) → R (.ok (.ret v)) { s with heap := h', toks := k }) →
      codeAny (model prog w) A (.builtin "re.Pattern.sub.loop" ⟨[.ref a, .str (S t) tk, .str (S []) rk, .int 0 0, .int 0 0, .int m 0, .int p 0, .int p 0, .bool false, .ref L, .bool false], []⟩) R s := by
  intro n
  induction n with
  | zero => intro p m A s l ts R h; omega
  | succ n ih =>
    intro p m A s l ts R hn hp hpat hpk hL hl1 hlen hcnt hR
    have hll : l.length = ts.length := by have := congrArg List.length hl1; simpa using this
    have hsz : (strValues l).toArray.size ≤ 100000 := by rw [List.size_toArray]; unfold strValues; rw [List.length_map, hll]; omega
    refine codeAny_builtin entry_sub_loop ?_
    unfold Builtin.«re.Pattern.sub.loop»
    dsimp only
    refine wpAny_bind (wholeTarget_wp hpat hk ?_)
    rw [if_pos (show ((0 : Int) == 0) = true from rfl)]
    refine wpAny_bind (wpAny_bind (wpAny_pure ?_))
    refine wpAny_pure ?_
    refine wpAny_bind ?_
    rw [if_neg (show ¬ ((0 : Int) != 0 && decide (m ≥ 0)) = true by simp)]
    unfold reNextFound
    dsimp only
    rw [hg0, Int.toNat_natCast]
    obtain ⟨k, hk20, hS⟩ := forSearch_sought S0 hT hl p hp
    have same : ∀ {h' : Heap}, Heap.SameBut L s.heap h' → ∀ b o, b ≠ L → s.heap.get? b = some o → h'.get? b = some o := fun hs b o hb e => hs.extBut b o hb e
    cases hf : firstNl t (t.length + 1) p with
    | none =>
      rw [hf] at hS
      refine toEnd (k := k) (by omega) none (.inr ⟨rfl, hS⟩) ?_
      dsimp only
      have hsub : subFrom t (n + 1) p = t.drop p := by unfold subFrom; rw [hf]
      rw [hsub] at hR
      by_cases hp2 : p < t.length
      · rw [if_pos hp2, slice_str]
        refine wpAny_bind (wpAny_mkStr ?_ (by rw [S_length, sizeLine_eq, List.length_take, List.length_drop]; omega))
        refine wpAny_bind (push_wp (s := { s with toks := s.toks + 1 }) hL hsz fun h' hL' hs' => ?_)
        have hd : (t.drop p).take (t.length - p) = t.drop p := List.take_of_length_le (by rw [List.length_drop]; omega)
        rw [hd, strValues_push] at hL'
        refine subEnd_wp (s := { s with heap := h', toks := s.toks + 1 }) hL' (texts_snoc hl1 (t.drop p) s.toks) (fun x hx => ?_) (by rw [List.length_append, List.length_singleton]; omega) (fun k' k => hR _ _ _ ⟨k', by rw [flat_snoc]⟩ (same hs'))
        rcases List.mem_append.mp hx with q | q
        · have := hlen x q; omega
        · rw [List.mem_singleton.mp q, List.length_drop]; omega
      · rw [if_neg hp2]
        have hd : t.drop p = [] := List.drop_of_length_le (by omega)
        rw [hd] at hR
        exact subEnd_wp hL hl1 (fun x hx => by have := hlen x hx; omega) (by omega) (fun k' k => hR _ s.heap _ ⟨k', by rw [List.append_nil]⟩ fun b o _ e => e)
    | some v =>
      obtain ⟨x, y⟩ := v
      rw [hf] at hS
      obtain ⟨hout, hst, hhd⟩ := hS
      refine toEnd (k := k) (by omega) (some _) (.inl ⟨rfl, hout⟩) ?_
      dsimp only
      rw [hst, hhd]
      have hle := firstNl_le _ _ hf
      have hsub : subFrom t (n + 1) p = (t.drop p).take (x - p) ++ subFrom t n y := by rw [subFrom, hf]
      rw [hsub] at hR
      have hmust : (y == x) = false := by rw [beq_eq_false_iff_ne]; omega
      -- the empty piece, then the next turn
      have next : ∀ (A' : Around) (s1 : Shared) (l1 : List (Str × Tok)) (ts1 : List (List Nat)), s1.heap.PlainList L (strValues l1).toArray → l1.map (·.1) = ts1.map S → (∀ x ∈ ts1, x.length ≤ t.length) → ts1.length ≤ 2 * p + 1 → ts1.flatten = ts.flatten ++ (t.drop p).take (x - p) → (∀ h' : Heap, (∀ b o, b ≠ L → s1.heap.get? b = some o → h'.get? b = some o) → ∀ b o, b ≠ L → s.heap.get? b = some o → h'.get? b = some o) → (∃ h0 k0, s1 = { s with heap := h0, toks := k0 }) →
          wpAny (model prog w) A' (do
            updateSeq L fun z => z.push (.str (S []) rk)
            again (.builtin "re.Pattern.sub.loop" ⟨[.ref a, .str (S t) tk, .str (S []) rk, .int 0 0, .int 0 0, .int (m + 1) 0, .int y 0, .int y 0, .bool (y == x), .ref L, .bool false], []⟩))
          (fun fin s' => match fin with | .done f => R (.ok f) s' | .again c' => c'.quiet = true ∧ codeAny (model prog w) A c' R s') (fun e s' => R (.error e) s') s1 := by
        rintro A' s1 l1 ts1 hL1 hl1' hlen1 hcnt1 hfl hkeep ⟨h0, k0, rfl⟩
        have hll1 : l1.length = ts1.length := by have := congrArg List.length hl1'; simpa using this
        refine wpAny_bind (push_wp hL1 (by rw [List.size_toArray]; unfold strValues; rw [List.length_map, hll1]; omega) fun h' hL' hs' => wpAny_pure ⟨PySem.plainId_quiet (by decide +kernel) _, ?_⟩)
        rw [hmust]
        rw [strValues_push] at hL'
        have hk' := hkeep h' (fun b o hb e => hs'.extBut b o hb e)
        refine ih y (m + 1) A _ (l1 ++ [(S [], rk)]) (ts1 ++ [[]]) R (by omega) hle.2.2 (hpk h' hk') (fun h2 k2 => hpk h2 fun b o hb e => k2 b o hb (hk' b o hb e)) hL' (texts_snoc hl1' [] rk) (fun z hz => ?_) (by rw [List.length_append, List.length_singleton]; omega) ?_
        · rcases List.mem_append.mp hz with q | q
          · exact hlen1 z q
          · rw [List.mem_singleton.mp q]; exact Nat.zero_le _
        · rintro v h2 k2 ⟨k', rfl⟩ hh2
          refine hR _ h2 k2 ⟨k', ?_⟩ (fun b o hb e => hh2 b o hb (hk' b o hb e))
          rw [flat_snoc, List.append_nil, hfl, List.append_assoc]
      by_cases hp2 : p < x
      · rw [if_pos hp2, slice_str]
        refine wpAny_bind (wpAny_mkStr ?_ (by rw [S_length, sizeLine_eq, List.length_take, List.length_drop]; omega))
        refine wpAny_bind (push_wp (s := { s with toks := s.toks + 1 }) hL hsz fun h' hL' hs' => ?_)
        rw [strValues_push] at hL'
        refine next _ { s with heap := h', toks := s.toks + 1 } _ (ts ++ [(t.drop p).take (x - p)]) hL' (texts_snoc hl1 _ s.toks) (fun z hz => ?_) (by rw [List.length_append, List.length_singleton]; omega) (flat_snoc _ _) (fun h2 k2 b o hb e => k2 b o hb (same hs' b o hb e)) ⟨_, _, rfl⟩
        rcases List.mem_append.mp hz with q | q
        · exact hlen z q
        · rw [List.mem_singleton.mp q, List.length_take, List.length_drop]; omega
      · rw [if_neg hp2]
        refine next _ s l ts hL hl1 hlen (by omega) (by rw [show x - p = 0 by omega]; simp) (fun h2 k2 => k2) ⟨_, _, rfl⟩
end
end Mine
end
section
open PySem PySem.W PyProof.Rows PySem.Calls
set_option Elab.async false
set_option linter.unusedVariables false
set_option linter.unusedSimpArgs false
set_option maxRecDepth 100000
namespace Mine
open PySem.Builtin.Re PySem.Flt
theorem named_sub (a b : Value) : reNamed "re.Pattern.sub" "sub" ["repl", "string", "count"] 2 [a, b] [] = pure [some a, some b, none] := by kernel_rfl
theorem noCall_str : typeLookup (.type "str") "__call__" = pure none := by rw [typeLookup_type, builtinLookup_eq_fast]; kernel_rfl
section
variable {prog : Program} {w : World} {A : Around} {s : Shared}
theorem sub_call {X : List Addr} {a : Addr} {r : PatRec} {t : List Nat} {tk rk : Tok} (S0 : NlAll r.code.toArray) (hg0 : r.groups = 0) (hk : r.kind = 0) (hT : ∀ c ∈ t, c ∈ alpha) (hl : t.length < 1000) (hp : IsPattern s.heap a r) :
    wpAny (model prog w) A (call (.builtin "re.Pattern.sub") [.ref a, .str (S []) rk, .str (S t) tk]) (fun v s' => Rp X s'.heap v (.str (subFrom t (t.length + 1) 0)) ∧ Le0 s s') (fun _ _ => False) s := by
  refine call_tree slot_pat_sub (pat_type hp).1 entry_pat_sub ?_ (args_pat_sub_3 _ _ _)
  show wpAny _ _ (reSubstitute "re.Pattern.sub" "sub" false ⟨[.ref a, .str (S []) rk, .str (S t) tk], []⟩) _ _ s
  unfold reSubstitute
  show wpAny _ _ (reNamed "re.Pattern.sub" "sub" ["repl", "string", "count"] 2 [.str (S []) rk, .str (S t) tk] [] >>= _) _ _ s
  rw [named_sub]
  refine wpAny_bind (wpAny_pure ?_)
  refine wpAny_bind (wpAny_pure ?_)
  refine wpAny_bind (wpAny_specialOf_val (T := "str") (r := none) rfl noCall_str ?_)
  dsimp only
  rw [if_neg (show ¬ (none : Option Value).isSome = true by simp)]
  refine wpAny_bind (wpAny_pure ?_)
  refine wpAny_bind (wpAny_pure ?_)
  rw [if_neg (show ¬ (none : Option Value).isSome = true by simp), if_pos (show (!(S []).cps.contains 92) = true by simp [S])]
  refine wpAny_bind (wpAny_pure ?_)
  dsimp only
  refine wpAny_bind (wpAny_holding (wholeTarget_wp hp hk ?_))
  rw [if_neg (show ¬ ((0 : Int) == 1) = true by decide)]
  unfold newList
  refine wpAny_bind (wpAny_newObj_type ?_ (by show 0 ≤ sizeLine; omega))
  refine wpAny_pure ⟨PySem.plainId_quiet (by decide +kernel) _, ?_⟩
  have kp : ∀ b o, s.heap.get? b = some o → (s.heap.push { cls := .type "list", data := .seq ([] : List Value).toArray }).get? b = some o := fun b o e => Heap.get?_push_of_some _ e
  have hne : ∀ b o, s.heap.get? b = some o → b ≠ s.heap.objs.size := fun b o e q => absurd (Heap.lt_size e) (by rw [q]; exact Nat.lt_irrefl _)
  refine sub_loop (L := s.heap.objs.size) S0 hg0 hk hT hl (t.length + 1) 0 0 A _ [] [] _ (by omega) (Nat.zero_le _) (hp.keeps kp) (fun h' hh => hp.keeps fun b o e => hh b o (hne b o e) (kp b o e)) ⟨_, Heap.get?_push_size _ rfl⟩ rfl (fun x hx => nomatch hx) (Nat.zero_le _) ?_
  rintro v h' k ⟨k', rfl⟩ hh
  exact ⟨.str _ _, .of fun b o e => hh b o (hne b o e) (kp b o e)⟩
end
section
variable {C : Cx} {ρ : Rho}
/-- pat.sub('', e) -/
theorem Ev.sub {o e : Expr} {apos pos kp : Pos} {k : Nat} {x : Str} {a : Addr} {r : PatRec} {t : List Nat} (ho : Ev C ρ o (.raw (.ref a))) (hp : IsPattern C.hB a r) (S0 : NlAll r.code.toArray) (hg0 : r.groups = 0) (hk : r.kind = 0) (hx : x.cps.toList = []) (he : Ev C ρ e (.str t)) (hT : ∀ c ∈ t, c ∈ alpha) (hl : t.length < 1000)
    (hb : attributeBase o "sub" C.env (eval o C.env) = eval o C.env) (hlp : (apos.endLine == pos.line) = true) (h1 : starEach [.Constant (.str x) k kp, e] C.env = (false, eval (.Constant (.str x) k kp) C.env) :: starEach [e] C.env) (h2 : starEach [e] C.env = (false, eval e C.env) :: starEach [] C.env) :
    Ev C ρ (.Call (.Attribute o "sub" apos) [.Constant (.str x) k kp, e] [] pos) (.str (subFrom t (t.length + 1) 0)) :=
  Ev.meth ho plainAttrs_pat slot_pat_sub type_pat_sub (fun s v σ q => by cases q; exact pat_type (hp.keeps σ.base)) (fun s v σ q => by
    cases q
    refine callWith_method1 (wpAny_mono (Evs.cons (Ev.cstr hx) (Evs.cons he Evs.nil h2) h1 s pos σ) (fun vs s1 q1 => ?_) fun _ _ x => x) h1 (by rw [h2]; rfl)
    obtain ⟨r1, k1⟩ := q1
    obtain ⟨v1, v2, rfl, e1, e2⟩ := r1.two
    cases e1; cases e2
    have σ1 := σ.le k1
    exact wpAny_mono (sub_call S0 hg0 hk hT hl (hp.keeps σ1.base)) (fun v s2 q2 => ⟨q2.1, k1.1.trans q2.2⟩) fun _ _ x => x) hb (by rw [h1, h2]; rfl) hlp
end
end Mine
end
section
open PySem
set_option Elab.async false
set_option linter.unusedVariables false
set_option maxRecDepth 100000
namespace Mine
open PySem.Sre
def pats : List PySem.Flt.PatRec := PySem.Flt.patsOf PySem.Challenge.pw_vu0001_01
def codeOf (i : Nat) : Array Nat := (((pats[i]?).map (·.code)).getD []).toArray
def accOk (code : Array Nat) (i : Nat) (p : Nat → Bool) : Bool := alpha.all fun c => match acc code i c with | some b => b == p c | none => false
theorem Acc.of {code : Array Nat} {i : Nat} {p : Nat → Bool} (h : accOk code i p = true) : Acc code i p := fun c hc => by
  have := List.all_eq_true.mp h c hc
  cases q : acc code i c with
  | none => rw [q] at this; cases this
  | some b => rw [q] at this; rw [beq_iff_eq.mp this]
def wdOk (code : Array Nat) (pc n wd : Nat) (p : Nat → Bool) : Bool := code.getD pc 0 == n && (n == 13 || n == 16 || n == 39) && accOk code pc p && itemWidth code pc == wd
theorem Wd.of {code : Array Nat} {pc n wd : Nat} {p : Nat → Bool} (h : wdOk code pc n wd p = true) : Wd code pc n wd p := by
  unfold wdOk at h
  simp only [Bool.and_eq_true, Bool.or_eq_true, beq_iff_eq] at h
  exact ⟨h.1.1.1, by rcases h.1.1.2 with (h | h) | h <;> simp [h], Acc.of h.1.2, h.2⟩
def atOk (code : Array Nat) (k v : Nat) : Bool := code.getD k 0 == v
theorem At'.of {code : Array Nat} {k v : Nat} (h : atOk code k v = true) : code.getD k 0 = v := beq_iff_eq.mp h
def hdOk (code : Array Nat) (a b : Nat) : Bool := (header code).1 == a && (header code).2 == b
theorem hd_of {code : Array Nat} {a b : Nat} (h : hdOk code a b = true) : header code = (a, b) := by
  unfold hdOk at h
  rw [Bool.and_eq_true, beq_iff_eq, beq_iff_eq] at h
  exact Prod.ext h.1 h.2
def okOpt (code : Array Nat) (o : Nat) : Bool := atOk code o 23 && (atOk code (o + 1) 27 && (atOk code (o + 2) 0 && (atOk code (o + 3) 1 && (atOk code (o + 4) 7 && (atOk code (o + 5) 7 && (wdOk code (o + 6) 16 2 (is 13) && (wdOk code (o + 8) 16 2 (is 10) && (atOk code (o + 10) 15 && (atOk code (o + 11) 17 && (atOk code (o + 12) 15 && (wdOk code (o + 13) 13 12 isWs && (atOk code (o + 25) 15 && (atOk code (o + 26) 2 && (atOk code (o + 27) 0 && (atOk code (o + 28) 18)))))))))))))))
theorem ofOpt {code : Array Nat} {o : Nat} (h : okOpt code o = true) : OptCode code o := by
  unfold okOpt at h
  obtain ⟨h0, h⟩ := (Bool.and_eq_true_iff (x := atOk code o 23)).mp h
  obtain ⟨h1, h⟩ := (Bool.and_eq_true_iff (x := atOk code (o + 1) 27)).mp h
  obtain ⟨h2, h⟩ := (Bool.and_eq_true_iff (x := atOk code (o + 2) 0)).mp h
  obtain ⟨h3, h⟩ := (Bool.and_eq_true_iff (x := atOk code (o + 3) 1)).mp h
  obtain ⟨h4, h⟩ := (Bool.and_eq_true_iff (x := atOk code (o + 4) 7)).mp h
  obtain ⟨h5, h⟩ := (Bool.and_eq_true_iff (x := atOk code (o + 5) 7)).mp h
  obtain ⟨h6, h⟩ := (Bool.and_eq_true_iff (x := wdOk code (o + 6) 16 2 (is 13))).mp h
  obtain ⟨h7, h⟩ := (Bool.and_eq_true_iff (x := wdOk code (o + 8) 16 2 (is 10))).mp h
  obtain ⟨h8, h⟩ := (Bool.and_eq_true_iff (x := atOk code (o + 10) 15)).mp h
  obtain ⟨h9, h⟩ := (Bool.and_eq_true_iff (x := atOk code (o + 11) 17)).mp h
  obtain ⟨h10, h⟩ := (Bool.and_eq_true_iff (x := atOk code (o + 12) 15)).mp h
  obtain ⟨h11, h⟩ := (Bool.and_eq_true_iff (x := wdOk code (o + 13) 13 12 isWs)).mp h
  obtain ⟨h12, h⟩ := (Bool.and_eq_true_iff (x := atOk code (o + 25) 15)).mp h
  obtain ⟨h13, h⟩ := (Bool.and_eq_true_iff (x := atOk code (o + 26) 2)).mp h
  obtain ⟨h14, h⟩ := (Bool.and_eq_true_iff (x := atOk code (o + 27) 0)).mp h
  exact ⟨At'.of h0, At'.of h1, At'.of h2, At'.of h3, At'.of h4, At'.of h5, Wd.of h6, Wd.of h7, At'.of h8, At'.of h9, At'.of h10, Wd.of h11, At'.of h12, At'.of h13, At'.of h14, At'.of h⟩
def okEsc (code : Array Nat) (o g : Nat) : Bool := wdOk code o 16 2 (is 92) && (atOk code (o + 2) 17 && (atOk code (o + 3) (2 * g) && (atOk code (o + 4) 24 && (atOk code (o + 5) 13 && (atOk code (o + 6) 1 && (atOk code (o + 7) 6 && (accOk code (o + 8) isHex && (atOk code (o + 18) 17 && (atOk code (o + 19) (2 * g + 1) && (okOpt code (o + 20)))))))))))
theorem ofEsc {code : Array Nat} {o g : Nat} (h : okEsc code o g = true) : EscCode code o g := by
  unfold okEsc at h
  obtain ⟨h0, h⟩ := (Bool.and_eq_true_iff (x := wdOk code o 16 2 (is 92))).mp h
  obtain ⟨h1, h⟩ := (Bool.and_eq_true_iff (x := atOk code (o + 2) 17)).mp h
  obtain ⟨h2, h⟩ := (Bool.and_eq_true_iff (x := atOk code (o + 3) (2 * g))).mp h
  obtain ⟨h3, h⟩ := (Bool.and_eq_true_iff (x := atOk code (o + 4) 24)).mp h
  obtain ⟨h4, h⟩ := (Bool.and_eq_true_iff (x := atOk code (o + 5) 13)).mp h
  obtain ⟨h5, h⟩ := (Bool.and_eq_true_iff (x := atOk code (o + 6) 1)).mp h
  obtain ⟨h6, h⟩ := (Bool.and_eq_true_iff (x := atOk code (o + 7) 6)).mp h
  obtain ⟨h7, h⟩ := (Bool.and_eq_true_iff (x := accOk code (o + 8) isHex)).mp h
  obtain ⟨h8, h⟩ := (Bool.and_eq_true_iff (x := atOk code (o + 18) 17)).mp h
  obtain ⟨h9, h⟩ := (Bool.and_eq_true_iff (x := atOk code (o + 19) (2 * g + 1))).mp h
  exact ⟨Wd.of h0, At'.of h1, At'.of h2, At'.of h3, At'.of h4, At'.of h5, At'.of h6, Acc.of h7, At'.of h8, At'.of h9, ofOpt h⟩
def okTwo (code : Array Nat) (o : Nat) : Bool := wdOk code o 16 2 (is 92) && (wdOk code (o + 2) 39 13 isPlainEsc)
theorem ofTwo {code : Array Nat} {o : Nat} (h : okTwo code o = true) : TwoCode code o 13 isPlainEsc := by
  unfold okTwo at h
  obtain ⟨h0, h⟩ := (Bool.and_eq_true_iff (x := wdOk code o 16 2 (is 92))).mp h
  exact ⟨Wd.of h0, ⟨_, Wd.of h⟩⟩
def okNl (code : Array Nat) (o : Nat) : Bool := atOk code o 7 && (atOk code (o + 1) 5 && (wdOk code (o + 2) 16 2 (is 10) && (atOk code (o + 4) 15 && (atOk code (o + 5) 19 && (atOk code (o + 6) 7 && (wdOk code (o + 7) 16 2 (is 13) && (wdOk code (o + 9) 16 2 (is 10) && (atOk code (o + 11) 15 && (atOk code (o + 12) 12 && (atOk code (o + 13) 5 && (wdOk code (o + 14) 16 2 (is 13) && (atOk code (o + 16) 15 && (atOk code (o + 17) 7 && (atOk code (o + 18) 5 && (wdOk code (o + 19) 16 2 (is 12) && (atOk code (o + 21) 15 && (atOk code (o + 22) 2 && (atOk code (o + 23) 0))))))))))))))))))
theorem ofNl {code : Array Nat} {o : Nat} (h : okNl code o = true) : NlCode code o := by
  unfold okNl at h
  obtain ⟨h0, h⟩ := (Bool.and_eq_true_iff (x := atOk code o 7)).mp h
  obtain ⟨h1, h⟩ := (Bool.and_eq_true_iff (x := atOk code (o + 1) 5)).mp h
  obtain ⟨h2, h⟩ := (Bool.and_eq_true_iff (x := wdOk code (o + 2) 16 2 (is 10))).mp h
  obtain ⟨h3, h⟩ := (Bool.and_eq_true_iff (x := atOk code (o + 4) 15)).mp h
  obtain ⟨h4, h⟩ := (Bool.and_eq_true_iff (x := atOk code (o + 5) 19)).mp h
  obtain ⟨h5, h⟩ := (Bool.and_eq_true_iff (x := atOk code (o + 6) 7)).mp h
  obtain ⟨h6, h⟩ := (Bool.and_eq_true_iff (x := wdOk code (o + 7) 16 2 (is 13))).mp h
  obtain ⟨h7, h⟩ := (Bool.and_eq_true_iff (x := wdOk code (o + 9) 16 2 (is 10))).mp h
  obtain ⟨h8, h⟩ := (Bool.and_eq_true_iff (x := atOk code (o + 11) 15)).mp h
  obtain ⟨h9, h⟩ := (Bool.and_eq_true_iff (x := atOk code (o + 12) 12)).mp h
  obtain ⟨h10, h⟩ := (Bool.and_eq_true_iff (x := atOk code (o + 13) 5)).mp h
  obtain ⟨h11, h⟩ := (Bool.and_eq_true_iff (x := wdOk code (o + 14) 16 2 (is 13))).mp h
  obtain ⟨h12, h⟩ := (Bool.and_eq_true_iff (x := atOk code (o + 16) 15)).mp h
  obtain ⟨h13, h⟩ := (Bool.and_eq_true_iff (x := atOk code (o + 17) 7)).mp h
  obtain ⟨h14, h⟩ := (Bool.and_eq_true_iff (x := atOk code (o + 18) 5)).mp h
  obtain ⟨h15, h⟩ := (Bool.and_eq_true_iff (x := wdOk code (o + 19) 16 2 (is 12))).mp h
  obtain ⟨h16, h⟩ := (Bool.and_eq_true_iff (x := atOk code (o + 21) 15)).mp h
  obtain ⟨h17, h⟩ := (Bool.and_eq_true_iff (x := atOk code (o + 22) 2)).mp h
  exact ⟨At'.of h0, At'.of h1, Wd.of h2, At'.of h3, At'.of h4, At'.of h5, Wd.of h6, Wd.of h7, At'.of h8, At'.of h9, At'.of h10, Wd.of h11, At'.of h12, At'.of h13, At'.of h14, Wd.of h15, At'.of h16, At'.of h17, At'.of h⟩
def okName (code : Array Nat) (o g : Nat) (set : Nat → Bool) : Bool := atOk code o 7 && (atOk code (o + 1) 96 && (wdOk code (o + 2) 39 93 set && (atOk code (o + 95) 15 && (atOk code (o + 96) 169 && (atOk code (o + 97) 52 && (okEsc code (o + 98) g && (atOk code (o + 147) 15 && (atOk code (o + 148) 117 && (atOk code (o + 149) 18 && (okTwo code (o + 150) && (atOk code (o + 165) 15 && (atOk code (o + 166) 99 && (atOk code (o + 167) 97 && (wdOk code (o + 168) 39 94 (fun c => decide (c > 127)) && (atOk code (o + 262) 15 && (atOk code (o + 263) 2 && (atOk code (o + 264) 0)))))))))))))))))
theorem ofName {code : Array Nat} {o g : Nat} {set : Nat → Bool} (h : okName code o g set = true) : NameCode code o g set := by
  unfold okName at h
  obtain ⟨h0, h⟩ := (Bool.and_eq_true_iff (x := atOk code o 7)).mp h
  obtain ⟨h1, h⟩ := (Bool.and_eq_true_iff (x := atOk code (o + 1) 96)).mp h
  obtain ⟨h2, h⟩ := (Bool.and_eq_true_iff (x := wdOk code (o + 2) 39 93 set)).mp h
  obtain ⟨h3, h⟩ := (Bool.and_eq_true_iff (x := atOk code (o + 95) 15)).mp h
  obtain ⟨h4, h⟩ := (Bool.and_eq_true_iff (x := atOk code (o + 96) 169)).mp h
  obtain ⟨h5, h⟩ := (Bool.and_eq_true_iff (x := atOk code (o + 97) 52)).mp h
  obtain ⟨h6, h⟩ := (Bool.and_eq_true_iff (x := okEsc code (o + 98) g)).mp h
  obtain ⟨h7, h⟩ := (Bool.and_eq_true_iff (x := atOk code (o + 147) 15)).mp h
  obtain ⟨h8, h⟩ := (Bool.and_eq_true_iff (x := atOk code (o + 148) 117)).mp h
  obtain ⟨h9, h⟩ := (Bool.and_eq_true_iff (x := atOk code (o + 149) 18)).mp h
  obtain ⟨h10, h⟩ := (Bool.and_eq_true_iff (x := okTwo code (o + 150))).mp h
  obtain ⟨h11, h⟩ := (Bool.and_eq_true_iff (x := atOk code (o + 165) 15)).mp h
  obtain ⟨h12, h⟩ := (Bool.and_eq_true_iff (x := atOk code (o + 166) 99)).mp h
  obtain ⟨h13, h⟩ := (Bool.and_eq_true_iff (x := atOk code (o + 167) 97)).mp h
  obtain ⟨h14, h⟩ := (Bool.and_eq_true_iff (x := wdOk code (o + 168) 39 94 (fun c => decide (c > 127)))).mp h
  obtain ⟨h15, h⟩ := (Bool.and_eq_true_iff (x := atOk code (o + 262) 15)).mp h
  obtain ⟨h16, h⟩ := (Bool.and_eq_true_iff (x := atOk code (o + 263) 2)).mp h
  exact ⟨At'.of h0, At'.of h1, Wd.of h2, At'.of h3, At'.of h4, At'.of h5, ofEsc h6, At'.of h7, At'.of h8, At'.of h9, ofTwo h10, At'.of h11, At'.of h12, At'.of h13, Wd.of h14, At'.of h15, At'.of h16, At'.of h⟩
def okBody (code : Array Nat) (q : Nat) : Bool := atOk code 9 17 && (atOk code 10 0 && (atOk code 11 7 && (atOk code 12 16 && (wdOk code 13 13 13 (fun c => !decide (c ∈ [10, 13, 12, 92, q])) && (atOk code 26 15 && (atOk code 27 101 && (atOk code 28 29 && (wdOk code 29 16 2 (is 92) && (okNl code 31 && (atOk code 55 15 && (atOk code 56 72 && (atOk code 57 52 && (okEsc code 58 1 && (atOk code 107 15 && (atOk code 108 20 && (atOk code 109 18 && (okTwo code 110 && (atOk code 125 15 && (atOk code 126 2 && (atOk code 127 0 && (atOk code 128 17 && (atOk code 129 1))))))))))))))))))))))
theorem ofBody {code : Array Nat} {q : Nat} (h : okBody code q = true) : StrCode code q := by
  unfold okBody at h
  obtain ⟨h0, h⟩ := (Bool.and_eq_true_iff (x := atOk code 9 17)).mp h
  obtain ⟨h1, h⟩ := (Bool.and_eq_true_iff (x := atOk code 10 0)).mp h
  obtain ⟨h2, h⟩ := (Bool.and_eq_true_iff (x := atOk code 11 7)).mp h
  obtain ⟨h3, h⟩ := (Bool.and_eq_true_iff (x := atOk code 12 16)).mp h
  obtain ⟨h4, h⟩ := (Bool.and_eq_true_iff (x := wdOk code 13 13 13 (fun c => !decide (c ∈ [10, 13, 12, 92, q])))).mp h
  obtain ⟨h5, h⟩ := (Bool.and_eq_true_iff (x := atOk code 26 15)).mp h
  obtain ⟨h6, h⟩ := (Bool.and_eq_true_iff (x := atOk code 27 101)).mp h
  obtain ⟨h7, h⟩ := (Bool.and_eq_true_iff (x := atOk code 28 29)).mp h
  obtain ⟨h8, h⟩ := (Bool.and_eq_true_iff (x := wdOk code 29 16 2 (is 92))).mp h
  obtain ⟨h9, h⟩ := (Bool.and_eq_true_iff (x := okNl code 31)).mp h
  obtain ⟨h10, h⟩ := (Bool.and_eq_true_iff (x := atOk code 55 15)).mp h
  obtain ⟨h11, h⟩ := (Bool.and_eq_true_iff (x := atOk code 56 72)).mp h
  obtain ⟨h12, h⟩ := (Bool.and_eq_true_iff (x := atOk code 57 52)).mp h
  obtain ⟨h13, h⟩ := (Bool.and_eq_true_iff (x := okEsc code 58 1)).mp h
  obtain ⟨h14, h⟩ := (Bool.and_eq_true_iff (x := atOk code 107 15)).mp h
  obtain ⟨h15, h⟩ := (Bool.and_eq_true_iff (x := atOk code 108 20)).mp h
  obtain ⟨h16, h⟩ := (Bool.and_eq_true_iff (x := atOk code 109 18)).mp h
  obtain ⟨h17, h⟩ := (Bool.and_eq_true_iff (x := okTwo code 110)).mp h
  obtain ⟨h18, h⟩ := (Bool.and_eq_true_iff (x := atOk code 125 15)).mp h
  obtain ⟨h19, h⟩ := (Bool.and_eq_true_iff (x := atOk code 126 2)).mp h
  obtain ⟨h20, h⟩ := (Bool.and_eq_true_iff (x := atOk code 127 0)).mp h
  obtain ⟨h21, h⟩ := (Bool.and_eq_true_iff (x := atOk code 128 17)).mp h
  exact ⟨At'.of h0, At'.of h1, At'.of h2, At'.of h3, Wd.of h4, At'.of h5, At'.of h6, At'.of h7, Wd.of h8, ofNl h9, At'.of h10, At'.of h11, At'.of h12, ofEsc h13, At'.of h14, At'.of h15, At'.of h16, ofTwo h17, At'.of h18, At'.of h19, At'.of h20, At'.of h21, At'.of h⟩
def okStr (code : Array Nat) (q : Nat) : Bool := hdOk code 0 5 && (atOk code 5 23 && (atOk code 6 124 && (atOk code 7 0 && (atOk code 8 maxRepeat && (okBody code q && (atOk code 130 18 && (atOk code 131 1)))))))
theorem ofStr {code : Array Nat} {q : Nat} (h : okStr code q = true) : StrAll code q := by
  unfold okStr at h
  obtain ⟨h0, h⟩ := (Bool.and_eq_true_iff (x := hdOk code 0 5)).mp h
  obtain ⟨h1, h⟩ := (Bool.and_eq_true_iff (x := atOk code 5 23)).mp h
  obtain ⟨h2, h⟩ := (Bool.and_eq_true_iff (x := atOk code 6 124)).mp h
  obtain ⟨h3, h⟩ := (Bool.and_eq_true_iff (x := atOk code 7 0)).mp h
  obtain ⟨h4, h⟩ := (Bool.and_eq_true_iff (x := atOk code 8 maxRepeat)).mp h
  obtain ⟨h5, h⟩ := (Bool.and_eq_true_iff (x := okBody code q)).mp h
  obtain ⟨h6, h⟩ := (Bool.and_eq_true_iff (x := atOk code 130 18)).mp h
  exact ⟨hd_of h0, At'.of h1, At'.of h2, At'.of h3, At'.of h4, ofBody h5, At'.of h6, At'.of h⟩
def okWs (code : Array Nat)  : Bool := hdOk code 1 5 && (atOk code 5 24 && (atOk code 6 16 && (atOk code 7 1 && (atOk code 8 maxRepeat && (accOk code 9 isWs && (atOk code 22 1))))))
theorem ofWs {code : Array Nat}  (h : okWs code  = true) : WsCode code := by
  unfold okWs at h
  obtain ⟨h0, h⟩ := (Bool.and_eq_true_iff (x := hdOk code 1 5)).mp h
  obtain ⟨h1, h⟩ := (Bool.and_eq_true_iff (x := atOk code 5 24)).mp h
  obtain ⟨h2, h⟩ := (Bool.and_eq_true_iff (x := atOk code 6 16)).mp h
  obtain ⟨h3, h⟩ := (Bool.and_eq_true_iff (x := atOk code 7 1)).mp h
  obtain ⟨h4, h⟩ := (Bool.and_eq_true_iff (x := atOk code 8 maxRepeat)).mp h
  obtain ⟨h5, h⟩ := (Bool.and_eq_true_iff (x := accOk code 9 isWs)).mp h
  exact ⟨hd_of h0, At'.of h1, At'.of h2, At'.of h3, At'.of h4, Acc.of h5, At'.of h⟩
def okNum (code : Array Nat)  : Bool := hdOk code 1 5 && (atOk code 5 24 && (atOk code 6 11 && (atOk code 7 0 && (atOk code 8 1 && (accOk code 9 isSign && (atOk code 17 7 && (atOk code 18 27 && (atOk code 19 24 && (atOk code 20 10 && (atOk code 21 0 && (atOk code 22 maxRepeat && (accOk code 23 isFig && (wdOk code 30 16 2 (is 46) && (atOk code 32 24 && (atOk code 33 10 && (atOk code 34 1 && (atOk code 35 maxRepeat && (accOk code 36 isFig && (atOk code 43 15 && (atOk code 44 16 && (atOk code 45 14 && (atOk code 46 24 && (atOk code 47 10 && (atOk code 48 1 && (atOk code 49 maxRepeat && (accOk code 50 isFig && (atOk code 57 15 && (atOk code 58 2 && (atOk code 59 0 && (atOk code 60 1))))))))))))))))))))))))))))))
theorem ofNum {code : Array Nat}  (h : okNum code  = true) : NumCode code := by
  unfold okNum at h
  obtain ⟨h0, h⟩ := (Bool.and_eq_true_iff (x := hdOk code 1 5)).mp h
  obtain ⟨h1, h⟩ := (Bool.and_eq_true_iff (x := atOk code 5 24)).mp h
  obtain ⟨h2, h⟩ := (Bool.and_eq_true_iff (x := atOk code 6 11)).mp h
  obtain ⟨h3, h⟩ := (Bool.and_eq_true_iff (x := atOk code 7 0)).mp h
  obtain ⟨h4, h⟩ := (Bool.and_eq_true_iff (x := atOk code 8 1)).mp h
  obtain ⟨h5, h⟩ := (Bool.and_eq_true_iff (x := accOk code 9 isSign)).mp h
  obtain ⟨h6, h⟩ := (Bool.and_eq_true_iff (x := atOk code 17 7)).mp h
  obtain ⟨h7, h⟩ := (Bool.and_eq_true_iff (x := atOk code 18 27)).mp h
  obtain ⟨h8, h⟩ := (Bool.and_eq_true_iff (x := atOk code 19 24)).mp h
  obtain ⟨h9, h⟩ := (Bool.and_eq_true_iff (x := atOk code 20 10)).mp h
  obtain ⟨h10, h⟩ := (Bool.and_eq_true_iff (x := atOk code 21 0)).mp h
  obtain ⟨h11, h⟩ := (Bool.and_eq_true_iff (x := atOk code 22 maxRepeat)).mp h
  obtain ⟨h12, h⟩ := (Bool.and_eq_true_iff (x := accOk code 23 isFig)).mp h
  obtain ⟨h13, h⟩ := (Bool.and_eq_true_iff (x := wdOk code 30 16 2 (is 46))).mp h
  obtain ⟨h14, h⟩ := (Bool.and_eq_true_iff (x := atOk code 32 24)).mp h
  obtain ⟨h15, h⟩ := (Bool.and_eq_true_iff (x := atOk code 33 10)).mp h
  obtain ⟨h16, h⟩ := (Bool.and_eq_true_iff (x := atOk code 34 1)).mp h
  obtain ⟨h17, h⟩ := (Bool.and_eq_true_iff (x := atOk code 35 maxRepeat)).mp h
  obtain ⟨h18, h⟩ := (Bool.and_eq_true_iff (x := accOk code 36 isFig)).mp h
  obtain ⟨h19, h⟩ := (Bool.and_eq_true_iff (x := atOk code 43 15)).mp h
  obtain ⟨h20, h⟩ := (Bool.and_eq_true_iff (x := atOk code 44 16)).mp h
  obtain ⟨h21, h⟩ := (Bool.and_eq_true_iff (x := atOk code 45 14)).mp h
  obtain ⟨h22, h⟩ := (Bool.and_eq_true_iff (x := atOk code 46 24)).mp h
  obtain ⟨h23, h⟩ := (Bool.and_eq_true_iff (x := atOk code 47 10)).mp h
  obtain ⟨h24, h⟩ := (Bool.and_eq_true_iff (x := atOk code 48 1)).mp h
  obtain ⟨h25, h⟩ := (Bool.and_eq_true_iff (x := atOk code 49 maxRepeat)).mp h
  obtain ⟨h26, h⟩ := (Bool.and_eq_true_iff (x := accOk code 50 isFig)).mp h
  obtain ⟨h27, h⟩ := (Bool.and_eq_true_iff (x := atOk code 57 15)).mp h
  obtain ⟨h28, h⟩ := (Bool.and_eq_true_iff (x := atOk code 58 2)).mp h
  obtain ⟨h29, h⟩ := (Bool.and_eq_true_iff (x := atOk code 59 0)).mp h
  exact ⟨hd_of h0, At'.of h1, At'.of h2, At'.of h3, At'.of h4, Acc.of h5, At'.of h6, At'.of h7, At'.of h8, At'.of h9, At'.of h10, At'.of h11, Acc.of h12, Wd.of h13, At'.of h14, At'.of h15, At'.of h16, At'.of h17, Acc.of h18, At'.of h19, At'.of h20, At'.of h21, At'.of h22, At'.of h23, At'.of h24, At'.of h25, Acc.of h26, At'.of h27, At'.of h28, At'.of h29, At'.of h⟩
def okHash (code : Array Nat)  : Bool := hdOk code 2 9 && (wdOk code 9 16 2 (is 35) && (atOk code 11 23 && (atOk code 12 268 && (atOk code 13 1 && (atOk code 14 maxRepeat && (okName code 15 0 isName && (atOk code 280 18 && (atOk code 281 1))))))))
theorem ofHash {code : Array Nat}  (h : okHash code  = true) : HashCode code := by
  unfold okHash at h
  obtain ⟨h0, h⟩ := (Bool.and_eq_true_iff (x := hdOk code 2 9)).mp h
  obtain ⟨h1, h⟩ := (Bool.and_eq_true_iff (x := wdOk code 9 16 2 (is 35))).mp h
  obtain ⟨h2, h⟩ := (Bool.and_eq_true_iff (x := atOk code 11 23)).mp h
  obtain ⟨h3, h⟩ := (Bool.and_eq_true_iff (x := atOk code 12 268)).mp h
  obtain ⟨h4, h⟩ := (Bool.and_eq_true_iff (x := atOk code 13 1)).mp h
  obtain ⟨h5, h⟩ := (Bool.and_eq_true_iff (x := atOk code 14 maxRepeat)).mp h
  obtain ⟨h6, h⟩ := (Bool.and_eq_true_iff (x := okName code 15 0 isName)).mp h
  obtain ⟨h7, h⟩ := (Bool.and_eq_true_iff (x := atOk code 280 18)).mp h
  exact ⟨hd_of h0, Wd.of h1, At'.of h2, At'.of h3, At'.of h4, At'.of h5, ofName h6, At'.of h7, At'.of h⟩
def okIdent (code : Array Nat)  : Bool := hdOk code 1 5 && (atOk code 5 24 && (atOk code 6 6 && (atOk code 7 0 && (atOk code 8 1 && (accOk code 9 (is 45) && (okName code 12 0 isStart && (atOk code 277 23 && (atOk code 278 268 && (atOk code 279 0 && (atOk code 280 maxRepeat && (okName code 281 1 isName && (atOk code 546 18 && (atOk code 547 1)))))))))))))
theorem ofIdent {code : Array Nat}  (h : okIdent code  = true) : IdentCode code := by
  unfold okIdent at h
  obtain ⟨h0, h⟩ := (Bool.and_eq_true_iff (x := hdOk code 1 5)).mp h
  obtain ⟨h1, h⟩ := (Bool.and_eq_true_iff (x := atOk code 5 24)).mp h
  obtain ⟨h2, h⟩ := (Bool.and_eq_true_iff (x := atOk code 6 6)).mp h
  obtain ⟨h3, h⟩ := (Bool.and_eq_true_iff (x := atOk code 7 0)).mp h
  obtain ⟨h4, h⟩ := (Bool.and_eq_true_iff (x := atOk code 8 1)).mp h
  obtain ⟨h5, h⟩ := (Bool.and_eq_true_iff (x := accOk code 9 (is 45))).mp h
  obtain ⟨h6, h⟩ := (Bool.and_eq_true_iff (x := okName code 12 0 isStart)).mp h
  obtain ⟨h7, h⟩ := (Bool.and_eq_true_iff (x := atOk code 277 23)).mp h
  obtain ⟨h8, h⟩ := (Bool.and_eq_true_iff (x := atOk code 278 268)).mp h
  obtain ⟨h9, h⟩ := (Bool.and_eq_true_iff (x := atOk code 279 0)).mp h
  obtain ⟨h10, h⟩ := (Bool.and_eq_true_iff (x := atOk code 280 maxRepeat)).mp h
  obtain ⟨h11, h⟩ := (Bool.and_eq_true_iff (x := okName code 281 1 isName)).mp h
  obtain ⟨h12, h⟩ := (Bool.and_eq_true_iff (x := atOk code 546 18)).mp h
  exact ⟨hd_of h0, At'.of h1, At'.of h2, At'.of h3, At'.of h4, Acc.of h5, ofName h6, At'.of h7, At'.of h8, At'.of h9, At'.of h10, ofName h11, At'.of h12, At'.of h⟩
def okUni (code : Array Nat)  : Bool := hdOk code 2 9 && (okEsc code 9 0 && (atOk code 58 1))
theorem ofUni {code : Array Nat}  (h : okUni code  = true) : UniCode code := by
  unfold okUni at h
  obtain ⟨h0, h⟩ := (Bool.and_eq_true_iff (x := hdOk code 2 9)).mp h
  obtain ⟨h1, h⟩ := (Bool.and_eq_true_iff (x := okEsc code 9 0)).mp h
  exact ⟨hd_of h0, ofEsc h1, At'.of h⟩
theorem str_code0 : StrAll (codeOf 0) 39 := ofStr (by decide +kernel)
theorem str_code1 : StrAll (codeOf 1) 34 := ofStr (by decide +kernel)
theorem ws_code : WsCode (codeOf 2) := ofWs (by decide +kernel)
theorem num_code : NumCode (codeOf 3) := ofNum (by decide +kernel)
theorem hash_code : HashCode (codeOf 4) := ofHash (by decide +kernel)
theorem ident_code : IdentCode (codeOf 5) := ofIdent (by decide +kernel)
theorem uni_code : UniCode (codeOf 6) := ofUni (by decide +kernel)
end Mine
end
section
open PySem
set_option Elab.async false
set_option linter.unusedVariables false
set_option maxRecDepth 100000
namespace Mine
open PySem.Sre
def okNlAll (code : Array Nat) : Bool := hdOk code 2 9 && (atOk code 0 14 && (atOk code 2 1 && (wdOk code 9 16 2 (is 92) && (okNl code 11 && atOk code 35 1))))
theorem ofNlAll {code : Array Nat} (h : okNlAll code = true) : NlAll code := by
  unfold okNlAll at h
  simp only [Bool.and_eq_true] at h
  exact ⟨hd_of h.1, At'.of h.2.1, At'.of h.2.2.1, Wd.of h.2.2.2.1, ofNl h.2.2.2.2.1, At'.of h.2.2.2.2.2⟩
theorem nl_code : NlAll (codeOf 7) := ofNlAll (by decide +kernel)
end Mine
end
section
open PySem PySem.W PyProof.Rows PySem.Calls
set_option Elab.async false
set_option linter.unusedVariables false
set_option linter.unusedSimpArgs false
set_option maxRecDepth 100000
namespace Mine
def patR (i : Nat) : PySem.Flt.PatRec := (pats[i]?).getD ⟨"", [], 0, 0⟩
theorem codeOf_is (i : Nat) (h : i < pats.length) : (patR i).code.toArray = codeOf i := by
  unfold patR codeOf
  rw [List.getElem?_eq_getElem h]
  rfl
theorem pats_len : pats.length = 8 := by decide +kernel
theorem pat_mem (i : Nat) (h : i < 8) : patR i ∈ pats := by
  have h : i < pats.length := by rw [pats_len]; exact h
  unfold patR
  rw [List.getElem?_eq_getElem h]
  exact List.getElem_mem h
theorem pat_facts : ∀ i, i < 8 → (patR i).kind = 0 ∧ (patR i).groups ≤ 3 := by
  have : ∀ i ∈ List.range 8, (patR i).kind = 0 ∧ (patR i).groups ≤ 3 := by decide +kernel
  exact fun i h => this i (List.mem_range.mpr h)
section
variable {prog : Program} {w : World} {hB : Heap}
theorem Base.pat (B : Base prog w hB) (i : Nat) (h : i < 8) : ∃ a, GlobIs hB (patR i).name (.ref a) ∧ PySem.Flt.IsPattern hB a (patR i) := B.pats _ (pat_mem i h)
theorem replaces (B : Base prog w hB) (t : List Nat) (b e x y : Nat) (ht : t.length < 1000) (hx : ∀ c ∈ (t.drop x).take (y - x), c ∈ sixteen) (h0 : (t.drop x).take (y - x) ≠ []) (h6 : ((t.drop x).take (y - x)).length ≤ 6) :
    Can prog w hB "_replace_unicode" 1 [.mat t b e (some (x, y))] (.str [fixed (hexVal ((t.drop x).take (y - x)))]) :=
  Can.of B 1 ["codepoint"] (fun C B h1 h2 h3 hs hn => by
    have ki : C.env.kindOf "int" = some .globalImplicit := kindG hs (by decide +kernel)
    have kc : C.env.kindOf "chr" = some .globalImplicit := kindG hs (by decide +kernel)
    conv => arg 3; whnf
    have hlt : hexVal ((t.drop x).take (y - x)) < 16 ^ 6 := Nat.lt_of_lt_of_le (hexVal_lt _ hx 0) (by rw [Nat.zero_add, Nat.one_mul]; exact Nat.pow_le_pow_right (by decide) h6)
    refine Ex.seq (ρ' := [("match", .val (.mat t b e (some (x, y)))), ("codepoint", .val (.int (hexVal ((t.drop x).take (y - x)))))]) (Ex1.assign (Ev.int16 (Ev.glob (B.bi ("int", _) (by decide +kernel)) ki rfl) (Ev.group1 (Ev.name .here) Ev.cint ht rfl rfl rfl) Ev.cint hx h0 h6 rfl rfl (fun _ => rfl)) (.there .here) rfl rfl) ?_
    generalize hexVal ((t.drop x).take (y - x)) = c at hlt ⊢
    refine Ex.seq (ρ' := [("match", .val (.mat t b e (some (x, y)))), ("codepoint", .val (.int (fixed c)))]) (Ex1.if (Te.or (Tes.or_cons (Te.eq_int (Ev.name (.there .here)) Ev.cint rfl) fun _ => Tes.or_cons (Te.gt (Ev.name (.there .here)) Ev.cint rfl) fun _ => Tes.or_cons (Te.chain Ev.cint (Ev.name (.there .here)) Ev.cint rfl) fun _ => Tes.or_nil))
      (fun h => Ex.cons (Ex1.assign (Ev.cint) (.there .here) (Ex.nil ?_) rfl)) (fun h => Ex.nil ?_)) ?_
    · have : fixed c = 65533 := if_pos (by simp only [Bool.or_eq_true, decide_eq_true_eq, Bool.and_eq_true, Bool.or_false] at h; omega)
      rw [this]; rfl
    · have : fixed c = c := if_neg (by simp only [Bool.or_eq_false_iff, decide_eq_false_iff_not, Bool.and_eq_false_iff] at h; omega)
      rw [this]
    refine Ex.cons (Ex1.ret (Ev.chr (Ev.glob (B.bi ("chr", _) (by decide +kernel)) kc rfl) (Ev.name (.there .here)) (by omega) ?_ rfl) ?_)
    · unfold fixed; split <;> omega
    · rfl)
end
/-- what _sub_unicode_escape makes from p on -/
def unesc (t : List Nat) : Nat → Nat → List Nat
  | 0, _ => []
  | n + 1, p =>
    if p < t.length then
      if escAt t p = true then fixed (hexVal (hexRun t p)) :: unesc t n (wsEnd t (p + 1 + (hexRun t p).length))
      else t.getD p 0 :: unesc t n (p + 1)
    else []
theorem unesc_fuel (t : List Nat) : ∀ n m p, t.length - p ≤ n → t.length - p ≤ m → unesc t n p = unesc t m p := by
  intro n
  induction n with
  | zero =>
    intro m p h1 h2
    cases m with
    | zero => rfl
    | succ m => unfold unesc; rw [if_neg (by omega)]
  | succ n ih =>
    intro m p h1 h2
    cases m with
    | zero => unfold unesc; rw [if_neg (by omega)]
    | succ m =>
      have := wsEnd_ge t (p + 1 + (hexRun t p).length)
      unfold unesc
      split
      · split
        · rw [ih m _ (by omega) (by omega)]
        · rw [ih m (p + 1) (by omega) (by omega)]
      · rfl
end Mine
end
section
open PySem PySem.W PyProof.Rows PySem.Calls
set_option Elab.async false
set_option linter.unusedVariables false
set_option linter.unusedSimpArgs false
set_option maxRecDepth 100000
namespace Mine
theorem tw_take {α : Type} {p : α → Bool} : ∀ l : List α, l.take (l.takeWhile p).length = l.takeWhile p
  | [] => rfl
  | a :: l => by
    rw [List.takeWhile_cons]
    split
    · rw [List.length_cons, List.take_succ_cons, tw_take l]
    · rfl
theorem hexRun_take (t : List Nat) (p : Nat) : (t.drop (p + 1)).take (hexRun t p).length = hexRun t p := by
  have h6 := hexRun_len t p
  have h := tw_take (p := isHex) ((t.drop (p + 1)).take 6)
  rw [List.take_take] at h
  rw [show min ((((t.drop (p + 1)).take 6).takeWhile isHex).length) 6 = (hexRun t p).length by show min (hexRun t p).length 6 = _; omega] at h
  exact h
def uniRes (t : List Nat) (p : Nat) : Option (Nat × Option (Nat × Nat)) := if escAt t p = true then some (wsEnd t (p + 1 + (hexRun t p).length), some (p + 1, p + 1 + (hexRun t p).length)) else none
theorem uni_matG {t : List Nat} {p : Nat} (hT : ∀ c ∈ t, c ∈ alpha) (hl : t.length < 1000) (hp : p < t.length) : MatG (patR 6).code.toArray (patR 6).groups t p (uniRes t p) := by
  rw [codeOf_is 6 (by rw [pats_len]; omega), show (patR 6).groups = 1 by decide +kernel]
  unfold uniRes
  by_cases h : escAt t p = true
  · rw [if_pos h]
    obtain ⟨k, hk, _, mks, hg, hlm, h1, h2, F⟩ := uni_mat uni_code hT hl hp h
    exact ⟨k, hk, mks, hg, .inr ⟨_, _, rfl, Nat.le_refl _, hlm, h1, h2⟩, F⟩
  · rw [if_neg h]
    obtain ⟨k, hk, h⟩ := uni_no uni_code hT hl hp (by simpa using h)
    exact ⟨k, hk, h⟩
section
variable {prog : Program} {w : World} {hB : Heap}
theorem unescs (B : Base prog w hB) (t : List Nat) (ht : t.length < 1000) (hT : ∀ c ∈ t, c ∈ alpha) : Can prog w hB "_sub_unicode_escape" 2 [.str t] (.str (unesc t t.length 0)) :=
  Can.of B 2 ["result", "pos", "match"] (fun C B h1 h2 h3 hs hn => by
    have kl : C.env.kindOf "len" = some .globalImplicit := kindG hs (by decide +kernel)
    have ku : C.env.kindOf "_unicode_escape" = some .globalImplicit := kindG hs (by decide +kernel)
    have kr : C.env.kindOf "_replace_unicode" = some .globalImplicit := kindG hs (by decide +kernel)
    obtain ⟨pa, gp, hpat⟩ := B.pat 6 (by omega)
    have gp : GlobIs C.hB "_unicode_escape" (.ref pa) := gp
    conv => arg 3; whnf
    refine Ex.own (fun o h => ⟨_, h⟩) (fun D hD => Ev.cint) (.there (.there .here)) (fun D hD => ⟨_, .there .here, ?_⟩) rfl (by rw [swap_of hs]; rfl) rfl
    have hf : ∀ ρ pos, Ev (C.with D hD) ρ (.Name "len" pos) (.raw (.builtin "len")) := fun ρ pos => Ev.glob (C := C.with D hD) (B.bi ("len", _) (by decide +kernel)) kl rfl
    have hint : interactive C.env = false := by show (C.env.scope.kind == .module && _) = false; rw [C.kind]; rfl
    generalize hr : unesc t t.length 0 = r
    refine Ex.cons (Ex1.while (fun n ρ => ∃ (p : Nat) (acc : List Nat) (e1 : EV), e1.isOwn = false ∧ n = t.length - p ∧ acc.length ≤ p ∧ acc.length ≤ t.length ∧ acc ++ unesc t (t.length - p) p = r ∧ ρ = ([("value", .val (.str t)), ("result", .own D ((acc.map fun c => [c]).map PV.str)), ("pos", .val (.int p)), ("match", e1)] : Rho)) t.length ⟨0, [], _, rfl, rfl, Nat.le_refl _, Nat.zero_le _, hr, rfl⟩ ?_)
    rintro n ρ1 ⟨p, acc, e1, hown, rfl, hal, hal2, e, rfl⟩
    refine ⟨_, Te.lt (Ev.name (.there (.there .here))) (Ev.len (hf _ _) (Ev.name .here) (by omega) rfl) rfl, fun h => ?_, fun h => ?_⟩
    · have hp : p < t.length := by have := of_decide_eq_true h; omega
      have e' := e
      rw [show t.length - p = (t.length - p - 1) + 1 by omega, unesc, if_pos hp] at e'
      refine Ex.seq (ρ' := [("value", .val (.str t)), ("result", .own D ((acc.map fun c => [c]).map PV.str)), ("pos", .val (.int p)), ("match", .val (pvM t p (uniRes t p)))]) (Ex1.assign (C := C.with D hD) (Ev.match (Ev.glob (C := C.with D hD) gp ku rfl) hpat (pat_facts 6 (by omega)).1 (pat_facts 6 (by omega)).2 (Ev.name .here) (Ev.name (.there (.there .here))) (by omega) ht (uni_matG hT ht hp) rfl rfl rfl rfl) (.there (.there (.there .here))) rfl rfl) ?_
      by_cases hc : escAt t p = true
      · have hu : uniRes t p = some (wsEnd t (p + 1 + (hexRun t p).length), some (p + 1, p + 1 + (hexRun t p).length)) := if_pos hc
        rw [hu]
        rw [if_pos hc] at e'
        have hge := wsEnd_ge t (p + 1 + (hexRun t p).length)
        have htk : (t.drop (p + 1)).take (p + 1 + (hexRun t p).length - (p + 1)) = hexRun t p := by rw [Nat.add_sub_cancel_left]; exact hexRun_take t p
        have hne : hexRun t p ≠ [] := by
          unfold escAt at hc
          simp only [Bool.and_eq_true, decide_eq_true_eq] at hc
          exact hc.2
        refine Ex.seq (ρ' := [("value", .val (.str t)), ("result", .own D (((acc ++ [fixed (hexVal (hexRun t p))]).map fun c => [c]).map PV.str)), ("pos", .val (.int p)), ("match", .val (.mat t p (wsEnd t (p + 1 + (hexRun t p).length)) (some (p + 1, p + 1 + (hexRun t p).length))))]) (Ex1.append (C := C.with D hD) (p := .str [fixed (hexVal (hexRun t p))]) (.there .here) (.head _)
          (Ev.cast (Ev.ifexp (q := .none) (Te.mat (Ev.name (.there (.there (.there .here)))) rfl) (fun _ => Ev.can (C := C.with D hD) (replaces (hB := C.hB) B t p _ (p + 1) (p + 1 + (hexRun t p).length) ht (by rw [htk]; exact fun c => hexRun_mem) (by rw [htk]; exact hne) (by rw [htk]; exact hexRun_len t p)) (Evs.cons (Ev.name (.there (.there (.there .here)))) Evs.nil rfl) (show 1 ≤ C.n by omega) kr rfl rfl) (fun h => by cases h)) (by rw [if_pos rfl, htk])) (by rw [List.map_append, List.map_append]; exact .there .here) rfl (by rw [sizeLine_eq, List.length_map, List.length_map]; omega) rfl rfl rfl rfl rfl hint rfl) ?_
        have hacc : acc.length + 1 ≤ t.length := by omega
        refine Ex.cons (Ex1.assign (C := C.with D hD) (Ev.cast (q := .int (wsEnd t (p + 1 + (hexRun t p).length) : Nat)) (Ev.ifexp (q := .none) (Te.mat (Ev.name (.there (.there (.there .here)))) rfl) (fun _ => Ev.end' (Ev.name (.there (.there (.there .here)))) rfl rfl) (fun h => by cases h)) (if_pos rfl)) (.there (.there .here)) (Ex.nil ⟨_, by omega, _, acc ++ [fixed (hexVal (hexRun t p))], _, rfl, rfl, by rw [List.length_append, List.length_singleton]; omega, by rw [List.length_append, List.length_singleton]; omega, ?_, rfl⟩) rfl)
        rw [List.append_assoc, unesc_fuel t _ (t.length - p - 1) _ (by omega) (by omega)]
        exact e'
      · have hu : uniRes t p = none := if_neg hc
        rw [hu]
        rw [if_neg hc] at e'
        refine Ex.seq (ρ' := [("value", .val (.str t)), ("result", .own D (((acc ++ [t.getD p 0]).map fun c => [c]).map PV.str)), ("pos", .val (.int p)), ("match", .val .none)]) (Ex1.append (C := C.with D hD) (p := .str [t.getD p 0]) (.there .here) (.head _)
          (Ev.cast (Ev.ifexp (p := .none) (Te.none (Ev.name (.there (.there (.there .here)))) rfl) (fun h => by cases h) (fun _ => Ev.idxN (Ev.name .here) (Ev.name (.there (.there .here))) hp (by omega) (fun _ _ => rfl))) (if_neg (by decide))) (by rw [List.map_append, List.map_append]; exact .there .here) rfl (by rw [sizeLine_eq, List.length_map, List.length_map]; omega) rfl rfl rfl rfl rfl hint rfl) ?_
        have hacc : acc.length + 1 ≤ t.length := by omega
        refine Ex.cons (Ex1.assign (C := C.with D hD) (Ev.cast (q := .int (p + 1 : Nat)) (Ev.ifexp (p := .none) (Te.none (Ev.name (.there (.there (.there .here)))) rfl) (fun h => by cases h) (fun _ => Ev.add_int (b := 1) (Ev.name (.there (.there .here))) Ev.cint)) (if_neg (by decide))) (.there (.there .here)) (Ex.nil ⟨_, by omega, p + 1, acc ++ [t.getD p 0], _, rfl, rfl, by rw [List.length_append, List.length_singleton]; omega, by rw [List.length_append, List.length_singleton]; omega, ?_, rfl⟩) rfl)
        rw [List.append_assoc, unesc_fuel t _ (t.length - p - 1) _ (by omega) (by omega)]
        exact e'
    · have hp : ¬ p < t.length := by have := of_decide_eq_false h; omega
      have e' : acc = r := by
        rw [← e, show t.length - p = 0 by omega]
        simp [unesc]
      refine Ex.cons (Ex1.ret (Ev.joinOwn (.there .here) (by rw [List.length_map]; omega) (fun x hx => by
        obtain ⟨c, _, rfl⟩ := List.mem_map.mp hx
        exact Nat.le_refl _) rfl rfl) ?_)
      show Out.ret _ = _
      rw [flat_one, e'])
end
end Mine
end
section
open PySem PySem.W PyProof.Rows PySem.Calls
set_option Elab.async false
set_option linter.unusedVariables false
set_option linter.unusedSimpArgs false
set_option maxRecDepth 100000
namespace Mine
theorem unesc_len (t : List Nat) : ∀ n p, (unesc t n p).length ≤ t.length - p := by
  intro n
  induction n with
  | zero => intro p; exact Nat.zero_le _
  | succ n ih =>
    intro p
    unfold unesc
    split
    · split
      · have h1 := ih (wsEnd t (p + 1 + (hexRun t p).length))
        have h2 := wsEnd_ge t (p + 1 + (hexRun t p).length)
        rw [List.length_cons]
        omega
      · have h1 := ih (p + 1)
        rw [List.length_cons]
        omega
    · exact Nat.zero_le _
def uident (t : List Nat) : List Nat := simple (unesc t t.length 0) (unesc t t.length 0).length 0
section
variable {prog : Program} {w : World} {hB : Heap}
theorem uidents (B : Base prog w hB) (t : List Nat) (ht : t.length < 1000) (hT : ∀ c ∈ t, c ∈ alpha) : Can prog w hB "unescape_ident" 3 [.str t] (.str (uident t)) :=
  Can.of B 4 [] (fun C B h1 h2 h3 hs hn => by
    have k1 : C.env.kindOf "_sub_simple_escape" = some .globalImplicit := kindG hs (by decide +kernel)
    have k2 : C.env.kindOf "_sub_unicode_escape" = some .globalImplicit := kindG hs (by decide +kernel)
    conv => arg 3; whnf
    have hl := unesc_len t t.length 0
    exact Ex.cons (Ex1.ret (Ev.can (simples B (unesc t t.length 0) (by omega)) (Evs.cons (Ev.can (unescs B t ht hT) (Evs.cons (Ev.name .here) Evs.nil rfl) (by omega) k2 rfl rfl) Evs.nil rfl) (by omega) k1 rfl rfl) rfl))
end
end Mine
end
section
open PySem
set_option Elab.async false
set_option linter.unusedVariables false
set_option linter.unusedSimpArgs false
namespace Mine
def noNull (c : Nat) : Nat := if c = 0 then 65533 else c
theorem noNull_free : ∀ l : List Nat, 0 ∉ l → l.map noNull = l
  | [], _ => rfl
  | k :: r, h => by
    have h1 : ¬ k = 0 := fun e => h (e ▸ List.mem_cons_self ..)
    rw [List.map_cons, noNull_free r fun m => h (List.mem_cons_of_mem _ m)]
    unfold noNull
    rw [if_neg h1]
theorem noNull_join : ∀ parts : List Str, (∀ p ∈ parts, 0 ∉ p.cps.toList) → (Str.join ⟨#[0]⟩ parts).cps.toList.map noNull = (Str.join ⟨#[65533]⟩ parts).cps.toList
  | [], _ => rfl
  | [p], h => noNull_free _ (h p (List.mem_singleton.mpr rfl))
  | p :: q :: r, h => by
    have ih := noNull_join (q :: r) fun a ha => h a (List.mem_cons_of_mem _ ha)
    show (p ++ ⟨#[0]⟩ ++ Str.join ⟨#[0]⟩ (q :: r)).cps.toList.map noNull = (p ++ ⟨#[65533]⟩ ++ Str.join ⟨#[65533]⟩ (q :: r)).cps.toList
    simp only [Str.cps_append, Array.toList_append]
    rw [List.map_append, List.map_append, ih, noNull_free _ (h p (List.mem_cons_self ..))]
    rfl
theorem replace_null (t : List Nat) : (Txt.replace (S t) (S [0]) (S [65533])).cps.toList = t.map noNull := by
  show (Txt.replace (S t) ⟨#[0]⟩ ⟨#[65533]⟩).cps.toList = _
  rw [StrLaws.replace_one, ← noNull_join _ (StrLaws.split_free (S t) 0), StrLaws.join_split]
  rfl

end Mine
end
section
open PySem
set_option Elab.async false
set_option linter.unusedVariables false
set_option linter.unusedSimpArgs false
namespace Mine
theorem getD_snoc_lt {t : List Nat} {c i : Nat} (h : i < t.length) : (t ++ [c]).getD i 0 = t.getD i 0 := by
  rw [List.getD_eq_getElem?_getD, List.getD_eq_getElem?_getD, List.getElem?_append_left h]
theorem getD_snoc_eq {t : List Nat} {c : Nat} : (t ++ [c]).getD t.length 0 = c := by
  rw [List.getD_eq_getElem?_getD, List.getElem?_append_right (Nat.le_refl _), Nat.sub_self]; rfl
theorem slc_last1 (t : List Nat) (c : Nat) : slc t (some (-1)) none = [c] ↔ t ≠ [] ∧ t.getD (t.length - 1) 0 = c := by
  have e : slc t (some (-1)) none = t.drop (t.length - 1) := by
    unfold slc clipN
    dsimp only
    rw [if_pos (by omega)]
    have : (max 0 (min ((-1 : Int) + (t.length : Int)) (t.length : Int))).toNat = t.length - 1 := by omega
    rw [this]
    exact List.take_of_length_le (by rw [List.length_drop]; omega)
  rw [e]
  cases t with
  | nil => simp
  | cons a l =>
    have h : (a :: l).length - 1 < (a :: l).length := by simp
    rw [List.drop_eq_getElem_cons h, List.getD_eq_getElem?_getD, List.getElem?_eq_getElem h]
    have : (a :: l).drop ((a :: l).length - 1 + 1) = [] := List.drop_of_length_le (by simp)
    rw [this]
    simp
structure Good (t : List Nat) : Prop where
  bb : ∀ i, i + 1 < t.length → t.getD i 0 = 92 → t.getD (i + 1) 0 ≠ 92
  bn : ∀ i, i + 1 < t.length → t.getD i 0 = 92 → t.getD (i + 1) 0 ∈ [10, 13, 12] → i = 0 ∨ t.getD (i - 1) 0 ∉ sixteen
  fc : ∀ i, i + 1 < t.length → t.getD i 0 = 53 → t.getD (i + 1) 0 ∉ [99, 67]
  al : ∀ c ∈ t, c ∈ signs ∨ (32 ≤ c ∧ c ≤ 126)
theorem Good.snoc {t : List Nat} (h : Good t) {c : Nat} (hc : c ∈ signs ∨ (32 ≤ c ∧ c ≤ 126)) : Good (t ++ [sign2 t (sign1 t c)]) := by
  have h1 : t ≠ [] → t.getD (t.length - 1) 0 = 92 → sign2 t (sign1 t c) ≠ 92 ∧ (sign2 t (sign1 t c) ∈ [10, 13, 12] → t.length - 1 = 0 ∨ t.getD (t.length - 1 - 1) 0 ∉ sixteen) := by
    intro hne hl
    have e92 : slc t (some (-1)) none = [92] := (slc_last1 t 92).mpr ⟨hne, hl⟩
    have e2 : sign2 t (sign1 t c) = sign1 t c := if_neg (by rintro ⟨q, _⟩; rw [e92] at q; cases q)
    rw [e2]
    unfold sign1
    by_cases q : slc t (some (-1)) none = [92] ∧ (c = 92 ∨ (c ∈ [10, 13, 12] ∧ 1 < t.length ∧ t.getD (t.length - 2) 0 ∈ sixteen))
    · rw [if_pos q]
      exact ⟨by decide, fun z => absurd z (by decide)⟩
    · rw [if_neg q]
      refine ⟨fun e => q ⟨e92, .inl e⟩, fun hm => ?_⟩
      by_cases hl1 : 1 < t.length
      · right
        intro h6
        exact q ⟨e92, .inr ⟨hm, hl1, by rw [show t.length - 2 = t.length - 1 - 1 by omega]; exact h6⟩⟩
      · left; omega
  have h2 : t ≠ [] → t.getD (t.length - 1) 0 = 53 → sign2 t (sign1 t c) ∉ [99, 67] := by
    intro hne hl
    have e53 : slc t (some (-1)) none = [53] := (slc_last1 t 53).mpr ⟨hne, hl⟩
    unfold sign2
    by_cases q : slc t (some (-1)) none = [53] ∧ sign1 t c ∈ [99, 67]
    · rw [if_pos q]; decide
    · rw [if_neg q]; exact fun e => q ⟨e53, e⟩
  have h3 : sign2 t (sign1 t c) ∈ signs ∨ (32 ≤ sign2 t (sign1 t c) ∧ sign2 t (sign1 t c) ≤ 126) := by
    have h103 : (103 : Nat) ∈ signs ∨ (32 ≤ 103 ∧ 103 ≤ 126) := .inr ⟨by decide, by decide⟩
    have a1 : sign1 t c ∈ signs ∨ (32 ≤ sign1 t c ∧ sign1 t c ≤ 126) := by unfold sign1; split; exact h103; exact hc
    unfold sign2; split; exact h103; exact a1
  generalize sign2 t (sign1 t c) = s at h1 h2 h3
  have last : ∀ i, i + 1 < (t ++ [s]).length → i + 1 < t.length ∨ (t ≠ [] ∧ i = t.length - 1 ∧ i < t.length ∧ i + 1 = t.length) := by
    intro i hi
    rw [List.length_append, List.length_singleton] at hi
    rcases Nat.lt_or_ge (i + 1) t.length with q | q
    · exact .inl q
    · right
      refine ⟨?_, by omega, by omega, by omega⟩
      rintro rfl
      simp at hi
  refine ⟨fun i hi hb => ?_, fun i hi hb hn => ?_, fun i hi hb => ?_, fun x hx => ?_⟩
  · rcases last i hi with q | ⟨q1, q2, q3, q4⟩
    · rw [getD_snoc_lt (by omega)] at hb ⊢
      exact h.bb i q hb
    · rw [getD_snoc_lt q3] at hb
      rw [q4, getD_snoc_eq]
      exact (h1 q1 (q2 ▸ hb)).1
  · rcases last i hi with q | ⟨q1, q2, q3, q4⟩
    · rw [getD_snoc_lt (by omega)] at hb hn
      rcases h.bn i q hb hn with z | z
      · exact .inl z
      · right; rw [getD_snoc_lt (by omega)]; exact z
    · rw [getD_snoc_lt q3] at hb
      rw [q4, getD_snoc_eq] at hn
      rcases (h1 q1 (q2 ▸ hb)).2 hn with z | z
      · left; omega
      · right; rw [getD_snoc_lt (by omega), q2]; exact z
  · rcases last i hi with q | ⟨q1, q2, q3, q4⟩
    · rw [getD_snoc_lt (by omega)] at hb ⊢
      exact h.fc i q hb
    · rw [getD_snoc_lt q3] at hb
      rw [q4, getD_snoc_eq]
      exact h2 q1 (q2 ▸ hb)
  · rcases List.mem_append.mp hx with q | q
    · exact h.al x q
    · rw [List.mem_singleton.mp q]; exact h3
theorem signOf_al (v : Int) : signOf v ∈ signs ∨ (32 ≤ signOf v ∧ signOf v ≤ 126) := by
  have hm := Int.fmod_nonneg_of_pos v (show (0 : Int) < 38 by omega)
  have hm2 := Int.fmod_lt_of_pos v (show (0 : Int) < 38 by omega)
  have hm3 := Int.fmod_nonneg_of_pos (v.fdiv 38) (show (0 : Int) < 95 by omega)
  have hm4 := Int.fmod_lt_of_pos (v.fdiv 38) (show (0 : Int) < 95 by omega)
  unfold signOf
  split
  · right; omega
  · left
    have hlt : (v.fmod 38).toNat < signs.length := by show _ < 38; omega
    rw [List.getD_eq_getElem?_getD, List.getElem?_eq_getElem hlt]
    exact List.getElem_mem hlt
theorem textOf_good (l : List Int) : Good (textOf l) := by
  have : ∀ (l : List Int) t, Good t → Good (l.foldl (fun t v => t ++ [sign2 t (sign1 t (signOf v))]) t) := by
    intro l
    induction l with
    | nil => intro t h; exact h
    | cons a l ih => intro t h; exact ih _ (h.snoc (signOf_al a))
  exact this l [] ⟨fun i h => by simp at h, fun i h => by simp at h, fun i h => by simp at h, fun c h => nomatch h⟩
end Mine
end
section
open PySem
set_option Elab.async false
set_option linter.unusedVariables false
set_option linter.unusedSimpArgs false
namespace Mine
/-- what the plain law knows of a text: hd is what stands ahead of the tail -/
structure Inv (t hd tl : List Nat) : Prop where
  is : t = hd ++ tl
  tails : tl = [] ∨ tl = [92, 53, 99] ∨ tl = [92, 53, 99, 32, 92, 97]
  last : tl ≠ [] → hd ≠ [] → hd.getD (hd.length - 1) 0 ≠ 92
  bb : ∀ i, i + 1 < hd.length → hd.getD i 0 = 92 → hd.getD (i + 1) 0 ≠ 92
  bn : ∀ i, i + 1 < hd.length → hd.getD i 0 = 92 → hd.getD (i + 1) 0 ∈ [10, 13, 12] → i = 0 ∨ hd.getD (i - 1) 0 ∉ sixteen
  fc : ∀ i, i + 1 < hd.length → hd.getD i 0 = 53 → hd.getD (i + 1) 0 ∉ [99, 67]
  al : ∀ c ∈ t, c ∈ alpha
  len : t.length < 500
theorem map_getD (f : Nat → Nat) {t : List Nat} {i : Nat} (h : i < t.length) : (t.map f).getD i 0 = f (t.getD i 0) := by
  rw [List.getD_eq_getElem?_getD, List.getD_eq_getElem?_getD, List.getElem?_map, List.getElem?_eq_getElem h]; rfl
theorem noNull_of {c k : Nat} (hk : k ≠ 65533) (hk0 : k ≠ 0) : noNull c = k ↔ c = k := by
  unfold noNull
  split
  · rename_i h; subst h
    exact ⟨fun e => absurd e.symm hk, fun e => absurd e.symm hk0⟩
  · exact Iff.rfl
theorem noNull_mem {l : List Nat} (h : 65533 ∉ l) (h0 : 0 ∉ l) (c : Nat) : noNull c ∈ l ↔ c ∈ l := by
  unfold noNull
  split
  · rename_i e; subst e
    exact ⟨fun q => absurd q h, fun q => absurd q h0⟩
  · exact Iff.rfl
theorem alpha_of : ∀ c, c ∈ signs ∨ (32 ≤ c ∧ c ≤ 126) → noNull c ∈ alpha := by
  rintro c (h | ⟨h1, h2⟩)
  · have : ∀ c ∈ signs, noNull c ∈ alpha := by decide
    exact this c h
  · have h0 : c ≠ 0 := by omega
    unfold noNull
    rw [if_neg h0]
    unfold alpha
    apply List.mem_append_right
    exact List.mem_map.mpr ⟨c - 32, List.mem_range.mpr (by omega), by omega⟩
theorem lawText_inv (l : List Int) : ∃ hd tl, Inv ((lawText l).map noNull) hd tl := by
  have G := textOf_good (l.take 40)
  have hlen : (textOf (l.take 40)).length ≤ 40 := by rw [textOf_len, List.length_take]; omega
  have key : ∀ tl, (tl = [] ∨ tl = [92, 53, 99] ∨ tl = [92, 53, 99, 32, 92, 97]) → (tl ≠ [] → ¬ slc (textOf (l.take 40)) (some (-1)) none = [92]) → Inv ((textOf (l.take 40) ++ tl).map noNull) ((textOf (l.take 40)).map noNull) tl := by
    intro tl ht hlast
    have htl : tl.map noNull = tl := by rcases ht with rfl | rfl | rfl <;> decide
    have htlen : tl.length ≤ 6 := by rcases ht with rfl | rfl | rfl <;> decide
    generalize textOf (l.take 40) = x at G hlen hlast
    refine ⟨by rw [List.map_append, htl], ht, fun h1 h2 => ?_, fun i hi hb => ?_, fun i hi hb hn => ?_, fun i hi hb => ?_, fun c hc => ?_, by rw [List.length_map, List.length_append]; omega⟩
    · have hx : x ≠ [] := fun e => h2 (by rw [e]; rfl)
      have hpos : 0 < x.length := List.length_pos_iff.mpr hx
      rw [List.length_map, map_getD _ (by omega)]
      intro e
      exact hlast h1 ((slc_last1 x 92).mpr ⟨hx, (noNull_of (by decide) (by decide)).mp e⟩)
    · rw [List.length_map] at hi
      rw [map_getD _ (by omega)] at hb ⊢
      exact fun e => G.bb i hi ((noNull_of (by decide) (by decide)).mp hb) ((noNull_of (by decide) (by decide)).mp e)
    · rw [List.length_map] at hi
      rw [map_getD _ (by omega)] at hb hn
      rcases G.bn i hi ((noNull_of (by decide) (by decide)).mp hb) ((noNull_mem (by decide) (by decide) _).mp hn) with q | q
      · exact .inl q
      · right
        rw [map_getD _ (by omega)]
        exact fun e => q ((noNull_mem (by decide) (by decide) _).mp e)
    · rw [List.length_map] at hi
      rw [map_getD _ (by omega)] at hb ⊢
      exact fun e => G.fc i hi ((noNull_of (by decide) (by decide)).mp hb) ((noNull_mem (by decide) (by decide) _).mp e)
    · obtain ⟨d, hd, rfl⟩ := List.mem_map.mp hc
      rcases List.mem_append.mp hd with q | q
      · exact alpha_of d (G.al d q)
      · refine alpha_of d (.inr ?_)
        rcases ht with rfl | rfl | rfl
        · cases q
        · have h : ∀ d ∈ [92, 53, 99], 32 ≤ d ∧ d ≤ 126 := by decide
          exact h d q
        · have h : ∀ d ∈ [92, 53, 99, 32, 92, 97], 32 ≤ d ∧ d ≤ 126 := by decide
          exact h d q
  unfold lawText
  by_cases h : slc (textOf (l.take 40)) (some (-1)) none = [92]
  · rw [if_pos h]
    have := key [] (.inl rfl) (fun q => absurd rfl q)
    rw [List.append_nil] at this
    exact ⟨_, _, this⟩
  · rw [if_neg h]
    refine ⟨_, _, key (tails.getD (l.length % 3) []) ?_ (fun _ => h)⟩
    have h3 : l.length % 3 < 3 := Nat.mod_lt _ (by omega)
    generalize l.length % 3 = k at h3
    match k, h3 with
    | 0, _ => exact .inl rfl
    | 1, _ => exact .inr (.inl rfl)
    | 2, _ => exact .inr (.inr rfl)
end Mine
end
section
open PySem
set_option Elab.async false
set_option linter.unusedVariables false
set_option linter.unusedSimpArgs false
namespace Mine
theorem slc_pair {t : List Nat} {j a b : Nat} : slc t (some j) (some (j + 2 : Int)) = [a, b] ↔ j + 1 < t.length ∧ t.getD j 0 = a ∧ t.getD (j + 1) 0 = b := by
  unfold slc clipN
  dsimp only
  rw [if_neg (by omega), if_neg (by omega)]
  by_cases h : j + 1 < t.length
  · have e1 : (max 0 (min (j : Int) (t.length : Int))).toNat = j := by omega
    have e2 : (max 0 (min ((j : Int) + 2) (t.length : Int))).toNat = j + 2 := by omega
    have e3 : t.drop j = t[j] :: t[j + 1] :: t.drop (j + 1 + 1) := by rw [List.drop_eq_getElem_cons (show j < t.length by omega), List.drop_eq_getElem_cons h]
    have e4 : t.getD j 0 = t[j] := by rw [List.getD_eq_getElem?_getD, List.getElem?_eq_getElem (show j < t.length by omega)]; rfl
    have e5 : t.getD (j + 1) 0 = t[j + 1] := by rw [List.getD_eq_getElem?_getD, List.getElem?_eq_getElem h]; rfl
    rw [e1, e2, show j + 2 - j = 2 by omega, e3, e4, e5]
    show [t[j], t[j + 1]] = [a, b] ↔ _
    simp only [List.cons.injEq, and_true]
    exact ⟨fun q => ⟨h, q⟩, fun q => q.2⟩
  · constructor
    · intro e
      have := congrArg List.length e
      rw [List.length_take, List.length_drop] at this
      simp only [List.length_cons, List.length_nil] at this
      omega
    · rintro ⟨q, _⟩; exact absurd q h
theorem white_is (t : List Nat) (j : Nat) : white t j = wsEnd t j := by
  unfold white wsEnd
  dsimp only
  by_cases h : slc t (some j) (some (j + 2 : Int)) = [13, 10]
  · have h' := slc_pair.mp h
    have : inn t (j + 1) [32, 9, 10, 13, 12] = true := by
      unfold inn
      rw [decide_eq_true h'.1, h'.2.2]
      rfl
    rw [if_pos h, if_pos this, if_pos ⟨h'.1, h'.2.1, h'.2.2⟩]
  · have h2 : ¬ (j + 1 < t.length ∧ t.getD j 0 = 13 ∧ t.getD (j + 1) 0 = 10) := fun q => h (slc_pair.mpr ⟨q.1, q.2.1, q.2.2⟩)
    rw [if_neg h, if_neg h2]
    unfold inn isWs ws
    simp only [Bool.and_eq_true, decide_eq_true_eq]
theorem nameSign_is : ∀ c ∈ alpha, nameSign c = (isName c || decide (c > 127)) := by decide +kernel
theorem hexRun_nil {t : List Nat} {i : Nat} (h : i + 1 < t.length) : hexRun t i = [] ↔ isHex (t.getD (i + 1) 0) = false := by
  unfold hexRun
  rw [List.drop_eq_getElem_cons h, List.take_succ_cons, List.takeWhile_cons, List.getD_eq_getElem?_getD, List.getElem?_eq_getElem h, Option.getD_some]
  cases isHex t[i + 1] <;> simp
theorem hexRun_short {t : List Nat} {i : Nat} (h : t.length ≤ i + 1) : hexRun t i = [] := by
  unfold hexRun
  rw [List.drop_of_length_le h]
  rfl
/-- the regex's step over a name is the law's -/
theorem name_stepG {t : List Nat} {set : Nat → Bool} (hset : set 92 = false) {i : Nat} (hi : i < t.length) :
    nameNext t set i = (if t.getD i 0 = 92 then (if (escape t i).2 = i then none else some (escape t i).2) else if (set (t.getD i 0) || decide (t.getD i 0 > 127)) = true then some (i + 1) else none) := by
  unfold nameNext
  by_cases h92 : t.getD i 0 = 92
  · rw [if_pos h92, h92, if_neg (by rintro ⟨_, q⟩; rw [hset] at q; cases q)]
    by_cases hr : hexRun t i = []
    · have e1 : escAt t i = false := by unfold escAt; rw [hr]; simp
      rw [e1, if_neg Bool.false_ne_true]
      unfold escape
      dsimp only
      rw [if_pos hr]
      by_cases h1 : i + 1 < t.length ∧ t.getD (i + 1) 0 ∉ [10, 13, 12]
      · rw [if_pos h1]
        have hx := (hexRun_nil h1.1).mp hr
        have : twoAt t i isPlainEsc = true := by
          unfold twoAt isPlainEsc
          rw [decide_eq_true h1.1, decide_eq_true h92, hx, decide_eq_false h1.2]
          rfl
        rw [if_pos this]
        show some (i + 2) = if i + 2 = i then none else some (i + 2)
        rw [if_neg (by omega)]
      · rw [if_neg h1]
        have : ¬ twoAt t i isPlainEsc = true := by
          unfold twoAt isPlainEsc
          simp only [Bool.and_eq_true, decide_eq_true_eq, Bool.not_eq_true', decide_eq_false_iff_not]
          rintro ⟨⟨a, _⟩, _, b⟩
          exact h1 ⟨a, b⟩
        rw [if_neg this, if_neg (by rintro ⟨_, q⟩; omega)]
        show none = if i = i then none else some i
        rw [if_pos rfl]
    · have e1 : escAt t i = true := by unfold escAt; rw [decide_eq_true hi, decide_eq_true h92, decide_eq_true hr]; rfl
      rw [if_pos e1]
      unfold escape
      dsimp only
      rw [if_neg hr, white_is]
      have := wsEnd_ge t (i + 1 + (hexRun t i).length)
      show _ = if wsEnd t (i + 1 + (hexRun t i).length) = i then none else some (wsEnd t (i + 1 + (hexRun t i).length))
      rw [if_neg (by omega)]
  · rw [if_neg h92]
    have e1 : ¬ escAt t i = true := by
      unfold escAt
      rw [decide_eq_false h92]
      simp
    have e2 : ¬ twoAt t i isPlainEsc = true := by
      unfold twoAt
      rw [decide_eq_false h92]
      simp
    rw [if_neg e1, if_neg e2]
    by_cases h1 : set (t.getD i 0) = true
    · rw [if_pos ⟨hi, h1⟩, h1]; rfl
    · rw [if_neg (fun q => h1 q.2)]
      by_cases h2 : t.getD i 0 > 127
      · rw [if_pos ⟨hi, h2⟩, decide_eq_true h2, Bool.or_true]; rfl
      · rw [if_neg (fun q => h2 q.2), decide_eq_false h2, Bool.or_false, if_neg h1]
theorem name_step {t : List Nat} (hT : ∀ c ∈ t, c ∈ alpha) {i : Nat} (hi : i < t.length) :
    nameNext t isName i = (if t.getD i 0 = 92 then (if (escape t i).2 = i then none else some (escape t i).2) else if nameSign (t.getD i 0) = true then some (i + 1) else none) := by
  rw [name_stepG (by decide) hi, nameSign_is _ (hT _ (getD_mem hi))]
theorem name_none {t : List Nat} {i : Nat} (hi : ¬ i < t.length) : nameNext t isName i = none := by
  cases q : nameNext t isName i with
  | none => rfl
  | some r => have := nameNext_le q; omega
/-- where a name ends -/
theorem name_end {t : List Nat} (hT : ∀ c ∈ t, c ∈ alpha) : ∀ n said i, (name t n said i).2 = starEnd (nameNext t isName) n i := by
  intro n
  induction n with
  | zero => intro said i; rfl
  | succ n ih =>
    intro said i
    unfold name starEnd
    by_cases hi : i < t.length
    · rw [if_pos hi, name_step hT hi]
      by_cases h92 : t.getD i 0 = 92
      · rw [if_pos h92, if_pos h92]
        by_cases he : (escape t i).2 = i
        · rw [if_pos he, if_pos he]
        · rw [if_neg he, if_neg he]; exact ih _ _
      · rw [if_neg h92, if_neg h92]
        by_cases hs : nameSign (t.getD i 0) = true
        · rw [if_pos hs, if_pos hs]; exact ih _ _
        · rw [if_neg hs, if_neg hs]
    · rw [if_neg hi, name_none hi]
end Mine
end
section
open PySem
set_option Elab.async false
set_option linter.unusedVariables false
set_option linter.unusedSimpArgs false
namespace Mine
theorem starEnd_fuel {t : List Nat} {nxt : Nat → Option Nat} (hn : ∀ p q, nxt p = some q → p < q ∧ q ≤ t.length) : ∀ n m p, t.length - p ≤ n → t.length - p ≤ m → p ≤ t.length → starEnd nxt n p = starEnd nxt m p := by
  have stop : ∀ m p, t.length ≤ p → starEnd nxt m p = p := by
    intro m p hp
    cases m with
    | zero => rfl
    | succ m =>
      unfold starEnd
      cases q : nxt p with
      | none => rfl
      | some r => have := hn p r q; omega
  intro n
  induction n with
  | zero => intro m p h1 h2 h3; rw [stop m p (by omega)]; rfl
  | succ n ih =>
    intro m p h1 h2 h3
    cases m with
    | zero => rw [stop (n + 1) p (by omega)]; rfl
    | succ m =>
      unfold starEnd
      cases q : nxt p with
      | none => rfl
      | some r =>
        have := hn p r q
        exact ih m r (by omega) (by omega) (by omega)
theorem start_is : ∀ c ∈ alpha, (isStart c || decide (c > 127)) = (decide (c > 127) || (decide (c = 95) || Txt.isalpha (S [c]))) := by decide +kernel
theorem start_name : ∀ c, isStart c = true → isName c = true := fun c h => by unfold isName; rw [h]; rfl
/-- the head of a name -/
theorem start_step {t : List Nat} (hT : ∀ c ∈ t, c ∈ alpha) (j : Nat) :
    (nameNext t isStart j).isSome = starts t j (if j < t.length then t.getD j 0 else 32) := by
  by_cases hj : j < t.length
  · rw [if_pos hj, name_stepG (by decide) hj]
    unfold starts
    by_cases h92 : t.getD j 0 = 92
    · rw [if_pos h92, h92]
      have hg := escape_ge t j
      have e0 : (decide ((92 : Nat) > 127) || (decide ((92 : Nat) = 95) || (Txt.isalpha (S [92]) || (decide ((92 : Nat) = 92) && decide (j < (escape t j).2))))) = decide (j < (escape t j).2) := by
        rw [show Txt.isalpha (S [92]) = false by decide +kernel]; simp
      rw [e0]
      by_cases he : (escape t j).2 = j
      · rw [if_pos he, decide_eq_false (by omega)]; rfl
      · rw [if_neg he, decide_eq_true (by omega)]; rfl
    · rw [if_neg h92, decide_eq_false h92, Bool.false_and, Bool.or_false, ← start_is _ (hT _ (getD_mem hj))]
      cases (isStart (t.getD j 0) || decide (t.getD j 0 > 127)) <;> rfl
  · rw [if_neg hj]
    have : nameNext t isStart j = none := by
      cases q : nameNext t isStart j with
      | none => rfl
      | some r => have := nameNext_le q; omega
    rw [this]
    unfold starts
    rw [show Txt.isalpha (S [32]) = false by decide +kernel]
    rfl
theorem start_to_name {t : List Nat} {j q : Nat} (h : nameNext t isStart j = some q) : nameNext t isName j = some q := by
  have hj : j < t.length := by have := nameNext_le h; omega
  rw [name_stepG (by decide) hj] at h ⊢
  by_cases h92 : t.getD j 0 = 92
  · rw [if_pos h92] at h ⊢; exact h
  · rw [if_neg h92] at h ⊢
    split at h
    · rename_i hc
      rw [if_pos (by
        rw [Bool.or_eq_true] at hc ⊢
        exact hc.imp (start_name _) id)]
      exact h
    · cases h
/-- a name is read where the regex takes one, and to the same end -/
theorem ident_is {t : List Nat} (hT : ∀ c ∈ t, c ∈ alpha) {i : Nat} (hi : i < t.length) : identEnd t i = if readStart t i = true then some (nm t i).2 else none := by
  have hs : (nameNext t isStart (if i < t.length ∧ t.getD i 0 = 45 then i + 1 else i)).isSome = readStart t i := by
    rw [start_step hT]
    unfold readStart
    by_cases h45 : t.getD i 0 = 45
    · rw [if_pos h45, if_pos ⟨hi, h45⟩]
    · rw [if_neg h45, if_neg (fun q => h45 q.2)]
  unfold identEnd
  cases hq : nameNext t isStart (if i < t.length ∧ t.getD i 0 = 45 then i + 1 else i) with
  | none =>
    rw [hq] at hs
    rw [← hs]
    rfl
  | some q =>
    rw [hq] at hs
    rw [← hs, if_pos (show (some q).isSome = true from rfl)]
    show some _ = some _
    congr 1
    unfold nm
    rw [name_end hT]
    have hn : ∀ p q, nameNext t isName p = some q → p < q ∧ q ≤ t.length := fun p q h => nameNext_le h
    have hq' := start_to_name hq
    have hle := nameNext_le hq
    by_cases h45 : t.getD i 0 = 45
    · rw [if_pos ⟨hi, h45⟩] at hq hq' hle
      have h1 : nameNext t isName i = some (i + 1) := by
        rw [name_stepG (by decide) hi, h45]; rfl
      rw [show t.length - i = (t.length - i - 2) + 1 + 1 by omega, starEnd, h1]
      show _ = starEnd (nameNext t isName) (t.length - i - 2 + 1) (i + 1)
      rw [starEnd, hq']
      exact starEnd_fuel hn _ _ _ (by omega) (by omega) (by omega)
    · rw [if_neg (fun z => h45 z.2)] at hq hq' hle
      rw [show t.length - i = (t.length - i - 1) + 1 by omega, starEnd, hq']
      exact starEnd_fuel hn _ _ _ (by omega) (by omega) (by omega)
theorem hash_is {t : List Nat} (hT : ∀ c ∈ t, c ∈ alpha) {i : Nat} (hi : i < t.length) : hashEnd t i = if t.getD i 0 = 35 ∧ (nm t (i + 1)).2 > i + 1 then some (nm t (i + 1)).2 else none := by
  have hn : ∀ p q, nameNext t isName p = some q → p < q ∧ q ≤ t.length := fun p q h => nameNext_le h
  unfold hashEnd nm
  rw [name_end hT]
  by_cases h35 : t.getD i 0 = 35
  · rw [if_pos h35]
    cases hq : nameNext t isName (i + 1) with
    | none =>
      have : starEnd (nameNext t isName) (t.length - (i + 1)) (i + 1) = i + 1 := by
        cases t.length - (i + 1) with
        | zero => rfl
        | succ n => rw [starEnd, hq]
      rw [this, if_neg (by omega)]
    | some q =>
      have hle := hn _ _ hq
      have e : starEnd (nameNext t isName) (t.length - (i + 1)) (i + 1) = starEnd (nameNext t isName) t.length q := by
        rw [show t.length - (i + 1) = (t.length - (i + 1) - 1) + 1 by omega, starEnd, hq]
        exact starEnd_fuel hn _ _ _ (by omega) (by omega) (by omega)
      rw [e]
      have hge : ∀ n p, p ≤ starEnd (nameNext t isName) n p := by
        intro n
        induction n with
        | zero => intro p; exact Nat.le_refl _
        | succ n ih =>
          intro p
          unfold starEnd
          cases z : nameNext t isName p with
          | none => exact Nat.le_refl _
          | some r => have := hn p r z; have := ih r; dsimp only; omega
      have := hge t.length q
      rw [if_pos ⟨h35, by omega⟩]
  · rw [if_neg h35, if_neg (fun q => h35 q.1)]
end Mine
end
section
open PySem
set_option Elab.async false
set_option linter.unusedVariables false
set_option linter.unusedSimpArgs false
namespace Mine
theorem at_pair {t : List Nat} {a b i : Nat} : StrLaws.At (S t) (S [a, b]) (S t).length i ↔ slc t (some i) (some (i + 2 : Int)) = [a, b] := by
  unfold StrLaws.At
  rw [S_length, StrLaws.subAt_eq, beq_iff_eq]
  show i + 2 ≤ t.length ∧ (t.drop i).take 2 = [a, b] ↔ _
  rw [slc_pair]
  constructor
  · rintro ⟨h1, h2⟩
    rw [List.drop_eq_getElem_cons (show i < t.length by omega), List.drop_eq_getElem_cons (show i + 1 < t.length by omega)] at h2
    have h3 : [t[i], t[i + 1]] = [a, b] := h2
    rw [List.getD_eq_getElem?_getD, List.getD_eq_getElem?_getD, List.getElem?_eq_getElem (show i < t.length by omega), List.getElem?_eq_getElem (show i + 1 < t.length by omega)]
    simp only [List.cons.injEq, and_true] at h3
    exact ⟨by omega, h3.1, h3.2⟩
  · rintro ⟨h1, h2, h3⟩
    rw [List.getD_eq_getElem?_getD, List.getElem?_eq_getElem (show i < t.length by omega), Option.getD_some] at h2
    rw [List.getD_eq_getElem?_getD, List.getElem?_eq_getElem h1, Option.getD_some] at h3
    refine ⟨by omega, ?_⟩
    rw [List.drop_eq_getElem_cons (show i < t.length by omega), List.drop_eq_getElem_cons h1]
    show [t[i], t[i + 1]] = _
    rw [h2, h3]
theorem com_stop {t : List Nat} : ∀ (n j : Nat), t.length - j ≤ n → (comEnd t n j < t.length → slc t (some (comEnd t n j : Nat)) (some ((comEnd t n j : Nat) + 2 : Int)) = [42, 47]) ∧ (∀ k, j ≤ k → k < comEnd t n j → slc t (some k) (some (k + 2 : Int)) ≠ [42, 47])
  | 0, j, h => ⟨fun q => by have : comEnd t 0 j = j := rfl; omega, fun k h1 h2 => by have : comEnd t 0 j = j := rfl; omega⟩
  | n + 1, j, h => by
    unfold comEnd
    by_cases hc : j < t.length ∧ slc t (some j) (some (j + 2 : Int)) ≠ [42, 47]
    · rw [if_pos hc]
      have ih := com_stop (t := t) n (j + 1) (by omega)
      refine ⟨ih.1, fun k h1 h2 => ?_⟩
      rcases Nat.lt_or_ge j k with q | q
      · exact ih.2 k q h2
      · have : k = j := by omega
        rw [this]; exact hc.2
    · rw [if_neg hc]
      refine ⟨fun q => Classical.byContradiction fun z => hc ⟨q, z⟩, fun k h1 h2 => by omega⟩
theorem com_le {t : List Nat} : ∀ (n j : Nat), j ≤ t.length → comEnd t n j ≤ t.length
  | 0, j, h => h
  | n + 1, j, h => by
    unfold comEnd
    split
    · rename_i hc; exact com_le (t := t) n (j + 1) (by omega)
    · exact h
/-- a comment's end -/
theorem com_is {t : List Nat} {i : Nat} (hi : i + 2 ≤ t.length) : (if findL t [42, 47] (i + 2 : Int) = -1 then (t.length : Int) else findL t [42, 47] (i + 2 : Int) + 2) = (min (comEnd t (t.length - (i + 2)) (i + 2) + 2) t.length : Nat) := by
  have hst := com_stop (t := t) (t.length - (i + 2)) (i + 2) (Nat.le_refl _)
  have hge := comEnd_ge t (t.length - (i + 2)) (i + 2)
  have hle := com_le (t := t) (t.length - (i + 2)) (i + 2) hi
  generalize comEnd t (t.length - (i + 2)) (i + 2) = ce at hst hge hle
  have hfi : fromIndex (S t).length ((i + 2 : Int)) = i + 2 := by unfold fromIndex; rw [if_neg (by omega)]; omega
  unfold findL Txt.find3
  rw [hfi]
  rcases StrLaws.occ_head_from (S t) (S [42, 47]) (i + 2) 1 (Nat.le_refl _) with ⟨h0, hn⟩ | ⟨k, r, h0, h1, h2, h3⟩
  · rw [h0]
    dsimp only
    rw [if_pos rfl]
    have : ¬ ce < t.length := fun q => hn ce hge (at_pair.mpr (hst.1 q))
    omega
  · rw [h0]
    dsimp only
    rw [if_neg (by omega)]
    have hk := at_pair.mp h2
    have hkl := slc_pair.mp hk
    have : k = ce := by
      rcases Nat.lt_trichotomy k ce with q | q | q
      · exact absurd hk (hst.2 k h1 q)
      · exact q
      · exfalso
        exact h3 ce hge q (at_pair.mpr (hst.1 (by omega)))
    subst this
    omega
end Mine
end
section
open PySem
set_option Elab.async false
set_option linter.unusedVariables false
set_option linter.unusedSimpArgs false
namespace Mine
theorem getD_drop (u : List Nat) (i p : Nat) : (u.drop i).getD p 0 = u.getD (i + p) 0 := by
  rw [List.getD_eq_getElem?_getD, List.getD_eq_getElem?_getD, List.getElem?_drop]
theorem hexRun_drop (u : List Nat) (i p : Nat) : hexRun (u.drop i) p = hexRun u (i + p) := by
  unfold hexRun
  rw [List.drop_drop, show i + (p + 1) = i + p + 1 by omega]
theorem escAt_drop {u : List Nat} {i : Nat} (p : Nat) (hi : i ≤ u.length) : escAt (u.drop i) p = escAt u (i + p) := by
  unfold escAt
  rw [getD_drop, hexRun_drop, List.length_drop]
  congr 2
  exact decide_eq_decide.mpr (by omega)
theorem wsEnd_drop {u : List Nat} {i : Nat} (p : Nat) (hi : i ≤ u.length) : i + wsEnd (u.drop i) p = wsEnd u (i + p) := by
  unfold wsEnd
  rw [getD_drop, getD_drop, List.length_drop, show i + (p + 1) = i + p + 1 by omega]
  by_cases h1 : i + p + 1 < u.length ∧ u.getD (i + p) 0 = 13 ∧ u.getD (i + p + 1) 0 = 10
  · rw [if_pos ⟨by omega, h1.2⟩, if_pos h1]; omega
  · rw [if_neg (fun q => h1 ⟨by omega, q.2⟩), if_neg h1]
    by_cases h2 : i + p < u.length ∧ isWs (u.getD (i + p) 0) = true
    · rw [if_pos ⟨by omega, h2.2⟩, if_pos h2]; omega
    · rw [if_neg (fun q => h2 ⟨by omega, q.2⟩), if_neg h2]
theorem unesc_drop {u : List Nat} {i : Nat} (hi : i ≤ u.length) : ∀ n p, unesc (u.drop i) n p = unesc u n (i + p) := by
  intro n
  induction n with
  | zero => intro p; rfl
  | succ n ih =>
    intro p
    unfold unesc
    rw [escAt_drop p hi, hexRun_drop, getD_drop, ih, ih, wsEnd_drop _ hi, List.length_drop, show i + (p + 1) = i + p + 1 by omega, show i + (p + 1 + (hexRun u (i + p)).length) = i + p + 1 + (hexRun u (i + p)).length by omega]
    by_cases h : i + p < u.length
    · rw [if_pos (show p < u.length - i by omega), if_pos h]
    · rw [if_neg (show ¬ p < u.length - i by omega), if_neg h]
/-! a text cut at e, where an item ends -/
theorem getD_take {t : List Nat} {e p : Nat} (h : p < e) : (t.take e).getD p 0 = t.getD p 0 := by
  rw [List.getD_eq_getElem?_getD, List.getD_eq_getElem?_getD, List.getElem?_take_of_lt h]
theorem tw_cut {p : Nat → Bool} : ∀ (l : List Nat) (k : Nat), (l.takeWhile p).length ≤ k → (l.take k).takeWhile p = l.takeWhile p
  | [], k, _ => by simp
  | a :: l, 0, h => by
    rw [List.takeWhile_cons] at h ⊢
    split at h
    · simp at h
    · rename_i q; rw [if_neg q]; rfl
  | a :: l, k + 1, h => by
    rw [List.takeWhile_cons] at h
    rw [List.take_succ_cons, List.takeWhile_cons, List.takeWhile_cons]
    split at h
    · rename_i q
      rw [if_pos q, if_pos q, tw_cut l k (by simpa using h)]
    · rename_i q; rw [if_neg q, if_neg q]
theorem hexRun_cut {t : List Nat} {e p : Nat} (h : p + 1 + (hexRun t p).length ≤ e) : hexRun (t.take e) p = hexRun t p := by
  unfold hexRun at h ⊢
  rw [List.drop_take, List.take_take, Nat.min_comm, ← List.take_take]
  exact tw_cut _ _ (by omega)
theorem wsEnd_cut {t : List Nat} {e j : Nat} (he : e ≤ t.length) (h : wsEnd t j ≤ e) (hj : j ≤ e) : wsEnd (t.take e) j = wsEnd t j := by
  unfold wsEnd at h ⊢
  rw [List.length_take, Nat.min_eq_left he]
  by_cases h1 : j + 1 < t.length ∧ t.getD j 0 = 13 ∧ t.getD (j + 1) 0 = 10
  · rw [if_pos h1] at h ⊢
    rw [getD_take (by omega), getD_take (by omega), if_pos ⟨by omega, h1.2⟩]
  · rw [if_neg h1] at h ⊢
    have h1' : ¬ (j + 1 < e ∧ (t.take e).getD j 0 = 13 ∧ (t.take e).getD (j + 1) 0 = 10) := by
      rintro ⟨a, b, c⟩
      rw [getD_take (by omega)] at b c
      exact h1 ⟨by omega, b, c⟩
    rw [if_neg h1']
    by_cases h2 : j < t.length ∧ isWs (t.getD j 0) = true
    · rw [if_pos h2] at h ⊢
      rw [getD_take (by omega), if_pos ⟨by omega, h2.2⟩]
    · rw [if_neg h2] at h ⊢
      rw [if_neg]
      rintro ⟨a, b⟩
      rw [getD_take (by omega)] at b
      exact h2 ⟨by omega, b⟩
end Mine
end
section
open PySem
set_option Elab.async false
set_option linter.unusedVariables false
set_option linter.unusedSimpArgs false
namespace Mine
/-- the simple escapes, over a list -/
def sL : List Nat → List Nat
  | [] => []
  | [c] => [c]
  | c :: d :: r => if c = 92 ∧ d ≠ 10 then d :: sL r else c :: sL (d :: r)
theorem sL_plain {c : Nat} (h : c ≠ 92) : ∀ w, sL (c :: w) = c :: sL w
  | [] => rfl
  | d :: r => by rw [sL, if_neg (fun q => h q.1)]
theorem sL_two {d : Nat} (h : d ≠ 10) (w : List Nat) : sL (92 :: d :: w) = d :: sL w := by rw [sL, if_pos ⟨rfl, h⟩]
theorem sL_end : sL [92] = [92] := rfl
theorem sL_nl (w : List Nat) : sL (92 :: 10 :: w) = 92 :: sL (10 :: w) := by rw [sL, if_neg (fun q => q.2 rfl)]
theorem simple_sL {w : List Nat} : ∀ n p, w.length - p ≤ n → simple w n p = sL (w.drop p) := by
  intro n
  induction n using Nat.strongRecOn with
  | _ n ih =>
    intro p hn
    cases n with
    | zero =>
      rw [List.drop_of_length_le (by omega)]
      rfl
    | succ n =>
      unfold simple
      by_cases hp : p < w.length
      · rw [if_pos hp, slc_two]
        have e1 : w.getD p 0 = w[p] := by rw [List.getD_eq_getElem?_getD, List.getElem?_eq_getElem hp]; rfl
        by_cases hp1 : p + 1 < w.length
        · have e2 : w.getD (p + 1) 0 = w[p + 1] := by rw [List.getD_eq_getElem?_getD, List.getElem?_eq_getElem hp1]; rfl
          rw [if_pos hp1, e1, e2, List.drop_eq_getElem_cons hp, List.drop_eq_getElem_cons hp1, sL]
          by_cases hc : w[p] = 92 ∧ w[p + 1] ≠ 10
          · rw [if_pos hc, if_pos ⟨hc.1, by simpa using hc.2⟩]
            rw [ih n (Nat.lt_succ_self _) (p + 2) (by omega)]
          · rw [if_neg hc, if_neg (fun q => hc ⟨q.1, by simpa using q.2⟩), ih n (Nat.lt_succ_self _) (p + 1) (by omega), List.drop_eq_getElem_cons hp1]
        · rw [if_neg hp1, if_neg (fun q => q.2 (.head _)), e1, List.drop_eq_getElem_cons hp, List.drop_of_length_le (show w.length ≤ p + 1 by omega), ih n (Nat.lt_succ_self _) (p + 1) (by omega), List.drop_of_length_le (show w.length ≤ p + 1 by omega)]
          rfl
      · rw [if_neg hp, List.drop_of_length_le (by omega)]
        rfl
theorem uident_is {t : List Nat} {i e : Nat} (hi : i ≤ e) (he : e ≤ t.length) : uident ((t.drop i).take (e - i)) = sL (unesc (t.take e) (e - i) i) := by
  have e0 : (t.drop i).take (e - i) = (t.take e).drop i := by rw [List.drop_take]
  have hl : (t.take e).length = e := by rw [List.length_take]; omega
  unfold uident
  rw [e0, simple_sL _ _ (by omega), List.drop_zero, unesc_drop (by omega), List.length_drop, hl]
  rfl
end Mine
end
section
open PySem
set_option Elab.async false
set_option linter.unusedVariables false
set_option linter.unusedSimpArgs false
namespace Mine
theorem hexVal_92 {l : List Nat} (hx : ∀ c ∈ l, c ∈ sixteen) (h : hexVal l = 92) : ∃ pre b, l = pre ++ [53, b] ∧ b ∈ [99, 67] := by
  rcases List.eq_nil_or_concat l with rfl | ⟨l1, b, rfl⟩
  · cases h
  · rw [List.concat_eq_append] at hx h ⊢
    rw [hexVal_snoc] at h
    have hb := hx b (by simp)
    have hbd := hexDigit_lt b hb
    have h12 : hexDigit b = 12 := by omega
    have h5 : hexVal l1 = 5 := by omega
    rcases List.eq_nil_or_concat l1 with rfl | ⟨pre, a, rfl⟩
    · cases h5
    · rw [List.concat_eq_append] at hx h5 ⊢
      rw [hexVal_snoc] at h5
      have ha := hx a (by simp)
      have had := hexDigit_lt a ha
      have ha5 : hexDigit a = 5 := by omega
      have q1 : ∀ c ∈ sixteen, hexDigit c = 5 → c = 53 := by decide
      have q2 : ∀ c ∈ sixteen, hexDigit c = 12 → c ∈ [99, 67] := by decide
      exact ⟨pre, b, by rw [q1 a ha ha5]; simp, q2 b hb h12⟩
/-- where a hex escape says 5c, its figures' last two stand there -/
theorem hex_at {t : List Nat} {p : Nat} (hp : p < t.length) (h : hexVal (hexRun t p) = 92) : ∃ q, p < q ∧ q + 1 < t.length ∧ t.getD q 0 = 53 ∧ t.getD (q + 1) 0 ∈ [99, 67] ∧ q + 2 = p + 1 + (hexRun t p).length ∧ (∀ j, p < j → j ≤ q + 1 → t.getD j 0 ∈ sixteen) := by
  obtain ⟨pre, b, hl, hb⟩ := hexVal_92 (fun c => hexRun_mem) h
  have hend := hexRun_end hp
  have hget : ∀ k, k < (hexRun t p).length → (hexRun t p).getD k 0 = t.getD (p + 1 + k) 0 := fun k hk => (hex_step (Nat.le_of_lt hk)).2 hk
  have hlen : (hexRun t p).length = pre.length + 2 := by rw [hl, List.length_append]; rfl
  have g1 := hget pre.length (by omega)
  have g2 := hget (pre.length + 1) (by omega)
  rw [hl, List.getD_eq_getElem?_getD, List.getElem?_append_right (Nat.le_refl _), Nat.sub_self] at g1
  rw [hl, List.getD_eq_getElem?_getD, List.getElem?_append_right (by omega), Nat.add_sub_cancel_left] at g2
  refine ⟨p + 1 + pre.length, by omega, by omega, g1.symm, ?_, by omega, fun j h1 h2 => ?_⟩
  · rw [show p + 1 + pre.length + 1 = p + 1 + (pre.length + 1) by omega, ← g2]; exact hb
  · have := ((hex_step (t := t) (i := p) (k := j - (p + 1)) (by omega)).1.mp (by omega)).2.2
    rw [show p + 1 + (j - (p + 1)) = j by omega] at this
    exact this
end Mine
end
section
open PySem
set_option Elab.async false
set_option linter.unusedVariables false
set_option linter.unusedSimpArgs false
namespace Mine
theorem getD_hd {hd tl : List Nat} {i : Nat} (h : i < hd.length) : (hd ++ tl).getD i 0 = hd.getD i 0 := by
  rw [List.getD_eq_getElem?_getD, List.getD_eq_getElem?_getD, List.getElem?_append_left h]
theorem getD_tl {hd tl : List Nat} (k : Nat) : (hd ++ tl).getD (hd.length + k) 0 = tl.getD k 0 := by
  rw [List.getD_eq_getElem?_getD, List.getD_eq_getElem?_getD, List.getElem?_append_right (by omega), Nat.add_sub_cancel_left]
theorem wsEnd_len (t : List Nat) {j : Nat} (h : t.length ≤ j) : wsEnd t j = j := by
  unfold wsEnd
  rw [if_neg (by omega), if_neg (by omega)]
/-- an escape that says 5c stands at the tail's head -/
theorem esc92 {t hd tl : List Nat} (I : Inv t hd tl) {p : Nat} (hp : p < t.length) (h92 : t.getD p 0 = 92) (h : hexVal (hexRun t p) = 92) :
    wsEnd t (p + 1 + (hexRun t p).length) = t.length ∨
    (wsEnd t (p + 1 + (hexRun t p).length) + 2 = t.length ∧ t.getD (wsEnd t (p + 1 + (hexRun t p).length)) 0 = 92 ∧ hexRun t (wsEnd t (p + 1 + (hexRun t p).length)) = [97]) := by
  obtain ⟨q, h1, h2, h3, h4, h5, h6⟩ := hex_at hp h
  have hL := congrArg List.length I.is
  rw [List.length_append] at hL
  rw [← h5]
  have hq : hd.length ≤ q + 1 := by
    rcases Nat.lt_or_ge (q + 1) hd.length with z | z
    · exfalso
      rw [I.is, getD_hd (by omega)] at h3
      rw [I.is, getD_hd z] at h4
      exact I.fc q z h3 h4
    · exact z
  have htl : tl ≠ [] := by
    rintro rfl
    simp at hL
    omega
  have h0 : tl.getD 0 0 = 92 := by rcases I.tails with e | e | e <;> first | exact absurd e htl | (rw [e]; rfl)
  have hpd : hd.length ≤ p := by
    rcases Nat.lt_or_ge p hd.length with z | z
    · exfalso
      have := h6 hd.length z hq
      rw [I.is, show hd.length = hd.length + 0 from rfl, getD_tl, h0] at this
      revert this; decide
    · exact z
  obtain ⟨k, rfl⟩ : ∃ k, p = hd.length + k := ⟨p - hd.length, by omega⟩
  obtain ⟨m, rfl⟩ : ∃ m, q = hd.length + m := ⟨q - hd.length, by omega⟩
  rw [I.is, getD_tl] at h92 h3
  rcases I.tails with e | e | e
  · exact absurd e htl
  · left
    have hl3 : tl.length = 3 := by rw [e]; rfl
    have hm : m = 1 := by omega
    rw [wsEnd_len _ (by omega)]
    omega
  · have hl6 : tl.length = 6 := by rw [e]; rfl
    have hm : m = 1 := by
      have hm5 : m ≤ 4 := by omega
      have hk : k < m := by omega
      rw [e] at h3
      have : m = 1 ∨ m = 2 ∨ m = 3 ∨ m = 4 := by omega
      rcases this with rfl | rfl | rfl | rfl
      · rfl
      · cases h3
      · cases h3
      · cases h3
    subst hm
    right
    have hw : wsEnd t (hd.length + 1 + 2) = hd.length + 4 := by
      unfold wsEnd
      have e3 : t.getD (hd.length + 1 + 2) 0 = 32 := by rw [I.is, show hd.length + 1 + 2 = hd.length + 3 by omega, getD_tl, e]; rfl
      rw [e3, if_neg (by rintro ⟨_, z, _⟩; cases z), if_pos ⟨by omega, by decide⟩]
    rw [hw]
    refine ⟨by omega, by rw [I.is, getD_tl, e]; rfl, ?_⟩
    unfold hexRun
    rw [I.is, show hd.length + 4 + 1 = hd.length + 5 by omega, List.drop_append, e]
    rw [List.drop_of_length_le (by omega)]
    simp only [Nat.add_sub_cancel_left, List.nil_append]
    decide
end Mine
end
section
open PySem
set_option Elab.async false
set_option linter.unusedVariables false
set_option linter.unusedSimpArgs false
namespace Mine
theorem fixed_92 {c : Nat} : fixed c = 92 ↔ c = 92 := by unfold fixed; split <;> omega
theorem take_len {t : List Nat} {e : Nat} (h : e ≤ t.length) : (t.take e).length = e := by rw [List.length_take]; omega
theorem escAt_cut {t : List Nat} {e p : Nat} (he : e ≤ t.length) (hp : p < e) (h : p + 1 + (hexRun t p).length ≤ e) : escAt (t.take e) p = escAt t p := by
  unfold escAt
  rw [take_len he, getD_take hp, hexRun_cut h, decide_eq_true hp, decide_eq_true (show p < t.length by omega)]
theorem unesc_hex {t : List Nat} {e p : Nat} (he : e ≤ t.length) (h : escAt t p = true) (hk : wsEnd t (p + 1 + (hexRun t p).length) ≤ e) :
    unesc (t.take e) (e - p) p = fixed (hexVal (hexRun t p)) :: unesc (t.take e) (e - wsEnd t (p + 1 + (hexRun t p).length)) (wsEnd t (p + 1 + (hexRun t p).length)) := by
  have hge := wsEnd_ge t (p + 1 + (hexRun t p).length)
  rw [show e - p = (e - p - 1) + 1 by omega, unesc, take_len he, if_pos (by omega), escAt_cut he (by omega) (by omega), if_pos h, hexRun_cut (by omega), wsEnd_cut he hk (by omega)]
  rw [unesc_fuel _ (e - p - 1) (e - wsEnd t (p + 1 + (hexRun t p).length)) _ (by rw [take_len he]; omega) (by rw [take_len he]; exact Nat.le_refl _)]
theorem unesc_plain {t : List Nat} {e p : Nat} (he : e ≤ t.length) (hp : p < e) (h : escAt (t.take e) p = false) :
    unesc (t.take e) (e - p) p = t.getD p 0 :: unesc (t.take e) (e - (p + 1)) (p + 1) := by
  rw [show e - p = (e - (p + 1)) + 1 by omega, unesc, take_len he, if_pos hp, h, if_neg Bool.false_ne_true, getD_take hp]
theorem escAt_not {u : List Nat} {p : Nat} (h : u.getD p 0 ≠ 92) : escAt u p = false := by
  unfold escAt
  rw [decide_eq_false h]
  simp
theorem starEnd_ge {nxt : Nat → Option Nat} (hn : ∀ p q, nxt p = some q → p < q) : ∀ n p, p ≤ starEnd nxt n p
  | 0, p => Nat.le_refl _
  | n + 1, p => by
    unfold starEnd
    cases z : nxt p with
    | none => exact Nat.le_refl _
    | some r => have := hn p r z; have := starEnd_ge hn n r; dsimp only; omega
/-- the value of a name: two readings, one answer -/
theorem name_value {t hd tl : List Nat} (I : Inv t hd tl) (hbb : ∀ i, i + 1 < t.length → t.getD i 0 = 92 → t.getD (i + 1) 0 ≠ 92) : ∀ n i said, i ≤ t.length → t.length - i ≤ n →
    (name t n said i).1 = said ++ sL (unesc (t.take (name t n said i).2) ((name t n said i).2 - i) i) := by
  have hT := I.al
  have hle : ∀ n said i, i ≤ t.length → (name t n said i).2 ≤ t.length := fun n said i h => by
    rw [name_end hT]; exact starEnd_le (t := t) (nxt := nameNext t isName) (fun p q h => (nameNext_le h).2) n i h
  have stop : ∀ (i : Nat) (said : List Nat), said = said ++ sL (unesc (t.take i) (i - i) i) := fun i said => by
    rw [Nat.sub_self]; simp [unesc, sL]
  intro n
  induction n with
  | zero => intro i said _ _; exact stop i said
  | succ n ih =>
    intro i said hi hn
    have hE := hle (n + 1) said i hi
    rw [name] at hE ⊢
    by_cases hlt : i < t.length
    · rw [if_pos hlt] at hE ⊢
      by_cases h92 : t.getD i 0 = 92
      · rw [if_pos h92] at hE ⊢
        by_cases hesc : (escape t i).2 = i
        · rw [if_pos hesc]; exact stop i said
        · rw [if_neg hesc] at hE ⊢
          have hg := escape_ge t i
          by_cases hr : hexRun t i = []
          · have he : escape t i = ([t.getD (i + 1) 0], i + 2) ∧ i + 1 < t.length ∧ t.getD (i + 1) 0 ∉ [10, 13, 12] := by
              unfold escape at hesc ⊢
              dsimp only at hesc ⊢
              rw [if_pos hr] at hesc ⊢
              by_cases h1 : i + 1 < t.length ∧ t.getD (i + 1) 0 ∉ [10, 13, 12]
              · rw [if_pos h1]; exact ⟨rfl, h1⟩
              · rw [if_neg h1] at hesc; exact absurd rfl hesc
            obtain ⟨he, h1, h2⟩ := he
            rw [he] at hE ⊢
            have hge := name_ge t n (said ++ [t.getD (i + 1) 0]) (i + 2)
            have IH := ih (i + 2) (said ++ [t.getD (i + 1) 0]) (by omega) (by omega)
            generalize hN : name t n (said ++ [t.getD (i + 1) 0]) (i + 2) = N at hE hge IH ⊢
            have hE : N.2 ≤ t.length := hE
            have hge : i + 2 ≤ N.2 := hge
            show N.1 = _
            rw [IH, List.append_assoc]
            congr 1
            have e1 : escAt (t.take N.2) i = false := by rw [escAt_cut hE (by omega) (by rw [hr]; show i + 1 + 0 ≤ _; omega)]; unfold escAt; rw [hr]; simp
            have e2 : escAt (t.take N.2) (i + 1) = false := escAt_not (by rw [getD_take (by omega)]; exact hbb i h1 h92)
            rw [unesc_plain hE (by omega) e1, unesc_plain hE (by omega) e2, h92, sL_two (fun q => h2 (by rw [q]; decide))]
            rfl
          · have hea : escAt t i = true := by unfold escAt; rw [decide_eq_true hlt, decide_eq_true h92, decide_eq_true hr]; rfl
            have he : escape t i = ([fixed (hexVal (hexRun t i))], wsEnd t (i + 1 + (hexRun t i).length)) := by
              unfold escape; dsimp only; rw [if_neg hr, white_is]
            have hwl := wsEnd_le (hexRun_end hlt)
            have hwg := wsEnd_ge t (i + 1 + (hexRun t i).length)
            rw [he] at hE ⊢
            have hge := name_ge t n (said ++ [fixed (hexVal (hexRun t i))]) (wsEnd t (i + 1 + (hexRun t i).length))
            have IH := ih (wsEnd t (i + 1 + (hexRun t i).length)) (said ++ [fixed (hexVal (hexRun t i))]) hwl (by omega)
            generalize hN : name t n (said ++ [fixed (hexVal (hexRun t i))]) (wsEnd t (i + 1 + (hexRun t i).length)) = N at hE hge IH ⊢
            have hE : N.2 ≤ t.length := hE
            have hge : wsEnd t (i + 1 + (hexRun t i).length) ≤ N.2 := hge
            show N.1 = _
            rw [IH, List.append_assoc, unesc_hex hE hea hge]
            congr 1
            by_cases hv : fixed (hexVal (hexRun t i)) = 92
            · rw [hv]
              rcases esc92 I hlt h92 (fixed_92.mp hv) with z | ⟨z1, z2, z3⟩
              · have : N.2 = wsEnd t (i + 1 + (hexRun t i).length) := by omega
                rw [this, Nat.sub_self]
                rfl
              · generalize hk : wsEnd t (i + 1 + (hexRun t i).length) = k at *
                have hkl : k < t.length := by omega
                have hek : escAt t k = true := by unfold escAt; rw [decide_eq_true hkl, decide_eq_true z2, z3]; rfl
                have hwk : wsEnd t (k + 1 + (hexRun t k).length) = t.length := by rw [z3, wsEnd_len _ (by show t.length ≤ k + 1 + 1; omega)]; show k + 1 + 1 = _; omega
                have hN2 : N.2 = t.length := by
                  have h1 : N.2 = starEnd (nameNext t isName) n k := by rw [← hN, name_end hT]
                  have h2 : nameNext t isName k = some t.length := by
                    unfold nameNext
                    rw [if_neg (by rintro ⟨_, q⟩; rw [z2] at q; revert q; decide), if_pos hek, hwk]
                  rw [show n = (n - 1) + 1 by omega, starEnd, h2] at h1
                  have h3 := starEnd_ge (nxt := nameNext t isName) (fun p q h => (nameNext_le h).1) (n - 1) t.length
                  dsimp only at h1
                  omega
                rw [hN2, unesc_hex (Nat.le_refl _) hek (by omega), z3]
                show sL (92 :: 10 :: _) = [92] ++ sL (10 :: _)
                rw [sL_nl]
                rfl
            · rw [sL_plain hv]
              rfl
      · rw [if_neg h92] at hE ⊢
        by_cases hs : nameSign (t.getD i 0) = true
        · rw [if_pos hs] at hE ⊢
          have hge := name_ge t n (said ++ [t.getD i 0]) (i + 1)
          have IH := ih (i + 1) (said ++ [t.getD i 0]) (by omega) (by omega)
          generalize hN : name t n (said ++ [t.getD i 0]) (i + 1) = N at hE hge IH ⊢
          rw [IH, List.append_assoc]
          congr 1
          have e1 : escAt (t.take N.2) i = false := escAt_not (by rw [getD_take (by omega)]; exact h92)
          rw [unesc_plain hE (by omega) e1, sL_plain h92]
          rfl
        · rw [if_neg hs]; exact stop i said
    · rw [if_neg hlt]; exact stop i said
end Mine
end
section
open PySem
set_option Elab.async false
set_option linter.unusedVariables false
set_option linter.unusedSimpArgs false
namespace Mine
theorem inv_bb {t hd tl : List Nat} (I : Inv t hd tl) : ∀ i, i + 1 < t.length → t.getD i 0 = 92 → t.getD (i + 1) 0 ≠ 92 := by
  intro i hi hb
  have hL := congrArg List.length I.is
  rw [List.length_append] at hL
  rcases Nat.lt_trichotomy (i + 1) hd.length with h | h | h
  · rw [I.is, getD_hd (by omega)] at hb
    rw [I.is, getD_hd h]
    exact I.bb i h hb
  · exfalso
    have htl : tl ≠ [] := by rintro rfl; simp at hL; omega
    have hhd : hd ≠ [] := by rintro rfl; simp at h
    rw [I.is, getD_hd (by omega)] at hb
    exact I.last htl hhd (by rw [← h, Nat.add_sub_cancel]; exact hb)
  · obtain ⟨k, rfl⟩ : ∃ k, i = hd.length + k := ⟨i - hd.length, by omega⟩
    rw [I.is, getD_tl] at hb
    rw [I.is, show hd.length + k + 1 = hd.length + (k + 1) by omega, getD_tl]
    rcases I.tails with e | e | e
    · rw [e] at hL; simp at hL; omega
    · rw [e] at hb ⊢
      have hk : k < 2 := by rw [e] at hL; simp only [List.length_cons, List.length_nil] at hL; omega
      have : k = 0 ∨ k = 1 := by omega
      rcases this with rfl | rfl
      · decide
      · cases hb
    · rw [e] at hb ⊢
      have hk : k < 5 := by rw [e] at hL; simp only [List.length_cons, List.length_nil] at hL; omega
      have : k = 0 ∨ k = 1 ∨ k = 2 ∨ k = 3 ∨ k = 4 := by omega
      rcases this with rfl | rfl | rfl | rfl | rfl
      · decide
      · cases hb
      · cases hb
      · cases hb
      · decide
theorem nm_le {t hd tl : List Nat} (I : Inv t hd tl) {i : Nat} (hi : i ≤ t.length) : (nm t i).2 ≤ t.length := by
  unfold nm
  rw [name_end I.al]
  exact starEnd_le (t := t) (nxt := nameNext t isName) (fun p q h => (nameNext_le h).2) _ i hi
/-- what the program makes of a name's part is what the law says of it -/
theorem nm_value {t hd tl : List Nat} (I : Inv t hd tl) {i : Nat} (hi : i ≤ t.length) : uident ((t.drop i).take ((nm t i).2 - i)) = (nm t i).1 := by
  have hge : i ≤ (nm t i).2 := name_ge _ _ _ _
  rw [uident_is hge (nm_le I hi)]
  have := name_value I (inv_bb I) (t.length - i) i [] hi (Nat.le_refl _)
  rw [List.nil_append] at this
  exact this.symm
end Mine
end
section
open PySem
set_option Elab.async false
set_option linter.unusedVariables false
set_option linter.unusedSimpArgs false
namespace Mine
/-- what sub leaves from p on -/
def subP (t : List Nat) (p : Nat) : List Nat := subFrom t (t.length + 1) p
theorem firstNl_end {t : List Nat} : ∀ n p, t.length ≤ p → firstNl t n p = none := by
  intro n
  induction n with
  | zero => intro p _; rfl
  | succ n ih =>
    intro p hp
    unfold firstNl
    have : nlAt t p = none := by unfold nlAt; rw [if_neg (by omega)]
    rw [this]
    exact ih (p + 1) (by omega)
theorem firstNl_fuel {t : List Nat} : ∀ n m p, t.length - p ≤ n → t.length - p ≤ m → firstNl t n p = firstNl t m p := by
  intro n
  induction n with
  | zero => intro m p h1 h2; rw [firstNl_end m p (by omega)]; rfl
  | succ n ih =>
    intro m p h1 h2
    cases m with
    | zero => rw [firstNl_end (n + 1) p (by omega)]; rfl
    | succ m =>
      unfold firstNl
      cases nlAt t p with
      | some q => rfl
      | none => exact ih m (p + 1) (by omega) (by omega)
theorem subFrom_fuel {t : List Nat} : ∀ n m p, t.length - p < n → t.length - p < m → subFrom t n p = subFrom t m p := by
  intro n
  induction n with
  | zero => intro m p h; omega
  | succ n ih =>
    intro m p h1 h2
    cases m with
    | zero => omega
    | succ m =>
      unfold subFrom
      cases hf : firstNl t (t.length + 1) p with
      | none => rfl
      | some v =>
        obtain ⟨a, b⟩ := v
        have := firstNl_le _ _ hf
        dsimp only
        rw [ih m b (by omega) (by omega)]
theorem subP_end {t : List Nat} {p : Nat} (h : t.length ≤ p) : subP t p = [] := by
  unfold subP subFrom
  rw [firstNl_end _ _ h]
  exact List.drop_of_length_le h
theorem subP_nl {t : List Nat} {p q : Nat} (h : nlAt t p = some q) : subP t p = subP t q := by
  unfold subP
  have hq := nlAt_lt h
  rw [subFrom, firstNl, h]
  show (t.drop p).take (p - p) ++ subFrom t t.length q = _
  rw [Nat.sub_self, List.take_zero, List.nil_append]
  exact subFrom_fuel _ _ _ (by omega) (by omega)
theorem subP_keep {t : List Nat} {p : Nat} (hp : p < t.length) (h : nlAt t p = none) : subP t p = t.getD p 0 :: subP t (p + 1) := by
  have e : t.drop p = t.getD p 0 :: t.drop (p + 1) := by
    rw [List.drop_eq_getElem_cons hp, List.getD_eq_getElem?_getD, List.getElem?_eq_getElem hp]; rfl
  have hf : firstNl t (t.length + 1) p = firstNl t (t.length + 1) (p + 1) := by
    rw [firstNl, h]
    exact firstNl_fuel _ _ _ (by omega) (by omega)
  unfold subP subFrom
  rw [hf]
  cases hg : firstNl t (t.length + 1) (p + 1) with
  | none => exact e
  | some v =>
    obtain ⟨a, b⟩ := v
    have := firstNl_le _ _ hg
    dsimp only
    rw [e, show a - p = (a - (p + 1)) + 1 by omega, List.take_succ_cons]
    rfl
end Mine
end
section
open PySem
set_option Elab.async false
set_option linter.unusedVariables false
set_option linter.unusedSimpArgs false
namespace Mine
theorem nlEnd_cut {t : List Nat} {e p r : Nat} (he : e ≤ t.length) (h : nlEnd t p = some r) (hr : r ≤ e) : nlEnd (t.take e) p = some r := by
  have hle := nlEnd_le h
  unfold nlEnd at h ⊢
  rw [take_len he, getD_take (show p < e by omega)]
  by_cases h1 : p < t.length ∧ t.getD p 0 = 10
  · rw [if_pos h1] at h
    rw [if_pos ⟨by omega, h1.2⟩]; exact h
  · rw [if_neg h1] at h
    rw [if_neg (fun q => h1 ⟨by omega, q.2⟩)]
    by_cases h2 : p + 1 < t.length ∧ t.getD p 0 = 13 ∧ t.getD (p + 1) 0 = 10
    · rw [if_pos h2] at h
      have : r = p + 2 := by cases h; rfl
      rw [getD_take (show p + 1 < e by omega), if_pos ⟨by omega, h2.2⟩]; exact h
    · rw [if_neg h2] at h
      have h2' : ¬ (p + 1 < e ∧ t.getD p 0 = 13 ∧ (t.take e).getD (p + 1) 0 = 10) := by
        rintro ⟨a, b, c⟩
        rw [getD_take a] at c
        exact h2 ⟨by omega, b, c⟩
      rw [if_neg h2']
      by_cases h3 : p < t.length ∧ t.getD p 0 = 13
      · rw [if_pos h3] at h
        rw [if_pos ⟨by omega, h3.2⟩]; exact h
      · rw [if_neg h3] at h
        rw [if_neg (fun q => h3 ⟨by omega, q.2⟩)]
        by_cases h4 : p < t.length ∧ t.getD p 0 = 12
        · rw [if_pos h4] at h
          rw [if_pos ⟨by omega, h4.2⟩]; exact h
        · rw [if_neg h4] at h; cases h
theorem nlEnd_none {t : List Nat} {p : Nat} (h : p < t.length → t.getD p 0 ∉ [10, 13, 12]) : nlEnd t p = none := by
  unfold nlEnd
  rw [if_neg (fun q => h q.1 (by rw [q.2]; decide)), if_neg (fun q => h (by omega) (by rw [q.2.1]; decide)), if_neg (fun q => h q.1 (by rw [q.2]; decide)), if_neg (fun q => h q.1 (by rw [q.2]; decide))]
theorem nlEnd_some {t : List Nat} {p : Nat} (h : p < t.length) (hc : t.getD p 0 ∈ [10, 13, 12]) : nlEnd t p = some (if p + 1 < t.length ∧ t.getD p 0 = 13 ∧ t.getD (p + 1) 0 = 10 then p + 2 else p + 1) := by
  unfold nlEnd
  by_cases h1 : t.getD p 0 = 10
  · rw [if_pos ⟨h, h1⟩, if_neg (by rintro ⟨_, q, _⟩; omega)]
  · rw [if_neg (fun q => h1 q.2)]
    by_cases h2 : p + 1 < t.length ∧ t.getD p 0 = 13 ∧ t.getD (p + 1) 0 = 10
    · rw [if_pos h2, if_pos h2]
    · rw [if_neg h2, if_neg h2]
      by_cases h3 : t.getD p 0 = 13
      · rw [if_pos ⟨h, h3⟩]
      · rw [if_neg (fun q => h3 q.2)]
        have : t.getD p 0 = 12 := by
          simp only [List.mem_cons, List.not_mem_nil, or_false] at hc
          rcases hc with q | q | q
          · exact absurd q h1
          · exact absurd q h3
          · exact q
        rw [if_pos ⟨h, this⟩]
theorem nlAt_cut {t : List Nat} {e p r : Nat} (he : e ≤ t.length) (h92 : t.getD p 0 = 92) (h : nlEnd t (p + 1) = some r) (hr : r ≤ e) : nlAt (t.take e) p = some r := by
  have hle := nlEnd_le h
  unfold nlAt
  rw [take_len he, getD_take (show p < e by omega), if_pos ⟨by omega, h92⟩]
  exact nlEnd_cut he h hr
theorem nlAt_not {u : List Nat} {p : Nat} (h : u.getD p 0 ≠ 92) : nlAt u p = none := by
  unfold nlAt
  rw [if_neg (fun q => h q.2)]
theorem nlAt_none {u : List Nat} {p : Nat} (h : p + 1 < u.length → u.getD (p + 1) 0 ∉ [10, 13, 12]) : nlAt u p = none := by
  unfold nlAt
  split
  · exact nlEnd_none h
  · rfl
/-- a stretch without '\' stays -/
theorem subP_run {u : List Nat} : ∀ m p, p + m ≤ u.length → (∀ i, i < m → u.getD (p + i) 0 ≠ 92) → subP u p = (u.drop p).take m ++ subP u (p + m)
  | 0, p, _, _ => by simp
  | m + 1, p, h, hc => by
    have h0 : u.getD p 0 ≠ 92 := hc 0 (by omega)
    rw [subP_keep (by omega) (nlAt_not h0), subP_run m (p + 1) (by omega) (fun i hi => by have := hc (i + 1) (by omega); rw [show p + 1 + i = p + (i + 1) by omega]; exact this)]
    have hp : p < u.length := by omega
    have e1 : u.getD p 0 = u[p] := by rw [List.getD_eq_getElem?_getD, List.getElem?_eq_getElem hp]; rfl
    rw [List.drop_eq_getElem_cons hp, List.take_succ_cons, e1, show p + 1 + m = p + (m + 1) by omega]
    rfl
/-- the hex escapes, over a list -/
def U (w : List Nat) : List Nat := unesc w w.length 0
theorem U_nil : U [] = [] := rfl
theorem unesc_tail (a : Nat) (w : List Nat) (n p : Nat) : unesc (a :: w) n (p + 1) = unesc w n p := by
  have := unesc_drop (u := a :: w) (i := 1) (by rw [List.length_cons]; omega) n p
  rw [show p + 1 = 1 + p by omega, ← this]
  rfl
theorem U_keep {c : Nat} {w : List Nat} (h : escAt (c :: w) 0 = false) : U (c :: w) = c :: U w := by
  unfold U
  rw [List.length_cons, unesc, if_pos (by rw [List.length_cons]; omega), h, if_neg Bool.false_ne_true, unesc_tail]
  rfl
theorem U_plain {c : Nat} {w : List Nat} (h : c ≠ 92) : U (c :: w) = c :: U w := U_keep (escAt_not h)
theorem tw_run {p : Nat → Bool} : ∀ (m : Nat) (x y : List Nat), x.length ≤ m → (∀ c ∈ x, p c = true) → (x.length = m ∨ y = [] ∨ p (y.getD 0 0) = false) → ((x ++ y).take m).takeWhile p = x
  | 0, [], y, _, _, _ => rfl
  | 0, a :: x, y, h, _, _ => by simp at h
  | m + 1, [], y, _, _, h => by
    rcases h with h | h | h
    · simp at h
    · subst h; rfl
    · cases y with
      | nil => rfl
      | cons b y =>
        have h : p b = false := h
        rw [List.nil_append, List.take_succ_cons, List.takeWhile_cons, h, if_neg Bool.false_ne_true]
  | m + 1, a :: x, y, hl, hx, h => by
    rw [List.cons_append, List.take_succ_cons, List.takeWhile_cons, if_pos (hx a (.head _)), tw_run m x y (by simpa using hl) (fun c hc => hx c (.tail _ hc)) (h.imp (fun q => by simpa using q) id)]
theorem hexRun_app {x y : List Nat} (hl : x.length ≤ 6) (hx : ∀ c ∈ x, isHex c = true) (h : x.length = 6 ∨ y = [] ∨ isHex (y.getD 0 0) = false) : hexRun (92 :: (x ++ y)) 0 = x := by
  unfold hexRun
  exact tw_run 6 x y hl hx h
theorem wsEnd_app (x y : List Nat) : wsEnd (92 :: (x ++ y)) (0 + 1 + x.length) = 1 + x.length + wsEnd y 0 := by
  have h := wsEnd_drop (u := 92 :: (x ++ y)) (i := 1 + x.length) 0 (by simp only [List.length_cons, List.length_append]; omega)
  have e : (92 :: (x ++ y)).drop (1 + x.length) = y := by
    rw [Nat.add_comm, List.drop_succ_cons, List.drop_left]
  rw [e, Nat.add_zero] at h
  rw [show 0 + 1 + x.length = 1 + x.length by omega]
  exact h.symm
theorem U_hex {x y : List Nat} (h0 : x ≠ []) (hl : x.length ≤ 6) (hx : ∀ c ∈ x, isHex c = true) (h : x.length = 6 ∨ y = [] ∨ isHex (y.getD 0 0) = false) : U (92 :: (x ++ y)) = fixed (hexVal x) :: U (y.drop (wsEnd y 0)) := by
  have hr := hexRun_app hl hx h
  have he : escAt (92 :: (x ++ y)) 0 = true := by
    unfold escAt
    rw [hr, decide_eq_true h0, decide_eq_true (show 0 < (92 :: (x ++ y)).length by rw [List.length_cons]; omega)]
    rfl
  have hw := wsEnd_app x y
  have hwl : wsEnd y 0 ≤ y.length := wsEnd_le (Nat.zero_le _)
  unfold U
  rw [List.length_cons, unesc, if_pos (by rw [List.length_cons]; omega), if_pos he, hr, hw]
  have e2 : y.drop (wsEnd y 0) = (92 :: (x ++ y)).drop (1 + x.length + wsEnd y 0) := by
    rw [show 1 + x.length + wsEnd y 0 = (x.length + wsEnd y 0) + 1 by omega, List.drop_succ_cons, ← List.drop_drop, List.drop_left]
  rw [e2]
  have hd := unesc_drop (u := 92 :: (x ++ y)) (i := 1 + x.length + wsEnd y 0) (by simp only [List.length_cons, List.length_append]; omega) ((92 :: (x ++ y)).drop (1 + x.length + wsEnd y 0)).length 0
  rw [hd, Nat.add_zero]
  congr 1
  exact unesc_fuel _ _ _ _ (by simp only [List.length_cons, List.length_append]; omega) (by simp only [List.length_cons, List.length_append, List.length_drop]; omega)
end Mine
end
section
open PySem
set_option Elab.async false
set_option linter.unusedVariables false
set_option linter.unusedSimpArgs false
namespace Mine
theorem inv_bn {t hd tl : List Nat} (I : Inv t hd tl) : ∀ i, i + 1 < t.length → t.getD i 0 = 92 → t.getD (i + 1) 0 ∈ [10, 13, 12] → i = 0 ∨ t.getD (i - 1) 0 ∉ sixteen := by
  intro i hi hb hn
  have hL := congrArg List.length I.is
  rw [List.length_append] at hL
  rcases Nat.lt_or_ge (i + 1) hd.length with h | h
  · rw [I.is, getD_hd (by omega)] at hb
    rw [I.is, getD_hd h] at hn
    rcases I.bn i h hb hn with z | z
    · exact .inl z
    · rw [I.is, getD_hd (by omega)]; exact .inr z
  · exfalso
    obtain ⟨k, hk⟩ : ∃ k, i + 1 = hd.length + k := ⟨i + 1 - hd.length, by omega⟩
    rw [hk, I.is, getD_tl] at hn
    rcases I.tails with e | e | e
    · rw [e] at hL; simp at hL; omega
    · have : k < 3 := by rw [e] at hL; simp only [List.length_cons, List.length_nil] at hL; omega
      rw [e] at hn
      have : k = 0 ∨ k = 1 ∨ k = 2 := by omega
      rcases this with rfl | rfl | rfl <;> revert hn <;> decide
    · have : k < 6 := by rw [e] at hL; simp only [List.length_cons, List.length_nil] at hL; omega
      rw [e] at hn
      have : k = 0 ∨ k = 1 ∨ k = 2 ∨ k = 3 ∨ k = 4 ∨ k = 5 := by omega
      rcases this with rfl | rfl | rfl | rfl | rfl | rfl <;> revert hn <;> decide
theorem escape_hex {t : List Nat} {p : Nat} (h : hexRun t p ≠ []) : escape t p = ([fixed (hexVal (hexRun t p))], wsEnd t (p + 1 + (hexRun t p).length)) := by
  unfold escape; dsimp only; rw [if_neg h, white_is]
theorem escAt_is {t : List Nat} {p : Nat} (hp : p < t.length) (h92 : t.getD p 0 = 92) : escAt t p = decide (hexRun t p ≠ []) := by
  unfold escAt; rw [decide_eq_true hp, decide_eq_true h92]; rfl
theorem getD_run {t : List Nat} {p k : Nat} (hk : k < (hexRun t p).length) : t.getD (p + 1 + k) 0 ∈ sixteen := ((hex_step (t := t) (i := p) (k := k) (by omega)).1.mp hk).2.2
theorem run_stop {t : List Nat} {p : Nat} (h6 : (hexRun t p).length ≠ 6) : p + 1 + (hexRun t p).length < t.length → t.getD (p + 1 + (hexRun t p).length) 0 ∉ sixteen := by
  intro hl hm
  have h := hexRun_len t p
  have := (hex_step (t := t) (i := p) (k := (hexRun t p).length) (Nat.le_refl _)).1.mpr ⟨hl, by omega, hm⟩
  omega
theorem getD_take' (u : List Nat) (a m : Nat) (y : List Nat) (h : a + m ≤ u.length) (hm : 0 < m) : ((u.drop a).take m ++ y).getD 0 0 = u.getD a 0 := by
  obtain ⟨k, rfl⟩ : ∃ k, m = k + 1 := ⟨m - 1, by omega⟩
  rw [List.drop_eq_getElem_cons (by omega), List.take_succ_cons]
  rw [List.getD_eq_getElem?_getD, List.getD_eq_getElem?_getD, List.getElem?_eq_getElem (show a < u.length by omega)]
  rfl
/-- the hex escape of a string -/
theorem str_hex {t hd tl : List Nat} (I : Inv t hd tl) {p e : Nat} (he : e < t.length) (h92 : t.getD p 0 = 92) (hr : hexRun t p ≠ [])
    (hk : wsEnd t (p + 1 + (hexRun t p).length) ≤ e) (hh : (subP (t.take e) (wsEnd t (p + 1 + (hexRun t p).length))).getD 0 0 ≠ 10) :
    subP (t.take e) p = 92 :: (hexRun t p ++ ((t.drop (p + 1 + (hexRun t p).length)).take (wsEnd t (p + 1 + (hexRun t p).length) - (p + 1 + (hexRun t p).length)) ++ subP (t.take e) (wsEnd t (p + 1 + (hexRun t p).length)))) := by
  have hwg := wsEnd_ge t (p + 1 + (hexRun t p).length)
  have hpos : 0 < (hexRun t p).length := List.length_pos_iff.mpr hr
  have hlt := take_len (t := t) (e := e) (by omega)
  generalize hK : p + 1 + (hexRun t p).length = K at *
  generalize hW : wsEnd t K = W at *
  have n16 : ∀ c ∈ sixteen, c ≠ 92 ∧ c ∉ [10, 13, 12] := by decide
  have hfig : ∀ k, k < (hexRun t p).length → (t.take e).getD (p + 1 + k) 0 ∈ sixteen := fun k hk => by
    rw [getD_take (by omega)]; exact getD_run hk
  have h1 : nlAt (t.take e) p = none := nlAt_none (fun _ => (n16 _ (hfig 0 hpos)).2)
  rw [subP_keep (by omega) h1, getD_take (by omega), h92]
  rw [subP_run (hexRun t p).length (p + 1) (by omega) (fun i hi => (n16 _ (hfig i hi)).1), hK]
  have hws : ∀ i, i < W - K → (t.take e).getD (K + i) 0 ≠ 92 := by
    intro i hi
    rw [getD_take (by omega)]
    unfold wsEnd at hW
    split at hW
    · rename_i hc
      have : i = 0 ∨ i = 1 := by omega
      rcases this with rfl | rfl
      · rw [Nat.add_zero, hc.2.1]; decide
      · rw [hc.2.2]; decide
    · split at hW
      · rename_i hc
        have : i = 0 := by omega
        subst this
        rw [Nat.add_zero]
        intro z
        rw [z] at hc
        exact absurd hc.2 (by decide)
      · omega
  rw [subP_run (W - K) K (by omega) hws, show K + (W - K) = W by omega]
  congr 1
  congr 1
  · rw [List.drop_take, List.take_take, show min (hexRun t p).length (e - (p + 1)) = (hexRun t p).length by omega]
    exact hexRun_take t p
  · congr 1
    rw [List.drop_take, List.take_take, show min (W - K) (e - K) = W - K by omega]
end Mine
end
section
open PySem
set_option Elab.async false
set_option linter.unusedVariables false
set_option linter.unusedSimpArgs false
namespace Mine
theorem ws_nohex : ∀ c, isWs c = true → isHex c = false := by
  intro c h
  have : ∀ c ∈ ws, isHex c = false := by decide
  exact this c (of_decide_eq_true h)
theorem wsEnd_two {y : List Nat} : wsEnd (13 :: 10 :: y) 0 = 2 := by
  unfold wsEnd
  rw [if_pos ⟨by simp only [List.length_cons]; omega, rfl, rfl⟩]
theorem wsEnd_one {c : Nat} {y : List Nat} (hc : isWs c = true) (hy : y.getD 0 0 ≠ 10) : wsEnd (c :: y) 0 = 1 := by
  unfold wsEnd
  rw [if_neg (fun q => hy q.2.2), if_pos ⟨by simp only [List.length_cons]; omega, hc⟩]
theorem wsEnd_zero {y : List Nat} (h : 0 < y.length → isWs (y.getD 0 0) = false) : wsEnd y 0 = 0 := by
  unfold wsEnd
  rw [if_neg, if_neg]
  · rintro ⟨a, b⟩; rw [h a] at b; cases b
  · rintro ⟨a, b, _⟩
    have := h (by omega)
    rw [b] at this
    revert this; decide
theorem take_one {t : List Nat} {K : Nat} (h : K < t.length) : (t.drop K).take 1 = [t.getD K 0] := by
  rw [List.drop_eq_getElem_cons h, List.getD_eq_getElem?_getD, List.getElem?_eq_getElem h]; rfl
theorem take_two {t : List Nat} {K : Nat} (h : K + 1 < t.length) : (t.drop K).take 2 = [t.getD K 0, t.getD (K + 1) 0] := by
  rw [List.drop_eq_getElem_cons (show K < t.length by omega), List.drop_eq_getElem_cons h, List.getD_eq_getElem?_getD, List.getElem?_eq_getElem (show K < t.length by omega), List.getD_eq_getElem?_getD, List.getElem?_eq_getElem h]; rfl
theorem str_hexU {t hd tl : List Nat} (I : Inv t hd tl) {p e : Nat} (he : e < t.length) (h92 : t.getD p 0 = 92) (hr : hexRun t p ≠ [])
    (hk : wsEnd t (p + 1 + (hexRun t p).length) ≤ e) (hh : (subP (t.take e) (wsEnd t (p + 1 + (hexRun t p).length))).getD 0 0 ≠ 10) :
    U (subP (t.take e) p) = fixed (hexVal (hexRun t p)) :: U (subP (t.take e) (wsEnd t (p + 1 + (hexRun t p).length))) := by
  rw [str_hex I he h92 hr hk hh]
  have hpos : 0 < (hexRun t p).length := List.length_pos_iff.mpr hr
  have h6 := hexRun_len t p
  have hx : ∀ c ∈ hexRun t p, isHex c = true := fun c h => decide_eq_true (hexRun_mem h)
  have hwg := wsEnd_ge t (p + 1 + (hexRun t p).length)
  have hlt := take_len (t := t) (e := e) (by omega)
  have hlast : t.getD (p + 1 + (hexRun t p).length - 1) 0 ∈ sixteen := by
    have := getD_run (t := t) (p := p) (k := (hexRun t p).length - 1) (by omega)
    rwa [show p + 1 + ((hexRun t p).length - 1) = p + 1 + (hexRun t p).length - 1 by omega] at this
  have hstop := run_stop (t := t) (p := p)
  generalize hK : p + 1 + (hexRun t p).length = K at *
  generalize hW : wsEnd t K = W at *
  have fin : ∀ y rest : List Nat, y = (t.drop K).take (W - K) ++ subP (t.take e) W → (hexRun t p).length = 6 ∨ y = [] ∨ isHex (y.getD 0 0) = false → y.drop (wsEnd y 0) = subP (t.take e) W →
      U (92 :: (hexRun t p ++ ((t.drop K).take (W - K) ++ subP (t.take e) W))) = fixed (hexVal (hexRun t p)) :: U (subP (t.take e) W) := by
    intro y rest hy h1 h2
    rw [← hy, U_hex hr h6 hx h1, h2]
  have hW2 := hW
  unfold wsEnd at hW2
  split at hW2
  · rename_i hc
    subst hW2
    refine fin (13 :: 10 :: subP (t.take e) (K + 2)) [] ?_ (.inr (.inr (by show isHex 13 = false; decide))) (by rw [wsEnd_two]; rfl)
    rw [Nat.add_sub_cancel_left, take_two hc.1, hc.2.1, hc.2.2]; rfl
  · split at hW2
    · rename_i hc
      subst hW2
      refine fin (t.getD K 0 :: subP (t.take e) (K + 1)) [] ?_ (.inr (.inr (ws_nohex _ hc.2))) (by rw [wsEnd_one hc.2 hh]; rfl)
      rw [Nat.add_sub_cancel_left, take_one hc.1]; rfl
    · rename_i hn
      subst hW2
      refine fin (subP (t.take e) K) [] (by rw [Nat.sub_self]; rfl) ?_ ?_
      · rcases Nat.lt_or_ge K e with z | z
        · by_cases q6 : (hexRun t p).length = 6
          · exact .inl q6
          · right; right
            have hs := hstop q6 (by omega)
            have : nlAt (t.take e) K = none := by
              by_cases q : t.getD K 0 = 92
              · refine nlAt_none fun hl => ?_
                rw [getD_take (by omega)]
                intro hm
                rcases inv_bn I K (by omega) q hm with y | y
                · omega
                · exact y hlast
              · exact nlAt_not (by rw [getD_take z]; exact q)
            rw [subP_keep (by omega) this, getD_take z]
            exact decide_eq_false hs
        · right; left; exact subP_end (by omega)
      · rw [wsEnd_zero]
        · rfl
        · rcases Nat.lt_or_ge K e with z | z
          · intro _
            have : nlAt (t.take e) K = none := by
              by_cases q : t.getD K 0 = 92
              · refine nlAt_none fun hl => ?_
                rw [getD_take (by omega)]
                intro hm
                rcases inv_bn I K (by omega) q hm with y | y
                · omega
                · exact y hlast
              · exact nlAt_not (by rw [getD_take z]; exact q)
            rw [subP_keep (by omega) this, getD_take z]
            show isWs (t.getD K 0) = false
            cases hw : isWs (t.getD K 0) with
            | false => rfl
            | true => exact absurd ⟨by omega, hw⟩ hn
          · rw [subP_end (by omega)]; intro q; exact absurd q (by decide)
end Mine
end
section
open PySem
set_option Elab.async false
set_option linter.unusedVariables false
set_option linter.unusedSimpArgs false
namespace Mine
theorem strNext_hex {t : List Nat} {q p : Nat} (hq : q = 39 ∨ q = 34) (hp : p < t.length) (h92 : t.getD p 0 = 92) (hr : hexRun t p ≠ []) : strNext t q p = some (wsEnd t (p + 1 + (hexRun t p).length)) := by
  have hpos : 0 < (hexRun t p).length := List.length_pos_iff.mpr hr
  have n16 : ∀ c ∈ sixteen, c ∉ [10, 13, 12] := by decide
  have h1 : nlEnd t (p + 1) = none := nlEnd_none (fun _ => n16 _ (getD_run (t := t) (p := p) (k := 0) hpos))
  unfold strNext
  rw [if_neg (fun z => z.2 (by rw [h92]; simp)), h1, if_neg (by rintro ⟨_, _, z⟩; cases z), if_pos (by rw [escAt_is hp h92, decide_eq_true hr])]
theorem strNext_two {t : List Nat} {q p : Nat} (h1 : p + 1 < t.length) (h92 : t.getD p 0 = 92) (hr : hexRun t p = []) (hn : t.getD (p + 1) 0 ∉ [10, 13, 12]) : strNext t q p = some (p + 2) := by
  have h2 : nlEnd t (p + 1) = none := nlEnd_none (fun _ => hn)
  unfold strNext
  rw [if_neg (fun z => z.2 (by rw [h92]; simp)), h2, if_neg (by rintro ⟨_, _, z⟩; cases z), if_neg (by rw [escAt_is (by omega) h92, hr]; simp), if_pos]
  unfold twoAt isPlainEsc
  rw [decide_eq_true h1, decide_eq_true h92, (hexRun_nil h1).mp hr, decide_eq_false hn]
  rfl
theorem strNext_nl {t : List Nat} {q p r : Nat} (h1 : p + 1 < t.length) (h92 : t.getD p 0 = 92) (hn : nlEnd t (p + 1) = some r) : strNext t q p = some r := by
  unfold strNext
  rw [if_neg (fun z => z.2 (by rw [h92]; simp)), hn, if_pos ⟨by omega, h92, rfl⟩]
theorem memL {c q : Nat} (h : c ∈ [10, 13, 12, q]) : c ∈ [10, 13, 12, 92, q] := by
  simp only [List.mem_cons, List.not_mem_nil, or_false] at h ⊢
  rcases h with h | h | h | h
  · exact .inl h
  · exact .inr (.inl h)
  · exact .inr (.inr (.inl h))
  · exact .inr (.inr (.inr (.inr h)))
theorem memM {c q : Nat} (h : c ∈ [10, 13, 12]) : c ∈ [10, 13, 12, q] := by
  simp only [List.mem_cons, List.not_mem_nil, or_false] at h ⊢
  rcases h with h | h | h
  · exact .inl h
  · exact .inr (.inl h)
  · exact .inr (.inr (.inl h))
theorem strNext_stop {t : List Nat} {q p : Nat} (h : t.getD p 0 ∈ [10, 13, 12, q] ∨ t.length ≤ p) (hq : q = 39 ∨ q = 34) : strNext t q p = none := by
  rcases h with h | h
  · have h92 : t.getD p 0 ≠ 92 := by
      intro z
      rw [z] at h
      rcases hq with rfl | rfl <;> revert h <;> decide
    unfold strNext
    rw [if_neg (fun z => z.2 (memL h)), if_neg (fun z => h92 z.2.1), escAt_not h92, if_neg Bool.false_ne_true, if_neg]
    unfold twoAt
    rw [decide_eq_false h92]; simp
  · unfold strNext
    rw [if_neg (by omega), if_neg (by omega), if_neg (by unfold escAt; rw [decide_eq_false (by omega)]; simp), if_neg (by unfold twoAt; rw [decide_eq_false (by omega)]; simp)]
/-- the value of a string's part -/
def strVal (t : List Nat) (e p : Nat) : List Nat := sL (U (subP (t.take e) p))
theorem quoted_is {t hd tl : List Nat} (I : Inv t hd tl) {q : Nat} (hq : q = 39 ∨ q = 34) : ∀ n said p, p ≤ t.length → t.length - p ≤ n →
    (¬ (starEnd (strNext t q) n p < t.length ∧ t.getD (starEnd (strNext t q) n p) 0 = q) → quoted t q n said p = none) ∧
    (starEnd (strNext t q) n p < t.length → t.getD (starEnd (strNext t q) n p) 0 = q → quoted t q n said p = some (said ++ strVal t (starEnd (strNext t q) n p) p, starEnd (strNext t q) n p + 1) ∧ (subP (t.take (starEnd (strNext t q) n p)) p).getD 0 0 ≠ 10) := by
  intro n
  induction n with
  | zero =>
    intro said p hp hn
    refine ⟨fun _ => rfl, fun h => ?_⟩
    have : starEnd (strNext t q) 0 p = p := rfl
    omega
  | succ n ih =>
    intro said p hp hn
    have hE := starEnd_le (t := t) (nxt := strNext t q) (fun p q h => (strNext_le h).2) (n + 1) p hp
    have hqn : q ∉ [10, 13, 12, 92] := by rcases hq with rfl | rfl <;> decide
    have step : ∀ r x, strNext t q p = some r → p < r → r ≤ t.length → quoted t q (n + 1) said p = quoted t q n (said ++ x) r →
        (∀ e, e < t.length → r ≤ e → e = starEnd (strNext t q) n r → (subP (t.take e) r).getD 0 0 ≠ 10 → strVal t e p = x ++ strVal t e r ∧ (subP (t.take e) p).getD 0 0 ≠ 10) →
        (¬ (starEnd (strNext t q) (n + 1) p < t.length ∧ t.getD (starEnd (strNext t q) (n + 1) p) 0 = q) → quoted t q (n + 1) said p = none) ∧
        (starEnd (strNext t q) (n + 1) p < t.length → t.getD (starEnd (strNext t q) (n + 1) p) 0 = q → quoted t q (n + 1) said p = some (said ++ strVal t (starEnd (strNext t q) (n + 1) p) p, starEnd (strNext t q) (n + 1) p + 1) ∧ (subP (t.take (starEnd (strNext t q) (n + 1) p)) p).getD 0 0 ≠ 10) := by
      intro r x h1 h2 h3 h4 h5
      have hs : starEnd (strNext t q) (n + 1) p = starEnd (strNext t q) n r := by rw [starEnd, h1]
      have hge := starEnd_ge (nxt := strNext t q) (fun p q h => (strNext_le h).1) n r
      obtain ⟨i1, i2⟩ := ih (said ++ x) r h3 (by omega)
      rw [hs, h4]
      refine ⟨i1, fun a b => ?_⟩
      obtain ⟨j1, j2⟩ := i2 a b
      obtain ⟨k1, k2⟩ := h5 _ a hge rfl j2
      exact ⟨by rw [j1, k1, List.append_assoc], k2⟩
    have stop : strNext t q p = none → starEnd (strNext t q) (n + 1) p = p := fun h => by rw [starEnd, h]
    rcases Nat.lt_or_ge p t.length with hlt | hge
    · by_cases hcq : t.getD p 0 = q
      · rw [stop (strNext_stop (.inl (by rw [hcq]; simp)) hq)]
        refine ⟨fun h => absurd ⟨hlt, hcq⟩ h, fun _ _ => ?_⟩
        unfold strVal
        rw [quoted, if_pos hlt, if_pos hcq, subP_end (by rw [take_len hp]; exact Nat.le_refl _)]
        exact ⟨by rw [U_nil, sL, List.append_nil], by decide⟩
      · by_cases hcn : t.getD p 0 ∈ [10, 13, 12]
        · rw [stop (strNext_stop (.inl (memM hcn)) hq)]
          refine ⟨fun _ => by rw [quoted, if_pos hlt, if_neg hcq, if_pos hcn], fun _ h => absurd h hcq⟩
        · by_cases h92 : t.getD p 0 = 92
          · rcases Nat.lt_or_ge (p + 1) t.length with h1 | h1
            · by_cases hnl : t.getD (p + 1) 0 ∈ [10, 13, 12]
              · have hs := nlEnd_some h1 hnl
                have hle := nlEnd_le hs
                refine step _ [] (strNext_nl h1 h92 hs) (by omega) hle.2 ?_ ?_
                · rw [quoted, if_pos hlt, if_neg hcq, if_neg hcn, if_pos h92, List.append_nil]
                  have hsl : slc t (some (p + 1 : Nat)) (some ((p + 1 : Nat) + 2 : Int)) = [13, 10] ↔ p + 1 + 1 < t.length ∧ t.getD (p + 1) 0 = 13 ∧ t.getD (p + 1 + 1) 0 = 10 := slc_pair
                  by_cases h2 : p + 1 + 1 < t.length ∧ t.getD (p + 1) 0 = 13 ∧ t.getD (p + 1 + 1) 0 = 10
                  · rw [if_pos (hsl.mpr h2), if_pos h2]
                  · rw [if_neg (fun z => h2 (hsl.mp z)), if_neg h2, if_pos]
                    unfold inn
                    rw [decide_eq_true h1, decide_eq_true hnl]; rfl
                · intro e he hr _ hh
                  have := subP_nl (nlAt_cut (Nat.le_of_lt he) h92 hs hr)
                  unfold strVal
                  rw [this]
                  exact ⟨rfl, hh⟩
              · have hnsl : ¬ slc t (some (p + 1 : Nat)) (some ((p + 1 : Nat) + 2 : Int)) = [13, 10] := fun z => by
                  have := (slc_pair.mp z).2.1
                  rw [this] at hnl
                  exact hnl (by decide)
                have hnin : ¬ inn t (p + 1) [10, 13, 12] = true := by
                  unfold inn
                  simp only [Bool.and_eq_true, decide_eq_true_eq]
                  exact fun z => hnl z.2
                by_cases hr : hexRun t p = []
                · have hes : escape t p = ([t.getD (p + 1) 0], p + 2) := by
                    unfold escape; dsimp only; rw [if_pos hr, if_pos ⟨h1, hnl⟩]
                  refine step (p + 2) [t.getD (p + 1) 0] (strNext_two h1 h92 hr hnl) (by omega) (by omega) ?_ ?_
                  · rw [quoted, if_pos hlt, if_neg hcq, if_neg hcn, if_pos h92, if_neg hnsl, if_neg hnin, hes]
                    show (if p + 2 = p then none else _) = _
                    rw [if_neg (by omega)]
                  · intro e he hre _ hh
                    have hlt' := take_len (Nat.le_of_lt he)
                    have n1 : nlAt (t.take e) p = none := nlAt_none (fun _ => by rw [getD_take (by omega)]; exact hnl)
                    have hb := inv_bb I p h1 h92
                    have n2 : nlAt (t.take e) (p + 1) = none := nlAt_not (by rw [getD_take (by omega)]; exact hb)
                    have e1 : subP (t.take e) p = 92 :: t.getD (p + 1) 0 :: subP (t.take e) (p + 2) := by
                      rw [subP_keep (by omega) n1, subP_keep (by omega) n2, getD_take (by omega), getD_take (by omega), h92]
                    have e2 : escAt (92 :: t.getD (p + 1) 0 :: subP (t.take e) (p + 2)) 0 = false := by
                      unfold escAt
                      have : hexRun (92 :: t.getD (p + 1) 0 :: subP (t.take e) (p + 2)) 0 = [] := by
                        rw [hexRun_nil (by simp only [List.length_cons]; omega)]
                        exact (hexRun_nil h1).mp hr
                      rw [this]; simp
                    unfold strVal
                    rw [e1]
                    refine ⟨?_, by show (92 : Nat) ≠ 10; decide⟩
                    rw [U_keep e2, U_plain hb, sL_two (fun z => hnl (by rw [z]; decide))]
                    rfl
                · have hes := escape_hex hr
                  have hwl := wsEnd_le (hexRun_end hlt)
                  have hwg := wsEnd_ge t (p + 1 + (hexRun t p).length)
                  refine step _ [fixed (hexVal (hexRun t p))] (strNext_hex hq hlt h92 hr) (by omega) hwl ?_ ?_
                  · rw [quoted, if_pos hlt, if_neg hcq, if_neg hcn, if_pos h92, if_neg hnsl, if_neg hnin, hes]
                    show (if wsEnd t (p + 1 + (hexRun t p).length) = p then none else _) = _
                    rw [if_neg (by omega)]
                  · intro e he hre hee hh
                    have hv : fixed (hexVal (hexRun t p)) ≠ 92 := by
                      intro hv
                      rcases esc92 I hlt h92 (fixed_92.mp hv) with z | ⟨z1, z2, z3⟩
                      · omega
                      · have hkl : wsEnd t (p + 1 + (hexRun t p).length) < t.length := by omega
                        have hnx := strNext_hex hq hkl z2 (by rw [z3]; simp)
                        rw [z3, wsEnd_len t (j := wsEnd t (p + 1 + (hexRun t p).length) + 1 + [97].length) (by show t.length ≤ _ + 1 + 1; omega)] at hnx
                        have h3 := starEnd_ge (nxt := strNext t q) (fun p q h => (strNext_le h).1) (n - 1) (wsEnd t (p + 1 + (hexRun t p).length) + 1 + [97].length)
                        rw [show n = (n - 1) + 1 by omega, starEnd, hnx] at hee
                        have h4 : ([97] : List Nat).length = 1 := rfl
                        dsimp only at hee
                        omega
                    unfold strVal
                    rw [str_hexU I he h92 hr hre hh, sL_plain hv]
                    refine ⟨rfl, ?_⟩
                    rw [str_hex I he h92 hr hre hh]
                    show (92 : Nat) ≠ 10
                    decide
            · have hr := hexRun_short (t := t) (i := p) h1
              have hes : escape t p = ([], p) := by
                unfold escape; dsimp only; rw [if_pos hr, if_neg (by omega)]
              have hst : strNext t q p = none := by
                have h2 : nlEnd t (p + 1) = none := nlEnd_none (fun _ => by omega)
                unfold strNext
                rw [if_neg (fun z => z.2 (by rw [h92]; simp)), h2, if_neg (by rintro ⟨_, _, z⟩; cases z), if_neg (by rw [escAt_is (by omega) h92, hr]; simp), if_neg (by unfold twoAt; rw [decide_eq_false (by omega)]; simp)]
              rw [stop hst]
              refine ⟨fun _ => ?_, fun _ h => absurd h hcq⟩
              rw [quoted, if_pos hlt, if_neg hcq, if_neg hcn, if_pos h92, if_neg (fun z => by have := (slc_pair.mp z).1; omega), if_neg (by unfold inn; rw [decide_eq_false (by omega)]; simp), hes]
              show (if p = p then none else _) = _
              rw [if_pos rfl]
          · have hst : strNext t q p = some (p + 1) := by
              unfold strNext
              rw [if_pos ⟨hlt, by
                simp only [List.mem_cons, List.not_mem_nil, or_false] at hcn ⊢
                intro z
                rcases z with z | z | z | z | z
                · exact hcn (.inl z)
                · exact hcn (.inr (.inl z))
                · exact hcn (.inr (.inr z))
                · exact h92 z
                · exact hcq z⟩]
            refine step (p + 1) [t.getD p 0] hst (by omega) (by omega) ?_ ?_
            · rw [quoted, if_pos hlt, if_neg hcq, if_neg hcn, if_neg h92]
            · intro e he hre _ hh
              have hlt' := take_len (Nat.le_of_lt he)
              have e1 : subP (t.take e) p = t.getD p 0 :: subP (t.take e) (p + 1) := by
                rw [subP_keep (by omega) (nlAt_not (by rw [getD_take (by omega)]; exact h92)), getD_take (by omega)]
              unfold strVal
              rw [e1]
              refine ⟨?_, fun z => hcn (by have z : t.getD p 0 = 10 := z; rw [z]; decide)⟩
              rw [U_plain h92, sL_plain h92]
              rfl
    · rw [stop (strNext_stop (.inr hge) hq)]
      exact ⟨fun _ => by rw [quoted, if_neg (by omega)], fun h => by omega⟩
end Mine
end
section
open PySem
set_option Elab.async false
set_option linter.unusedVariables false
set_option linter.unusedSimpArgs false
namespace Mine
theorem nlEnd_drop {u : List Nat} {i : Nat} (hi : i ≤ u.length) (p : Nat) : nlEnd u (i + p) = (nlEnd (u.drop i) p).map (i + ·) := by
  unfold nlEnd
  rw [getD_drop, getD_drop, List.length_drop, show i + (p + 1) = i + p + 1 by omega]
  by_cases h1 : i + p < u.length
  · have h1' : p < u.length - i := by omega
    have h2 : (i + p + 1 < u.length) = (p + 1 < u.length - i) := propext ⟨fun _ => by omega, fun _ => by omega⟩
    simp only [h1, h1', h2]
    split
    · rfl
    · split
      · rfl
      · split
        · rfl
        · split <;> rfl
  · have h1' : ¬ p < u.length - i := by omega
    have h2 : ¬ i + p + 1 < u.length := by omega
    have h2' : ¬ p + 1 < u.length - i := by omega
    simp [h1, h1', h2, h2']
theorem nlAt_drop {u : List Nat} {i : Nat} (hi : i ≤ u.length) (p : Nat) : nlAt u (i + p) = (nlAt (u.drop i) p).map (i + ·) := by
  unfold nlAt
  rw [getD_drop, List.length_drop, show i + p + 1 = i + (p + 1) by omega, nlEnd_drop hi]
  by_cases h : i + p < u.length ∧ u.getD (i + p) 0 = 92
  · rw [if_pos h, if_pos ⟨by omega, h.2⟩]
  · rw [if_neg h, if_neg (fun q => h ⟨by omega, q.2⟩)]; rfl
theorem subP_drop {u : List Nat} {i : Nat} (hi : i ≤ u.length) : ∀ n p, u.length - (i + p) ≤ n → subP (u.drop i) p = subP u (i + p) := by
  intro n
  induction n with
  | zero => intro p h; rw [subP_end (by rw [List.length_drop]; omega), subP_end (by omega)]
  | succ n ih =>
    intro p h
    rcases Nat.lt_or_ge (i + p) u.length with z | z
    · have hd := nlAt_drop hi p
      cases hn : nlAt (u.drop i) p with
      | some r =>
        rw [hn] at hd
        have hl := nlAt_lt hn
        rw [subP_nl hn, subP_nl hd, ih r (by omega)]
      | none =>
        rw [hn] at hd
        rw [subP_keep (by rw [List.length_drop]; omega) hn, subP_keep z hd, ih (p + 1) (by omega), getD_drop, show i + (p + 1) = i + p + 1 by omega]
    · rw [subP_end (by rw [List.length_drop]; omega), subP_end (by omega)]
theorem strVal_is {t : List Nat} {i e : Nat} (hi : i ≤ e) (he : e ≤ t.length) : uident (subFrom ((t.drop i).take (e - i)) (((t.drop i).take (e - i)).length + 1) 0) = strVal t e i := by
  have e0 : (t.drop i).take (e - i) = (t.take e).drop i := by rw [List.drop_take]
  have hl : (t.take e).length = e := take_len he
  show simple _ _ 0 = _
  rw [e0]
  rw [show subFrom ((t.take e).drop i) (((t.take e).drop i).length + 1) 0 = subP ((t.take e).drop i) 0 from rfl, subP_drop (by omega) _ 0 (Nat.le_refl _), Nat.add_zero, simple_sL _ _ (by omega), List.drop_zero]
  rfl
end Mine
end
section
open PySem
set_option Elab.async false
set_option linter.unusedVariables false
set_option linter.unusedSimpArgs false
namespace Mine
/-- what a sign's place gives: a token (kind, value, end), nothing (a comment's end), or a refusal -/
inductive Bit where
  | tok (kind val : List Nat) (e : Nat)
  | skip (e : Nat)
  | bad (said : Nat)
def cutL (t : List Nat) (i e : Nat) : List Nat := (t.drop i).take (e - i)
def strBit (t : List Nat) (i : Nat) : Bit :=
  let e := starEnd (strNext t (t.getD i 0)) t.length (i + 1)
  if e = t.length then .bad 0 else if t.getD e 0 ≠ t.getD i 0 then .bad 1
  else .tok [83, 84, 82, 73, 78, 71] (uident (subFrom (cutL t (i + 1) e) ((cutL t (i + 1) e).length + 1) 0)) (e + 1)
def comBit (t : List Nat) (i : Nat) : Bit :=
  if slc t (some i) (some (i + 2 : Int)) = [47, 42] then .skip (if findL t [42, 47] (i + 2 : Int) = -1 then (t.length : Int) else findL t [42, 47] (i + 2 : Int) + 2).toNat
  else .tok [68, 69, 76, 73, 77] [t.getD i 0] (i + 1)
def bit (t : List Nat) (i : Nat) : Bit :=
  if isWs (t.getD i 0) = true then .tok [83] [32] (runEnd isWs t i)
  else match identEnd t i with
  | some e => .tok [73, 68, 69, 78, 84] (uident (cutL t i e)) e
  | none => match hashEnd t i with
    | some e => .tok [72, 65, 83, 72] (uident (cutL t (i + 1) e)) e
    | none => if t.getD i 0 = 39 ∨ t.getD i 0 = 34 then strBit t i
      else match numMatch t i with
      | some e => .tok [78, 85, 77, 66, 69, 82] (cutL t i e) e
      | none => comBit t i
def tok (t : List Nat) : Nat → List Row → Nat → List Row × Bool
  | 0, rows, i => (rows ++ [([69, 79, 70], none, i)], false)
  | n + 1, rows, i =>
    if i < t.length then
      match bit t i with
      | .tok k v e => tok t n (rows ++ [(k, some v, i)]) e
      | .skip e => tok t n rows e
      | .bad _ => (rows, true)
    else (rows ++ [([69, 79, 70], none, i)], false)
theorem slc_is {t : List Nat} {i e : Nat} (hi : i ≤ t.length) (he : e ≤ t.length) : slc t (some i) (some e) = cutL t i e := by
  unfold slc cutL clipN
  dsimp only
  rw [if_neg (by omega), if_neg (by omega)]
  rw [show (max 0 (min (i : Int) (t.length : Int))).toNat = i by omega, show (max 0 (min (e : Int) (t.length : Int))).toNat = e by omega]
theorem numEnd_le {t : List Nat} {p : Nat} (h : p ≤ t.length) : numEnd t p ≤ t.length := by
  unfold numEnd
  have h1 := figs_le (t := t) h
  dsimp only
  split
  · rename_i hc
    exact figs_le (by omega)
  · exact h1
theorem tok_is {t hd tl : List Nat} (I : Inv t hd tl) : ∀ n rows i, i ≤ t.length → tok t n rows i = read t n rows i := by
  intro n
  induction n with
  | zero => intro rows i _; rfl
  | succ n ih =>
    intro rows i hi
    rw [tok, read]
    by_cases hlt : i < t.length
    · rw [if_pos hlt, if_pos hlt]
      unfold bit
      by_cases hw : isWs (t.getD i 0) = true
      · rw [if_pos hw, if_pos hw]
        refine ih _ _ ?_
        unfold runEnd
        have := tw_len isWs (t.drop i)
        rw [List.length_drop] at this
        omega
      · rw [if_neg hw, if_neg hw, ident_is I.al hlt]
        by_cases hs : readStart t i = true
        · rw [if_pos hs, if_pos hs]
          dsimp only
          unfold cutL
          rw [nm_value I hi]
          exact ih _ _ (nm_le I hi)
        · rw [if_neg hs, if_neg hs, hash_is I.al hlt]
          by_cases hh : t.getD i 0 = 35 ∧ (nm t (i + 1)).2 > i + 1
          · rw [if_pos hh, if_pos hh]
            dsimp only
            unfold cutL
            rw [nm_value I (by omega)]
            exact ih _ _ (nm_le I (by omega))
          · rw [if_neg hh, if_neg hh]
            dsimp only
            by_cases hq : t.getD i 0 = 39 ∨ t.getD i 0 = 34
            · rw [if_pos hq, if_pos hq]
              have hge := starEnd_ge (nxt := strNext t (t.getD i 0)) (fun p q h => (strNext_le h).1) t.length (i + 1)
              have hE := starEnd_le (t := t) (nxt := strNext t (t.getD i 0)) (fun p q h => (strNext_le h).2) t.length (i + 1) (by omega)
              have hQ := quoted_is I hq (t.length - (i + 1)) [] (i + 1) (by omega) (Nat.le_refl _)
              rw [starEnd_fuel (t := t) (nxt := strNext t (t.getD i 0)) (fun p q h => strNext_le h) (t.length - (i + 1)) t.length (i + 1) (Nat.le_refl _) (by omega) (by omega)] at hQ
              unfold strBit
              dsimp only
              generalize starEnd (strNext t (t.getD i 0)) t.length (i + 1) = e at hQ hge hE ⊢
              by_cases he : e = t.length
              · rw [if_pos he, hQ.1 (by omega)]
              · rw [if_neg he]
                by_cases hv : t.getD e 0 = t.getD i 0
                · rw [if_neg (fun z => z hv), (hQ.2 (by omega) hv).1, List.nil_append]
                  dsimp only
                  unfold cutL
                  rw [strVal_is hge hE]
                  exact ih _ _ (by omega)
                · rw [if_pos hv, hQ.1 (fun z => hv z.2)]
            · rw [if_neg hq, if_neg hq]
              unfold numMatch numAt
              have hsg : (if isSign (t.getD i 0) = true then i + 1 else i) = if t.getD i 0 ∈ [43, 45] then i + 1 else i := by
                unfold isSign
                by_cases z : t.getD i 0 ∈ [43, 45]
                · rw [decide_eq_true z, if_pos rfl, if_pos z]
                · rw [decide_eq_false z, if_neg Bool.false_ne_true, if_neg z]
              rw [hsg]
              generalize hs' : (if t.getD i 0 ∈ [43, 45] then i + 1 else i) = s
              have hsl : s ≤ t.length := by rw [← hs']; split <;> omega
              have hnl := numEnd_le hsl
              by_cases hN : numEnd t s > s
              · rw [if_pos hN, if_pos hN]
                dsimp only
                rw [slc_is hi hnl]
                exact ih _ _ hnl
              · rw [if_neg hN, if_neg hN]
                dsimp only
                unfold comBit
                by_cases hc : slc t (some i) (some (i + 2 : Int)) = [47, 42]
                · rw [if_pos hc, if_pos hc]
                  have h2 := (slc_pair.mp hc).1
                  dsimp only
                  rw [com_is (by omega), Int.toNat_natCast]
                  exact ih _ _ (by omega)
                · rw [if_neg hc, if_neg hc]
                  exact ih _ _ (by omega)
    · rw [if_neg hlt, if_neg hlt]
end Mine
end
section
open PySem PySem.W PyProof.Rows PySem.Calls
set_option Elab.async false
set_option linter.unusedVariables false
set_option maxRecDepth 100000
namespace Mine
theorem hF_179 (P : Params) : (hF P).get? 179 = some (o199 P) := by kernel_rfl
section
variable {C : Cx} {ρ ρ' : Rho} {prog : Program} {w : World}
def quotesL : List (Str × Value) := [("'", .ref 43), ("\"", .ref 48)]
theorem quotes_dict {h : Heap} (k : Heap.le (hF w.params) h) : h.DictOf (PySem.strKind prog w) 179 quotesL := by
  refine ⟨_, _, 2, k _ _ (hF_179 _), ⟨rfl, rfl, rfl⟩, rfl, ?_, ?_, by decide +kernel⟩
  · intro e he
    simp only [List.mem_toArray, List.mem_cons, List.not_mem_nil, or_false] at he
    rcases he with rfl | rfl
    · exact ⟨"'", PySem.strKind_is _ _ _ _, rfl⟩
    · exact ⟨"\"", PySem.strKind_is _ _ _ _, rfl⟩
  · exact .cons (PySem.strKind_is _ _ _ _) rfl (.cons (PySem.strKind_is _ _ _ _) rfl .nil)
theorem quote_at (c : Nat) : valueAt quotesL (S [c]) = if c = 39 then some (.ref 43) else if c = 34 then some (.ref 48) else none := by
  have e1 : (Str.ofString "'" = S [c]) ↔ 39 = c := by rw [show Str.ofString "'" = S [39] by decide +kernel, S_inj]; simp
  have e2 : (Str.ofString "\"" = S [c]) ↔ 34 = c := by rw [show Str.ofString "\"" = S [34] by decide +kernel, S_inj]; simp
  unfold valueAt quotesL
  by_cases h1 : c = 39
  · rw [if_pos h1, List.find?_cons_of_pos (by rw [decide_eq_true_eq]; exact e1.mpr h1.symm)]; rfl
  · rw [if_neg h1, List.find?_cons_of_neg (by rw [decide_eq_true_eq]; exact fun q => h1 (e1.mp q).symm)]
    by_cases h2 : c = 34
    · rw [if_pos h2, List.find?_cons_of_pos (by rw [decide_eq_true_eq]; exact e2.mpr h2.symm)]; rfl
    · rw [if_neg h2, List.find?_cons_of_neg (by rw [decide_eq_true_eq]; exact fun q => h2 (e2.mp q).symm)]; rfl
theorem Te.inQuotes {l r : Expr} {pos : Pos} {c : Nat} (hF' : Heap.le (hF C.w.params) C.hB) (ha : Ev C ρ l (.str [c])) (hb : Ev C ρ r (.raw (.ref 179))) (hm : behindInMarks .In r = false) : Te C ρ (.Compare l [.In] [r] pos) (decide (c = 39 ∨ c = 34)) :=
  Te.cmp ha hb (fun s v u σ rv ru => by
    cases rv; cases ru
    refine wpAny_in_of (PySem.strKind_is C.prog C.w _ _) (by decide +kernel) (quotes_dict (hF'.trans σ.base)).mapOf ⟨?_, .toks _⟩
    rw [quote_at]
    by_cases h1 : c = 39
    · rw [if_pos h1, decide_eq_true (.inl h1)]; rfl
    · rw [if_neg h1]
      by_cases h2 : c = 34
      · rw [if_pos h2, decide_eq_true (.inr h2)]; rfl
      · rw [if_neg h2, decide_eq_false (by omega)]; rfl) hm
theorem Ev.quoteItem {v i : Expr} {pos : Pos} {c : Nat} {a : Addr} (hF' : Heap.le (hF C.w.params) C.hB) (hv : Ev C ρ v (.raw (.ref 179))) (hi : Ev C ρ i (.str [c])) (hc : c = 39 ∧ a = 43 ∨ c = 34 ∧ a = 48)
    (hs : ∀ o j, subscripted i false o j = operate [o, j] (getItem o j)) (ht : ∀ o r, letTemporaryGo v o r = pure ()) : Ev C ρ (.Subscript v i pos) (.raw (.ref a)) := Ev.of fun s σ =>
  Subscript_ (wpAny_mono (hv s σ) (fun o s1 q1 => wpAny_mono (hi s1 (σ.le q1.2)) (fun j s2 q2 => by
    obtain ⟨r1, k1⟩ := q1
    obtain ⟨r2, k2⟩ := q2
    have σ2 := σ.le (k1.trans k2)
    cases r1; cases r2
    have D := quotes_dict (prog := C.prog) (hF'.trans σ2.base)
    refine subscriptTail_builtin D.typeIs slot_dict_getitem.lookup (wpAny_getItem_of (PySem.strKind_is C.prog C.w _ _) D.mapOf (v := .ref a) ?_ ⟨.raw _, (k1.trans k2).1.trans (.toks _)⟩) (hs _ _) (ht _)
    rw [quote_at]
    rcases hc with ⟨rfl, rfl⟩ | ⟨rfl, rfl⟩ <;> rfl) no) no)
theorem Ex1.assert {test : Expr} {msg : Option Expr} {pos : Pos} {Q : Out → Prop} (h : Te C ρ test true) (hQ : Q (.next ρ)) : Ex1 C ρ (.Assert test msg pos) Q := fun s σ =>
  wpAny_Assert_holds (wpAny_mono (h s σ) (fun b s1 q => ⟨q.1, _, hQ, σ.le q.2, q.2.x⟩) no)
end
end Mine
end
section
open PySem PySem.W PyProof.Rows PySem.Calls
set_option Elab.async false
set_option linter.unusedVariables false
set_option maxRecDepth 100000
namespace Mine
theorem ident_b {t : List Nat} {p e : Nat} (hp : p < t.length) (h : identEnd t p = some e) : p < e ∧ e ≤ t.length := by
  unfold identEnd at h
  split at h
  · rename_i q hq
    cases h
    have h1 := nameNext_le hq
    have h2 := starEnd_ge (nxt := nameNext t isName) (fun p q h => (nameNext_le h).1) t.length q
    have h3 := starEnd_le (t := t) (nxt := nameNext t isName) (fun p q h => (nameNext_le h).2) t.length q h1.2
    refine ⟨?_, h3⟩
    have h4 := h1.1
    split at h4 <;> omega
  · cases h
theorem hash_b {t : List Nat} {p e : Nat} (h : hashEnd t p = some e) : p + 1 < e ∧ e ≤ t.length := by
  unfold hashEnd at h
  split at h
  · split at h
    · rename_i q hq
      cases h
      have h1 := nameNext_le hq
      have h2 := starEnd_ge (nxt := nameNext t isName) (fun p q h => (nameNext_le h).1) t.length q
      have h3 := starEnd_le (t := t) (nxt := nameNext t isName) (fun p q h => (nameNext_le h).2) t.length q h1.2
      exact ⟨by omega, h3⟩
    · cases h
  · cases h
theorem num_b {t : List Nat} {p e : Nat} (hp : p < t.length) (h : numMatch t p = some e) : p < e ∧ e ≤ t.length := by
  unfold numMatch numAt at h
  generalize hs : (if isSign (t.getD p 0) = true then p + 1 else p) = q at h
  have hq : p ≤ q ∧ q ≤ t.length := by rw [← hs]; split <;> omega
  split at h
  · cases h
    exact ⟨by omega, numEnd_le hq.2⟩
  · cases h
theorem cut_len (t : List Nat) (i e : Nat) : (cutL t i e).length ≤ t.length := by unfold cutL; rw [List.length_take, List.length_drop]; omega
theorem cut_mem {t : List Nat} {i e c : Nat} (h : c ∈ cutL t i e) : c ∈ t := List.mem_of_mem_drop (List.mem_of_mem_take h)
theorem cut_tail (t : List Nat) (i e : Nat) : slc (cutL t i e) (some (1 : Nat)) none = cutL t (i + 1) e := by
  unfold slc cutL clipN
  dsimp only
  rw [if_neg (by omega)]
  rw [show (max 0 (min ((1 : Nat) : Int) (((t.drop i).take (e - i)).length : Int))).toNat = min 1 ((t.drop i).take (e - i)).length by omega]
  generalize hl : (t.drop i).take (e - i) = l
  have e1 : l.drop (min 1 l.length) = l.drop 1 := by
    cases l with
    | nil => rfl
    | cons a r => rw [Nat.min_eq_left (by simp)]
  rw [e1, List.take_of_length_le (by rw [List.length_drop]; omega), ← hl, List.drop_take, List.drop_drop, show e - i - 1 = e - (i + 1) by omega]
/-- a row as a token -/
def rowPV : Row → PV
  | (k, some v, i) => .tok 127 k (.str v) i
  | (k, none, i) => .tok 155 k .none i
/-- the protocol of the generator: n' rows are left behind this one -/
def YY (hB : Heap) (outer : List Env) (X own : List Addr) (T : List Row) : Protocol := fun n' s0 v s kap => ∃ row, T[T.length - n' - 1]? = some row ∧ n' < T.length ∧ Rp (own ++ X) s.heap v (rowPV row) ∧ LeX own s0 s ∧ (∀ a ∈ own, ∃ o, s.heap.get? a = some o) ∧ ∀ s'', Kept X s s'' → s''.heap.FunFrames hB outer → kap (.send .none) s''
def RR (hB : Heap) (outer : List Env) (own : List Addr) (F : Bool) : GenEnd := fun n s0 r s => n = 0 ∧ (∃ h' tk, s = { s0 with heap := h', toks := tk }) ∧ s0.toks ≤ s.toks ∧ (∀ a ∈ own, ∃ o, s.heap.get? a = some o ∧ ∀ vs, o.data ≠ .fields vs) ∧ match r with
  | .ok (.ret .none) => F = false ∧ Heap.leBut own s0.heap s.heap
  | .error v => F = true ∧ ∃ e t, v = .ref e ∧ Heap.FlyingW hB outer e (.ref 71) (.ref t) s.heap ∧ UpBut own s0.heap s.heap
  | _ => False
theorem tok_pre (t : List Nat) : ∀ m rows p, ∃ more, (tok t m rows p).1 = rows ++ more := by
  intro m
  induction m with
  | zero => intro rows p; exact ⟨_, rfl⟩
  | succ m ih =>
    intro rows p
    rw [tok]
    split
    · split
      · obtain ⟨more, e⟩ := ih (rows ++ [_]) _
        exact ⟨_, by rw [e, List.append_assoc]⟩
      · exact ih rows _
      · exact ⟨[], by rw [List.append_nil]⟩
    · exact ⟨_, rfl⟩
section
variable {C : Cx} {A0 : Around} {R : GenEnd} {Y : Protocol} {n : Nat} {s₀ : Shared} {c : Code} {fs : List Frame} {K : Flow → Sem Fin} {H : Value → Sem Fin} {ρ : Rho}
theorem Sgs.loop {test : Expr} {body : List Stmt} {b : Bool} (hA : A0.over (.whileLoop test body [] C.env) fs = C.A) (ht : Te C ρ test b)
    (h1 : b = true → Sgs C A0 R Y n s₀ (.whileLoop test body [] C.env) fs (Kw test body C.env) (Hw C.env) ρ body)
    (h2 : b = false → SgG C A0 R Y n s₀ (.whileLoop test body [] C.env) fs (.pure (.done .next)) ρ) :
    SgG C A0 R Y n s₀ (.whileLoop test body [] C.env) fs (C.M.den (.whileLoop test body [] C.env)) ρ := fun s σ k => by
  refine seg_whileLoop (hA ▸ wpAny_mono (ht s σ) (fun t s' q => ?_) no)
  obtain ⟨rfl, k'⟩ := q
  cases t with
  | true => rw [if_pos rfl]; exact h1 rfl s' (σ.le k') (k.trans k'.x)
  | false => rw [if_neg Bool.false_ne_true]; exact h2 rfl s' (σ.le k') (k.trans k'.x)
theorem SgG.again {test : Expr} {body : List Stmt} (h : SgG C A0 R Y n s₀ (.whileLoop test body [] C.env) fs (C.M.den (.whileLoop test body [] C.env)) ρ) :
    SgG C A0 R Y n s₀ (.whileLoop test body [] C.env) fs (.pure (.again (.whileLoop test body [] C.env))) ρ := fun s σ k => seg_again rfl (h s σ k)
theorem Sgs.tok {X : List Addr} {L : Addr} {T rows more : List Row} {row : Row} {hB : Heap} {outer : List Env} {e : Expr} {yp pos : Pos} {rest : List Stmt} (hA : A0.over c fs = C.A) (hfs : splitAtGen fs = none) (hfg : fs.any Frame.guarded = false)
    (hX : C.X = L :: X) (hL : C.env.locals = L) (hLX : L ∉ X) (hown : C.own = [L]) (hT : T = rows ++ row :: more) (hn : n = T.length - rows.length) (he : Ev C ρ e (rowPV row)) (ho : ∀ x e, (x, e) ∈ ρ → noOwn e = true) (hco : C.env.scope.isCoroutine = false) (hi : interactive C.env = false)
    (hr : ∀ s₁, s₁.heap.FunFrames hB outer → Sgs C A0 R (YY hB outer X C.own T) (T.length - (rows ++ [row]).length) s₁ c fs K H ρ rest) :
    Sgs C A0 R (YY hB outer X C.own T) n s₀ c fs K H ρ (.Expr (.Yield (some e) yp) pos :: rest) := by
  have hlen : T.length = rows.length + (more.length + 1) := by rw [hT, List.length_append, List.length_cons]
  have hlen2 : (rows ++ [row]).length = rows.length + 1 := by simp
  obtain ⟨n', rfl⟩ : ∃ n', n = n' + 1 := ⟨T.length - (rows.length + 1), by omega⟩
  refine Sgs.yield hA hfs hfg he hco hi fun v s' kap rv σ' k' hk => ⟨row, ?_, by omega, by rw [hown]; rw [hX] at rv; exact rv, k', fun a ha => σ'.inX a (C.sub a ha), fun s'' kp ff => hk s'' (σ'.kept hX hL hLX kp ho) ⟨⟨s''.heap, s''.toks, by cases s''; rfl, fun b o _ e => e⟩, Nat.le_refl _⟩ ?_⟩
  · rw [show T.length - n' - 1 = rows.length by omega, hT, List.getElem?_append_right (Nat.le_refl _), Nat.sub_self]; rfl
  · have := hr s'' ff s'' (σ'.kept hX hL hLX kp ho) ⟨⟨s''.heap, s''.toks, by cases s''; rfl, fun b o _ e => e⟩, Nat.le_refl _⟩
    rw [show T.length - (rows ++ [row]).length = n' by omega] at this
    exact this
theorem funFrames_but {L : Addr} {h h' base : Heap} (k : Heap.leBut [L] h h') : ∀ {l : List Env}, (∀ env ∈ l, env.frame ≠ some L) → h.FunFrames base l → h'.FunFrames base l
  | [], _, _ => trivial
  | env :: r, hn, ⟨a, ⟨L', o, h1, h2, h3, h4⟩, c⟩ => ⟨a, ⟨L', o, h1, h2, k L' o (fun q => hn env (.head _) (by cases q with | head => exact h1 | tail _ q => cases q)) h3, h4⟩, funFrames_but k (fun e he => hn e (.tail _ he)) c⟩
/-- raise SelectorSyntaxError(..) in the loop -/
theorem Sgs.raise {A0 : Around} {Y : Protocol} {s₀ : Shared} {gbody body : List Stmt} {test : Expr} {p : Pos} {K K' : Flow → Sem Fin} {outer : List Env} {L : Addr} {arg : Expr} {np cpos pos : Pos} {q : PV} {rest : List Stmt}
    (hA : A0.over (.whileLoop test body [] C.env) (frW gbody C.env K (Hf C.env) p) = C.A) (hF' : Heap.le (hF C.w.params) C.hB) (g : GlobIs C.hB "SelectorSyntaxError" (.ref 71)) (hx : C.env.kindOf "SelectorSyntaxError" = some .globalImplicit)
    (ha : Ev C ρ arg q) (he : starEach [arg] C.env = [(false, eval arg C.env)]) (hown : C.own = [L]) (hfr : A0.frames = some outer) (hf : C.env.frame = some L) (hloc : C.env.locals = L) (hn : ∀ env ∈ outer, env.frame ≠ some L) (hff : s₀.heap.FunFrames C.hB outer) :
    Sgs C A0 (RR C.hB outer C.own true) Y 0 s₀ (.whileLoop test body [] C.env) (frW gbody C.env K (Hf C.env) p) K' (Hw C.env) ρ (.Raise (some (.Call (.Name "SelectorSyntaxError" np) [arg] [] cpos)) none pos :: rest) := fun s σ k => by
  rw [execs_cons_K]
  refine seg_wrap (hA ▸ wpAny_mono (raise_sel (Q := fun _ _ => False) hF' g hx ha he σ) (fun f s' q => q.elim) fun e s' q => ?_)
  obtain ⟨a, vs, s₂, h', rfl, k2, rfl, hm⟩ := q
  have σ2 := σ.le k2
  have k' := k.trans k2.x
  have hL : ∃ L' o, C.env.frame = some L' ∧ C.hB.get? L' = none ∧ s₂.heap.get? L' = some o ∧ ∀ vs, o.data ≠ .fields vs := by
    obtain ⟨m, ⟨o, es, ep, ho, hd, _⟩, _⟩ := σ2.ns
    rw [hloc] at ho
    exact ⟨L, o, hf, C.above L (C.sub L (by rw [hown]; exact .head _)), ho, fun vs z => by rw [hd] at z; cases z⟩
  have hk : C.env.scope.kind ≠ .module := by rw [C.kind]; decide
  refine gen_error (h := s₂.heap) hfr hf (fun b o e => σ2.base b o e) ⟨hk, hL, funFrames_but (hown ▸ k'.heap) hn hff⟩ hm fun h3 t hfl hu => ?_
  · obtain ⟨⟨h4, t4, rfl, kk⟩, kt⟩ := k'
    refine ⟨rfl, ⟨h3, t4, rfl⟩, kt, fun b hb => ?_, rfl, a, t, rfl, hfl, fun b o hb e hnf => ?_⟩
    · rw [hown] at hb
      obtain rfl : b = L := by cases hb with | head => rfl | tail _ h => cases h
      obtain ⟨L', o, hf', _, ho, hnf⟩ := hL
      rw [hf] at hf'
      cases hf'
      obtain ⟨sl, hs⟩ := hu b o (hm.keeps b o ho) hnf
      exact ⟨_, hs, hnf⟩
    exact hu b o (hm.keeps b o (kk b o hb e)) hnf
end
end Mine
end
section
open PySem PySem.W PyProof.Rows PySem.Calls
set_option Elab.async false
set_option linter.unusedVariables false
set_option maxRecDepth 100000
namespace Mine
/-- what stands below the generator -/
structure GF (C : Cx) : Prop where
  B : Base C.prog C.w C.hB
  k : Heap.le (hF C.w.params) C.hB
  sc : C.env.scope = (nth 5).scope
  n : 3 ≤ C.n
  bt : GlobIs C.hB "tuple" (.type "tuple")
  gT : GlobIs C.hB "Token" (.ref 127)
  gE : GlobIs C.hB "EOFToken" (.ref 155)
  gS : GlobIs C.hB "SelectorSyntaxError" (.ref 71)
  gQ : GlobIs C.hB "_match_string_by_quote" (.ref 179)
  q1 : PySem.Flt.IsPattern C.hB 43 (patR 0)
  q2 : PySem.Flt.IsPattern C.hB 48 (patR 1)
def whileOf : Stmt → Expr × List Stmt
  | .While test body _ _ => (test, body)
  | _ => (.Constant .none 0 ⟨0, 0, 0, 0⟩, [])
def gW : Expr × List Stmt := whileOf (((nth 5).body[3]?).getD (.Pass ⟨0, 0, 0, 0⟩))
def gR (t : List Nat) (p : Nat) (e1 e2 e3 e4 e5 : EV) : Rho :=
  [("s", .val (.str t)), ("pos", .val (.int p)), ("len_s", .val (.int t.length)), ("match", e1), ("value", e2), ("quote", e3), ("end_pos", e4), ("pos2", e5)]
theorem gR_no {t : List Nat} {p : Nat} {e1 e2 e3 e4 e5 : EV} (h1 : noOwn e1 = true) (h2 : noOwn e2 = true) (h3 : noOwn e3 = true) (h4 : noOwn e4 = true) (h5 : noOwn e5 = true) : ∀ x e, (x, e) ∈ gR t p e1 e2 e3 e4 e5 → noOwn e = true := by
  intro x e h
  simp only [gR, List.mem_cons, Prod.mk.injEq, List.not_mem_nil, or_false] at h
  rcases h with ⟨_, rfl⟩ | ⟨_, rfl⟩ | ⟨_, rfl⟩ | ⟨_, rfl⟩ | ⟨_, rfl⟩ | ⟨_, rfl⟩ | ⟨_, rfl⟩ | ⟨_, rfl⟩ <;> first | assumption | rfl
theorem matG_of {t : List Nat} {p i g : Nat} {r : Option Nat} (hi : i < 8) (hg : (patR i).groups = g) (h : Mat (codeOf i) g t p r) : MatG (patR i).code.toArray (patR i).groups t p (r.map fun e => (e, none)) := by
  rw [codeOf_is i (by rw [pats_len]; exact hi), hg]; exact h.g
theorem sub_len (t : List Nat) : ∀ n p, (subFrom t n p).length ≤ t.length - p := by
  intro n
  induction n with
  | zero => intro p; unfold subFrom; first | (rw [List.length_drop]; omega) | exact Nat.zero_le _
  | succ n ih =>
    intro p
    rw [subFrom]
    split
    · rename_i a b h
      have h1 := firstNl_le (t := t) _ _ h
      have h2 := ih b
      rw [List.length_append, List.length_take, List.length_drop]
      omega
    · rw [List.length_drop]; omega
theorem sub_mem (t : List Nat) : ∀ n p c, c ∈ subFrom t n p → c ∈ t := by
  intro n
  induction n with
  | zero => intro p c h; unfold subFrom at h; first | exact List.mem_of_mem_drop h | cases h
  | succ n ih =>
    intro p c h
    rw [subFrom] at h
    split at h
    · rcases List.mem_append.mp h with q | q
      · exact List.mem_of_mem_drop (List.mem_of_mem_take q)
      · exact ih _ _ q
    · exact List.mem_of_mem_drop h
section
variable {C : Cx} {ρ : Rho}
/-- a cut of a text that an expression makes -/
theorem Ev.sliceM {v : Expr} {lo hi : Option Expr} {p pos : Pos} {t : List Nat} {a b : Option Int} (hv : Ev C ρ v (.str t)) (ha : EvO C ρ lo a) (hb : EvO C ρ hi b) (hl : t.length ≤ sizeLine) :
    Ev C ρ (.Subscript v (.Slice lo hi none p) pos) (.str (slc t a b)) := Ev.of fun s σ => by
  rw [eval_Subscript]
  refine wpAny_bind (wpAny_mono (hv s σ) (fun o s1 q1 => wpAny_bind (wpAny_holding (wpAny_Slice (wpAny_mono (ha.use (σ.le q1.2)) (fun vl s2 q2 => wpAny_mono (hb.use (σ.le (q1.2.trans q2.2))) (fun vu s3 q3 => ?_) no) no)))) no)
  obtain ⟨r1, k1⟩ := q1
  obtain ⟨⟨l, rfl, rfl⟩, k2⟩ := q2
  obtain ⟨⟨u, rfl, rfl⟩, k3⟩ := q3
  cases r1 with
  | str t tk =>
  rw [evalPart_none]
  refine wpAny_pure (wpAny_bind (wpAny_standAt ?_))
  refine wpAny_bind ?_
  rw [getitemInPython_of_ne (typeIs_str s3 (S t) tk).not_modules]
  refine wpAny_bind (wpAny_specialOf (typeIs_str _ (S t) tk) F.slot_str_getitem.lookup ?_)
  have post : ∀ (t' : Tok) (k : Nat), Rp C.X (s3.heap.push { cls := .type "slice", data := .fields #[partValue l, partValue u, .none] }) (.str (S (slc t (l.map (·.1)) (u.map (·.1)))) t') (.str (slc t (l.map (·.1)) (u.map (·.1)))) ∧
      Le0 s { s3 with heap := s3.heap.push { cls := .type "slice", data := .fields #[partValue l, partValue u, .none] }, toks := k } := fun t' k => ⟨.str _ _, ((k1.trans k2).trans k3).1.trans (.push _ _)⟩
  refine wpAny_pure (wpAny_bind (wpAny_operating (wpAny_getItem_str_slice (l := l) (u := u) (st := none) ⟨_, Heap.get?_push_size _ rfl, rfl, rfl⟩ rfl (sliceMade_post (fun v k hv' => ?_) hl))))
  obtain ⟨t', e⟩ := hv'
  subst e
  have hg : ∀ r, letTemporaryGo v (.str (S t) tk) r = pure () := fun r => by cases v <;> rfl
  exact wpAny_bind (wpAny_of_eq (hg _) (wpAny_pure (post t' k)))
/-- Token(kind, value, pos) -/
theorem Ev.token {x : Str} {k : Nat} {np p1 pos : Pos} {e f : Expr} {ty v : List Nat} {i : Nat} (G : GF C) (h : x.cps.toList = ty) (he : Ev C ρ e (.str v)) (hf : Ev C ρ f (.int i))
    (h1 : starEach [.Constant (.str x) k p1, e, f] C.env = (false, eval (.Constant (.str x) k p1) C.env) :: starEach [e, f] C.env) (h2 : starEach [e, f] C.env = (false, eval e C.env) :: starEach [f] C.env) (h3 : starEach [f] C.env = (false, eval f C.env) :: starEach [] C.env) :
    Ev C ρ (.Call (.Name "Token" np) [.Constant (.str x) k p1, e, f] [] pos) (rowPV (ty, some v, i)) :=
  Ev.callC G.k keep_tok G.gT (kindG G.sc (by decide +kernel)) rfl (Evs.cons (Ev.cstr h) (Evs.cons he (Evs.cons hf Evs.nil h3) h2) h1) (fn_tok G.k G.B.lim G.bt ty (.str v) i) (by have := G.n; omega) h1 (by rw [h2, h3]; rfl)
end
end Mine
end
section
open PySem PySem.W PyProof.Rows PySem.Calls
set_option Elab.async false
set_option linter.unusedVariables false
set_option maxRecDepth 100000
namespace Mine
section
variable {C : Cx}
theorem gen_loop {A0 : Around} {outer : List Env} {L : Addr} {X : List Addr} {t : List Nat} {T : List Row} {F : Bool} {gbody : List Stmt} {K : Flow → Sem Fin} {p0 : Pos} (G : GF C)
    (hA : A0.over (.whileLoop gW.1 gW.2 [] C.env) (frW gbody C.env K (Hf C.env) p0) = C.A) (hX : C.X = L :: X) (hloc : C.env.locals = L) (hLX : L ∉ X) (hown : C.own = [L]) (hfr : A0.frames = some outer) (hf : C.env.frame = some L)
    (hn : ∀ env ∈ outer, env.frame ≠ some L) (ht : t.length < 1000) (hT : ∀ c ∈ t, c ∈ alpha)
    (hexit : ∀ rows e1 e2 e3 e4 e5 s₀, s₀.heap.FunFrames C.hB outer → noOwn e1 = true → noOwn e2 = true → noOwn e3 = true → noOwn e4 = true → noOwn e5 = true → T = rows ++ [([69, 79, 70], none, t.length)] → F = false →
      SgG C A0 (RR C.hB outer C.own F) (YY C.hB outer X C.own T) (T.length - rows.length) s₀ (.whileLoop gW.1 gW.2 [] C.env) (frW gbody C.env K (Hf C.env) p0) (.pure (.done .next)) (gR t t.length e1 e2 e3 e4 e5)) :
    ∀ m p rows e1 e2 e3 e4 e5 s₀, t.length - p ≤ m → p ≤ t.length → tok t m rows p = (T, F) → s₀.heap.FunFrames C.hB outer → noOwn e1 = true → noOwn e2 = true → noOwn e3 = true → noOwn e4 = true → noOwn e5 = true →
      SgG C A0 (RR C.hB outer C.own F) (YY C.hB outer X C.own T) (T.length - rows.length) s₀ (.whileLoop gW.1 gW.2 [] C.env) (frW gbody C.env K (Hf C.env) p0) (C.M.den (.whileLoop gW.1 gW.2 [] C.env)) (gR t p e1 e2 e3 e4 e5) := by
  intro m
  induction m with
  | zero =>
    intro p rows e1 e2 e3 e4 e5 s₀ hm hp e ff n1 n2 n3 n4 n5
    obtain rfl : p = t.length := by omega
    cases e
    exact Sgs.loop hA (Te.lt (Ev.name (.there .here)) (Ev.name (.there (.there .here))) rfl) (fun h => by have := of_decide_eq_true h; omega) fun _ => hexit rows e1 e2 e3 e4 e5 s₀ ff n1 n2 n3 n4 n5 rfl rfl
  | succ m ih =>
    intro p rows e1 e2 e3 e4 e5 s₀ hm hp e ff n1 n2 n3 n4 n5
    rw [tok] at e
    refine Sgs.loop hA (Te.lt (Ev.name (.there .here)) (Ev.name (.there (.there .here))) rfl) (fun h => ?_) fun h => ?_
    · have hlt : p < t.length := by have := of_decide_eq_true h; omega
      rw [if_pos hlt] at e
      have hint : interactive C.env = false := by show (C.env.scope.kind == .module && _) = false; rw [C.kind]; rfl
      have hco : C.env.scope.isCoroutine = false := by rw [G.sc]; rfl
      have kw : C.env.kindOf "_match_whitespace" = some .globalImplicit := kindG G.sc (by decide +kernel)
      have kid : C.env.kindOf "_match_ident" = some .globalImplicit := kindG G.sc (by decide +kernel)
      have kh : C.env.kindOf "_match_hash" = some .globalImplicit := kindG G.sc (by decide +kernel)
      have ku : C.env.kindOf "unescape_ident" = some .globalImplicit := kindG G.sc (by decide +kernel)
      obtain ⟨pw, gw, hpw⟩ := G.B.pat 2 (by omega)
      have gw : GlobIs C.hB "_match_whitespace" (.ref pw) := gw
      obtain ⟨pid, gid, hpid⟩ := G.B.pat 5 (by omega)
      have gid : GlobIs C.hB "_match_ident" (.ref pid) := gid
      obtain ⟨ph, gh, hph⟩ := G.B.pat 4 (by omega)
      have gh : GlobIs C.hB "_match_hash" (.ref ph) := gh
      have cont : ∀ p' row d1 d2 d3 d4 d5 s₁, p < p' → p' ≤ t.length → tok t m (rows ++ [row]) p' = (T, F) → s₁.heap.FunFrames C.hB outer → noOwn d1 = true → noOwn d2 = true → noOwn d3 = true → noOwn d4 = true → noOwn d5 = true →
          SgG C A0 (RR C.hB outer C.own F) (YY C.hB outer X C.own T) (T.length - (rows ++ [row]).length) s₁ (.whileLoop gW.1 gW.2 [] C.env) (frW gbody C.env K (Hf C.env) p0) (Kw gW.1 gW.2 C.env .cont) (gR t p' d1 d2 d3 d4 d5) :=
        fun p' row d1 d2 d3 d4 d5 s₁ h1 h2 h3 h4 h5 h6 h7 h8 h9 => SgG.again (ih p' _ d1 d2 d3 d4 d5 s₁ (by omega) h2 h3 h4 h5 h6 h7 h8 h9)
      have more : ∀ row p', tok t m (rows ++ [row]) p' = (T, F) → ∃ more, T = rows ++ row :: more := fun row p' q => by
        obtain ⟨mo, hmo⟩ := tok_pre t m (rows ++ [row]) p'
        rw [q] at hmo
        exact ⟨mo, by rw [show T = (rows ++ [row]) ++ mo from hmo, List.append_assoc]; rfl⟩
      conv => arg 12; whnf
      by_cases hw : isWs (t.getD p 0) = true
      · have hb : bit t p = .tok [83] [32] (runEnd isWs t p) := by unfold bit; rw [if_pos hw]
        rw [hb] at e
        dsimp only at e
        have hgt : p < runEnd isWs t p ∧ runEnd isWs t p ≤ t.length := by
          have h1 := runEnd_step (p := isWs) hlt hw
          have h2 := runEnd_ge isWs t (p + 1)
          have h3 := tw_len isWs (t.drop p)
          rw [List.length_drop] at h3
          unfold runEnd at h1 h2 ⊢
          omega
        obtain ⟨mo, hmo⟩ := more _ _ e
        refine Sgs.step hA (Ex1.assign (Ev.cast (q := .mat t p (runEnd isWs t p) none) (Ev.match (Ev.glob gw kw rfl) hpw (pat_facts 2 (by omega)).1 (pat_facts 2 (by omega)).2 (Ev.name .here) (Ev.name (.there .here)) hp ht (matG_of (by omega) (by decide +kernel) (ws_mat ws_code hT ht hlt)) rfl rfl rfl rfl) (by rw [if_pos hw]; rfl)) (.there (.there (.there .here))) ?_ rfl)
        refine Sgs.ite hA (Te.mat (Ev.name (.there (.there (.there .here)))) rfl) (fun _ => ?_) (fun h => by cases h)
        refine Sgs.tok hA rfl rfl hX hloc hLX hown hmo rfl (Ev.token G (by decide +kernel) (Ev.cstr (by decide +kernel)) (Ev.name (.there .here)) rfl rfl rfl) (gR_no rfl n2 n3 n4 n5) hco hint fun s₁ ff1 => ?_
        refine Sgs.step hA (Ex1.assign (Ev.end' (Ev.name (.there (.there (.there .here)))) rfl rfl) (.there .here) ?_ rfl)
        exact Sgs.step hA (Ex1.cont (cont _ _ _ _ _ _ _ s₁ hgt.1 hgt.2 e ff1 rfl n2 n3 n4 n5))
      refine Sgs.step hA (Ex1.assign (Ev.cast (q := .none) (Ev.match (Ev.glob gw kw rfl) hpw (pat_facts 2 (by omega)).1 (pat_facts 2 (by omega)).2 (Ev.name .here) (Ev.name (.there .here)) hp ht (matG_of (by omega) (by decide +kernel) (ws_mat ws_code hT ht hlt)) rfl rfl rfl rfl) (by rw [if_neg hw]; rfl)) (.there (.there (.there .here))) ?_ rfl)
      refine Sgs.ite (b := false) hA (Te.none (Ev.name (.there (.there (.there .here)))) rfl) (fun h => by cases h) (fun _ => Sgs.nil ?_)
      cases hid : identEnd t p with
      | some q =>
        have hb : bit t p = .tok [73, 68, 69, 78, 84] (uident (cutL t p q)) q := by unfold bit; rw [if_neg hw, hid]
        rw [hb] at e
        dsimp only at e
        have hgt := ident_b hlt hid
        obtain ⟨mo, hmo⟩ := more _ _ e
        refine Sgs.step hA (Ex1.assign (Ev.cast (q := .mat t p q none) (Ev.match (Ev.glob gid kid rfl) hpid (pat_facts 5 (by omega)).1 (pat_facts 5 (by omega)).2 (Ev.name .here) (Ev.name (.there .here)) hp ht (matG_of (by omega) (by decide +kernel) (ident_mat ident_code hT ht hlt)) rfl rfl rfl rfl) (by rw [hid]; rfl)) (.there (.there (.there .here))) ?_ rfl)
        refine Sgs.ite hA (Te.mat (Ev.name (.there (.there (.there .here)))) rfl) (fun _ => ?_) (fun h => by cases h)
        refine Sgs.step hA (Ex1.assign (Ev.can (uidents G.B (cutL t p q) (by have := cut_len t p q; omega) (fun c hc => hT c (cut_mem hc))) (Evs.cons (Ev.group0 (Ev.name (.there (.there (.there .here)))) ht rfl rfl) Evs.nil rfl) G.n ku rfl rfl) (.there (.there (.there (.there .here)))) ?_ rfl)
        refine Sgs.tok hA rfl rfl hX hloc hLX hown hmo rfl (Ev.token G (by decide +kernel) (Ev.name (.there (.there (.there (.there .here))))) (Ev.name (.there .here)) rfl rfl rfl) (gR_no rfl rfl n3 n4 n5) hco hint fun s₁ ff1 => ?_
        refine Sgs.step hA (Ex1.assign (Ev.end' (Ev.name (.there (.there (.there .here)))) rfl rfl) (.there .here) ?_ rfl)
        exact Sgs.step hA (Ex1.cont (cont _ _ _ _ _ _ _ s₁ hgt.1 hgt.2 e ff1 rfl rfl n3 n4 n5))
      | none =>
      refine Sgs.step hA (Ex1.assign (Ev.cast (q := .none) (Ev.match (Ev.glob gid kid rfl) hpid (pat_facts 5 (by omega)).1 (pat_facts 5 (by omega)).2 (Ev.name .here) (Ev.name (.there .here)) hp ht (matG_of (by omega) (by decide +kernel) (ident_mat ident_code hT ht hlt)) rfl rfl rfl rfl) (by rw [hid]; rfl)) (.there (.there (.there .here))) ?_ rfl)
      refine Sgs.ite (b := false) hA (Te.none (Ev.name (.there (.there (.there .here)))) rfl) (fun h => by cases h) (fun _ => Sgs.nil ?_)
      cases hha : hashEnd t p with
      | some q =>
        have hb : bit t p = .tok [72, 65, 83, 72] (uident (cutL t (p + 1) q)) q := by unfold bit; rw [if_neg hw, hid, hha]
        rw [hb] at e
        dsimp only at e
        have hgt := hash_b hha
        obtain ⟨mo, hmo⟩ := more _ _ e
        refine Sgs.step hA (Ex1.assign (Ev.cast (q := .mat t p q none) (Ev.match (Ev.glob gh kh rfl) hph (pat_facts 4 (by omega)).1 (pat_facts 4 (by omega)).2 (Ev.name .here) (Ev.name (.there .here)) hp ht (matG_of (by omega) (by decide +kernel) (hash_mat hash_code hT ht hlt)) rfl rfl rfl rfl) (by rw [hha]; rfl)) (.there (.there (.there .here))) ?_ rfl)
        refine Sgs.ite hA (Te.mat (Ev.name (.there (.there (.there .here)))) rfl) (fun _ => ?_) (fun h => by cases h)
        refine Sgs.step hA (Ex1.assign (Ev.can (uidents G.B (cutL t (p + 1) q) (by have := cut_len t (p + 1) q; omega) (fun c hc => hT c (cut_mem hc))) (Evs.cons (Ev.cast (q := .str (cutL t (p + 1) q)) (Ev.sliceM (a := some (1 : Nat)) (b := none) (Ev.group0 (Ev.name (.there (.there (.there .here)))) ht rfl rfl) Ev.cint trivial (by have := cut_len t p q; unfold cutL at this; rw [sizeLine_eq]; omega)) (congrArg PV.str (cut_tail t p q))) Evs.nil rfl) G.n ku rfl rfl) (.there (.there (.there (.there .here)))) ?_ rfl)
        refine Sgs.tok hA rfl rfl hX hloc hLX hown hmo rfl (Ev.token G (by decide +kernel) (Ev.name (.there (.there (.there (.there .here))))) (Ev.name (.there .here)) rfl rfl rfl) (gR_no rfl rfl n3 n4 n5) hco hint fun s₁ ff1 => ?_
        refine Sgs.step hA (Ex1.assign (Ev.end' (Ev.name (.there (.there (.there .here)))) rfl rfl) (.there .here) ?_ rfl)
        exact Sgs.step hA (Ex1.cont (cont _ _ _ _ _ _ _ s₁ (by omega) hgt.2 e ff1 rfl rfl n3 n4 n5))
      | none =>
      refine Sgs.step hA (Ex1.assign (Ev.cast (q := .none) (Ev.match (Ev.glob gh kh rfl) hph (pat_facts 4 (by omega)).1 (pat_facts 4 (by omega)).2 (Ev.name .here) (Ev.name (.there .here)) hp ht (matG_of (by omega) (by decide +kernel) (hash_mat hash_code hT ht hlt)) rfl rfl rfl rfl) (by rw [hha]; rfl)) (.there (.there (.there .here))) ?_ rfl)
      refine Sgs.ite (b := false) hA (Te.none (Ev.name (.there (.there (.there .here)))) rfl) (fun h => by cases h) (fun _ => Sgs.nil ?_)
      have kq : C.env.kindOf "_match_string_by_quote" = some .globalImplicit := kindG G.sc (by decide +kernel)
      have ks : C.env.kindOf "SelectorSyntaxError" = some .globalImplicit := kindG G.sc (by decide +kernel)
      have kn : C.env.kindOf "_match_number" = some .globalImplicit := kindG G.sc (by decide +kernel)
      have kl : C.env.kindOf "_newline_escape" = some .globalImplicit := kindG G.sc (by decide +kernel)
      obtain ⟨pn, gn, hpn⟩ := G.B.pat 3 (by omega)
      have gn : GlobIs C.hB "_match_number" (.ref pn) := gn
      obtain ⟨pl, gl, hpl⟩ := G.B.pat 7 (by omega)
      have gl : GlobIs C.hB "_newline_escape" (.ref pl) := gl
      refine Sgs.step hA (Ex1.assign (Ev.idxN (Ev.name .here) (Ev.name (.there .here)) hlt (by omega) (fun _ _ => rfl)) (.there (.there (.there (.there (.there .here))))) ?_ rfl)
      by_cases hq : t.getD p 0 = 39 ∨ t.getD p 0 = 34
      · refine Sgs.ite hA (Te.inQuotes G.k (Ev.name (.there (.there (.there (.there (.there .here)))))) (Ev.glob G.gQ kq rfl) rfl) (fun _ => ?_) (fun h => by have := of_decide_eq_false h; exact absurd hq this)
        have hb : bit t p = strBit t p := by unfold bit; rw [if_neg hw, hid, hha]; exact if_pos hq
        rw [hb] at e
        unfold strBit at e
        dsimp only at e
        obtain ⟨qa, qi, hqc, hqp, hqi, hqm⟩ : ∃ qa qi, (t.getD p 0 = 39 ∧ qa = 43 ∨ t.getD p 0 = 34 ∧ qa = 48) ∧ PySem.Flt.IsPattern C.hB qa (patR qi) ∧ qi < 8 ∧ MatG (patR qi).code.toArray (patR qi).groups t (p + 1) (some (starEnd (strNext t (t.getD p 0)) t.length (p + 1), none)) := by
          rcases hq with hq | hq
          · exact ⟨43, 0, .inl ⟨hq, rfl⟩, G.q1, by omega, by rw [hq]; exact matG_of (by omega) (by decide +kernel) (str_mat str_code0 hT ht (by omega))⟩
          · exact ⟨48, 1, .inr ⟨hq, rfl⟩, G.q2, by omega, by rw [hq]; exact matG_of (by omega) (by decide +kernel) (str_mat str_code1 hT ht (by omega))⟩
        have hge := starEnd_ge (nxt := strNext t (t.getD p 0)) (fun p q h => (strNext_le h).1) t.length (p + 1)
        have hE := starEnd_le (t := t) (nxt := strNext t (t.getD p 0)) (fun p q h => (strNext_le h).2) t.length (p + 1) (by omega)
        generalize starEnd (strNext t (t.getD p 0)) t.length (p + 1) = q at e hqm hge hE
        refine Sgs.step hA (Ex1.assign (p := .mat t (p + 1) q none) (Ev.match (Ev.quoteItem G.k (Ev.glob G.gQ kq rfl) (Ev.name (.there (.there (.there (.there (.there .here)))))) hqc (fun _ _ => rfl) (fun _ _ => rfl)) hqp (pat_facts qi hqi).1 (pat_facts qi hqi).2 (Ev.name .here) (Ev.cast (q := .int (p + 1 : Nat)) (Ev.add_int (b := 1) (Ev.name (.there .here)) Ev.cint) rfl) (by omega) ht hqm rfl rfl rfl rfl) (.there (.there (.there .here))) ?_ rfl)
        refine Sgs.step hA (Ex1.assert (Te.mat (Ev.name (.there (.there (.there .here)))) rfl) ?_)
        refine Sgs.step hA (Ex1.assign (Ev.end' (Ev.name (.there (.there (.there .here)))) rfl rfl) (.there (.there (.there (.there (.there (.there .here)))))) ?_ rfl)
        by_cases he : q = t.length
        · rw [if_pos he] at e
          cases e
          rw [Nat.sub_self]
          obtain ⟨ml, hml⟩ := Ev.fstr (C := C) (ρ := gR t p (.val (.mat t (p + 1) q none)) e2 (.val (.str [t.getD p 0])) (.val (.int q)) e5) (x := "Unclosed string at ") (xn := "pos") (k := 0) (p1 := ⟨99, 44, 99, 63⟩) (p2 := ⟨99, 64, 99, 67⟩) (p3 := ⟨99, 63, 99, 68⟩) (pos := ⟨99, 42, 99, 69⟩) (i := p) (Ev.name (.there .here)) (by omega) (by omega) (by decide +kernel)
          refine Sgs.ite hA (Te.eq_int (Ev.name (.there (.there (.there (.there (.there (.there .here))))))) (Ev.name (.there (.there .here))) rfl) (fun _ => ?_) (fun h => absurd he (by have := of_decide_eq_false h; omega))
          exact Sgs.raise hA G.k G.gS ks hml rfl hown hfr hf hloc hn ff
        · rw [if_neg he] at e
          refine Sgs.ite hA (Te.eq_int (Ev.name (.there (.there (.there (.there (.there (.there .here))))))) (Ev.name (.there (.there .here))) rfl) (fun h => absurd (by have := of_decide_eq_true h; omega) he) (fun _ => Sgs.nil ?_)
          have hv1 : ∀ ρ, At ρ "s" (.val (.str t)) → At ρ "end_pos" (.val (.int q)) → At ρ "quote" (.val (.str [t.getD p 0])) → ∀ a b c d f, Te C ρ (.Compare (.Subscript (.Name "s" a) (.Name "end_pos" b) c) [.NotEq] [.Name "quote" d] f) (!decide ([t.getD q 0] = [t.getD p 0])) :=
            fun ρ h1 h2 h3 a b c d f => Te.ne_str (Ev.idxN (Ev.name h1) (Ev.name h2) (by omega) (by omega) (fun _ _ => rfl)) (Ev.name h3) rfl
          by_cases hv : t.getD q 0 = t.getD p 0
          · rw [if_neg (fun z => z hv)] at e
            dsimp only at e
            obtain ⟨mo, hmo⟩ := more _ _ e
            refine Sgs.ite hA (hv1 _ .here (.there (.there (.there (.there (.there (.there .here)))))) (.there (.there (.there (.there (.there .here))))) _ _ _ _ _) (fun h => by rw [hv] at h; simp at h) (fun _ => Sgs.nil ?_)
            have hc := cut_len t (p + 1) q
            have hsl := sub_len (cutL t (p + 1) q) ((cutL t (p + 1) q).length + 1) 0
            refine Sgs.step hA (Ex1.assign (Ev.can (uidents G.B (subFrom (cutL t (p + 1) q) ((cutL t (p + 1) q).length + 1) 0) (by omega) (fun c hc => hT c (cut_mem (sub_mem _ _ _ _ hc)))) (Evs.cons (Ev.sub (Ev.glob gl kl rfl) hpl (by rw [codeOf_is 7 (by rw [pats_len]; omega)]; exact nl_code) (by decide +kernel) (pat_facts 7 (by omega)).1 (by decide +kernel) (Ev.group0 (Ev.name (.there (.there (.there .here)))) ht rfl rfl) (fun c hc => hT c (cut_mem hc)) (by omega) rfl rfl rfl rfl) Evs.nil rfl) G.n ku rfl rfl) (.there (.there (.there (.there .here)))) ?_ rfl)
            refine Sgs.tok hA rfl rfl hX hloc hLX hown hmo rfl (Ev.token G (by decide +kernel) (Ev.name (.there (.there (.there (.there .here))))) (Ev.name (.there .here)) rfl rfl rfl) (gR_no rfl rfl rfl rfl n5) hco hint fun s₁ ff1 => ?_
            refine Sgs.step hA (Ex1.assign (Ev.cast (q := .int (q + 1 : Nat)) (Ev.add_int (b := 1) (Ev.name (.there (.there (.there (.there (.there (.there .here))))))) Ev.cint) rfl) (.there .here) ?_ rfl)
            exact Sgs.step hA (Ex1.cont (cont _ _ _ _ _ _ _ s₁ (by omega) (by omega) e ff1 rfl rfl rfl rfl n5))
          · rw [if_pos hv] at e
            cases e
            rw [Nat.sub_self]
            obtain ⟨ml, hml⟩ := Ev.fstr (C := C) (ρ := gR t p (.val (.mat t (p + 1) q none)) e2 (.val (.str [t.getD p 0])) (.val (.int q)) e5) (x := "Invalid string at ") (xn := "pos") (k := 0) (p1 := ⟨101, 44, 101, 62⟩) (p2 := ⟨101, 63, 101, 66⟩) (p3 := ⟨101, 62, 101, 67⟩) (pos := ⟨101, 42, 101, 68⟩) (i := p) (Ev.name (.there .here)) (by omega) (by omega) (by decide +kernel)
            refine Sgs.ite hA (hv1 _ .here (.there (.there (.there (.there (.there (.there .here)))))) (.there (.there (.there (.there (.there .here))))) _ _ _ _ _) (fun _ => ?_) (fun h => absurd (by simpa using h) hv)
            exact Sgs.raise hA G.k G.gS ks hml rfl hown hfr hf hloc hn ff
      · refine Sgs.ite hA (Te.inQuotes G.k (Ev.name (.there (.there (.there (.there (.there .here)))))) (Ev.glob G.gQ kq rfl) rfl) (fun h => absurd (of_decide_eq_true h) hq) (fun _ => Sgs.nil ?_)
        cases hnu : numMatch t p with
        | some q =>
          have hb : bit t p = .tok [78, 85, 77, 66, 69, 82] (cutL t p q) q := by unfold bit; rw [if_neg hw, hid, hha]; dsimp only; rw [if_neg hq, hnu]
          rw [hb] at e
          dsimp only at e
          have hgt := num_b hlt hnu
          obtain ⟨mo, hmo⟩ := more _ _ e
          refine Sgs.step hA (Ex1.assign (Ev.cast (q := .mat t p q none) (Ev.match (Ev.glob gn kn rfl) hpn (pat_facts 3 (by omega)).1 (pat_facts 3 (by omega)).2 (Ev.name .here) (Ev.name (.there .here)) hp ht (matG_of (by omega) (by decide +kernel) (num_mat num_code hT ht hlt)) rfl rfl rfl rfl) (by rw [hnu]; rfl)) (.there (.there (.there .here))) ?_ rfl)
          refine Sgs.ite hA (Te.mat (Ev.name (.there (.there (.there .here)))) rfl) (fun _ => ?_) (fun h => by cases h)
          refine Sgs.step hA (Ex1.assign (Ev.group0 (Ev.name (.there (.there (.there .here)))) ht rfl rfl) (.there (.there (.there (.there .here)))) ?_ rfl)
          refine Sgs.tok hA rfl rfl hX hloc hLX hown hmo rfl (Ev.token G (by decide +kernel) (Ev.name (.there (.there (.there (.there .here))))) (Ev.name (.there .here)) rfl rfl rfl) (gR_no rfl rfl rfl n4 n5) hco hint fun s₁ ff1 => ?_
          refine Sgs.step hA (Ex1.assign (Ev.end' (Ev.name (.there (.there (.there .here)))) rfl rfl) (.there .here) ?_ rfl)
          exact Sgs.step hA (Ex1.cont (cont _ _ _ _ _ _ _ s₁ hgt.1 hgt.2 e ff1 rfl rfl rfl n4 n5))
        | none =>
        have hb : bit t p = comBit t p := by unfold bit; rw [if_neg hw, hid, hha]; dsimp only; rw [if_neg hq, hnu]
        rw [hb] at e
        unfold comBit at e
        refine Sgs.step hA (Ex1.assign (Ev.cast (q := .none) (Ev.match (Ev.glob gn kn rfl) hpn (pat_facts 3 (by omega)).1 (pat_facts 3 (by omega)).2 (Ev.name .here) (Ev.name (.there .here)) hp ht (matG_of (by omega) (by decide +kernel) (num_mat num_code hT ht hlt)) rfl rfl rfl rfl) (by rw [hnu]; rfl)) (.there (.there (.there .here))) ?_ rfl)
        refine Sgs.ite (b := false) hA (Te.none (Ev.name (.there (.there (.there .here)))) rfl) (fun h => by cases h) (fun _ => Sgs.nil ?_)
        refine Sgs.step hA (Ex1.assign (Ev.add_int (a := p) (b := 2) (Ev.name (.there .here)) Ev.cint) (.there (.there (.there (.there (.there (.there (.there .here))))))) ?_ rfl)
        by_cases hc : slc t (some (p : Int)) (some ((p : Int) + 2)) = [47, 42]
        · rw [if_pos hc] at e
          dsimp only at e
          have h2 := (slc_pair.mp hc).1
          have hci := com_is (t := t) (i := p) (by omega)
          have hcb : p < min (comEnd t (t.length - (p + 2)) (p + 2) + 2) t.length := by have := comEnd_ge t (t.length - (p + 2)) (p + 2); omega
          rw [hci, Int.toNat_natCast] at e
          generalize hz : min (comEnd t (t.length - (p + 2)) (p + 2) + 2) t.length = z at e hci hcb
          have hzl : z ≤ t.length := by rw [← hz]; exact Nat.min_le_right _ _
          have go : ∀ d1, noOwn d1 = true → SgG C A0 (RR C.hB outer C.own F) (YY C.hB outer X C.own T) (T.length - rows.length) s₀ (.whileLoop gW.1 gW.2 [] C.env) (frW gbody C.env K (Hf C.env) p0) (Kw gW.1 gW.2 C.env .cont) (gR t z (.val .none) e2 (.val (.str [t.getD p 0])) e4 (.val (.int ((p : Int) + 2)))) :=
            fun d1 _ => SgG.again (ih z rows _ _ _ _ _ s₀ (by omega) hzl e ff rfl n2 rfl n4 rfl)
          refine Sgs.ite hA (Te.eq_str (Ev.slice (a := some (p : Int)) (b := some ((p : Int) + 2)) (Ev.name .here) (Ev.name (.there .here)) (Ev.name (.there (.there (.there (.there (.there (.there (.there .here)))))))) (by rw [sizeLine_eq]; omega) (fun _ _ => rfl)) (b := [47, 42]) (Ev.cstr (by decide +kernel)) rfl) (fun _ => ?_) (fun h => absurd hc (of_decide_eq_false h))
          refine Sgs.step hA (Ex1.assign (Ev.find3 (i := (p : Int) + 2) (y := [42, 47]) (Ev.name .here) (Ev.cstr (by decide +kernel)) (Ev.name (.there (.there (.there (.there (.there (.there (.there .here)))))))) rfl rfl rfl rfl) (.there .here) ?_ rfl)
          by_cases hm1 : findL t [42, 47] ((p : Int) + 2) = -1
          · rw [if_pos hm1] at hci
            refine Sgs.ite hA (Te.eq_int (b := -1) (Ev.name (.there .here)) (Ev.neg Ev.cint) rfl) (fun _ => ?_) (fun h => absurd hm1 (of_decide_eq_false h))
            refine Sgs.step hA (Ex1.assign (Ev.cast (q := .int (z : Nat)) (Ev.name (.there (.there .here))) (by rw [hci])) (.there .here) ?_ rfl)
            exact Sgs.nil (Sgs.step hA (Ex1.cont (go .undef rfl)))
          · rw [if_neg hm1] at hci
            refine Sgs.ite hA (Te.eq_int (b := -1) (Ev.name (.there .here)) (Ev.neg Ev.cint) rfl) (fun h => absurd (of_decide_eq_true h) hm1) (fun _ => ?_)
            refine Sgs.step hA (Ex1.augInt (b := 2) (.there .here) Ev.cint (.there .here) ?_)
            rw [hci]
            exact Sgs.nil (Sgs.step hA (Ex1.cont (go .undef rfl)))
        · rw [if_neg hc] at e
          dsimp only at e
          obtain ⟨mo, hmo⟩ := more _ _ e
          refine Sgs.ite hA (Te.eq_str (Ev.slice (a := some (p : Int)) (b := some ((p : Int) + 2)) (Ev.name .here) (Ev.name (.there .here)) (Ev.name (.there (.there (.there (.there (.there (.there (.there .here)))))))) (by rw [sizeLine_eq]; omega) (fun _ _ => rfl)) (b := [47, 42]) (Ev.cstr (by decide +kernel)) rfl) (fun h => absurd (of_decide_eq_true h) hc) (fun _ => Sgs.nil ?_)
          refine Sgs.tok hA rfl rfl hX hloc hLX hown hmo rfl (Ev.token G (by decide +kernel) (Ev.idxN (Ev.name .here) (Ev.name (.there .here)) hlt (by omega) (fun _ _ => rfl)) (Ev.name (.there .here)) rfl rfl rfl) (gR_no rfl n2 rfl n4 rfl) hco hint fun s₁ ff1 => ?_
          refine Sgs.step hA (Ex1.augInt (b := 1) (.there .here) Ev.cint (.there .here) ?_)
          exact Sgs.nil (cont (p + 1) _ _ _ _ _ _ s₁ (by omega) (by omega) e ff1 rfl n2 rfl n4 rfl)
    · have hge : ¬ p < t.length := fun q => by have := of_decide_eq_false h; omega
      obtain rfl : p = t.length := by omega
      rw [if_neg hge] at e
      cases e
      exact hexit rows e1 e2 e3 e4 e5 s₀ ff n1 n2 n3 n4 n5 rfl rfl
end
end Mine
end
section
open PySem PySem.W PyProof.Rows PySem.Calls
set_option Elab.async false
set_option linter.unusedVariables false
set_option maxRecDepth 100000
namespace Mine
def Cx.on (C : Cx) (A : Around) (h1 : A.handled = none) (h2 : A.depth + C.n < recursionLimit) (h3 : A.units + 100 * C.n + 100 < cLine) : Cx := { C with A := A, handled := h1, depth := h2, units := h3 }
def whileIs : Option Stmt → Prop
  | some (.While _ _ [] _) => True
  | _ => False
section
variable {C : Cx} {A0 : Around} {outer : List Env} {L : Addr} {X : List Addr} {t0 t : List Nat} {T : List Row} {F : Bool} 
theorem over_func_depth (A : Around) (b : List Stmt) (env : Env) : (A.over (.func b env) []).depth = A.depth + 1 := by
  show A.depth + 0 + Code.weight _ = _
  rw [show Code.weight (.func b env) = 1 by rfl]
theorem over_func_units (A : Around) (b : List Stmt) (env : Env) : (A.over (.func b env) []).units = A.units + 3 := by
  show A.units + 0 + Code.cUnits _ = _
  rw [show Code.cUnits (.func b env) = 3 by rfl]
theorem over_while_depth (A : Around) (test : Expr) (body b : List Stmt) (env : Env) (K : Flow → Sem Fin) (p : Pos) : (A.over (.whileLoop test body [] env) (frW b env K (Hf env) p)).depth = A.depth + 1 := by
  show A.depth + _ + Code.weight _ = _
  rfl
theorem over_while_units (A : Around) (test : Expr) (body b : List Stmt) (env : Env) (K : Flow → Sem Fin) (p : Pos) : (A.over (.whileLoop test body [] env) (frW b env K (Hf env) p)).units = A.units + 3 := by
  show A.units + _ + Code.cUnits _ = _
  rfl
theorem St.on {A : Around} {h1 h2 h3} {ρ : Rho} {s : Shared} (σ : St (C.on A h1 h2 h3) ρ s) : St C ρ s := ⟨σ.base, σ.toks, σ.inX, σ.nd, σ.loc, σ.ns⟩
theorem St.to {A : Around} {h1 h2 h3} {ρ : Rho} {s : Shared} (σ : St C ρ s) : St (C.on A h1 h2 h3) ρ s := ⟨σ.base, σ.toks, σ.inX, σ.nd, σ.loc, σ.ns⟩
def gRest : List Stmt := (nth 5).body.drop 4
theorem tokenize_seg (G : GF C) (hA : A0.over (.func (nth 5).body C.env) [] = C.A) (hh : A0.handled = none) (hd : A0.depth + 1 + C.n < recursionLimit) (hu : A0.units + 3 + 100 * C.n + 100 < cLine)
    (hX : C.X = L :: X) (hloc : C.env.locals = L) (hLX : L ∉ X) (hown : C.own = [L]) (hfr : A0.frames = some outer) (hf : C.env.frame = some L)
    (hn : ∀ env ∈ outer, env.frame ≠ some L) (ht0 : t0.length < 1000) (htt : (Txt.replace (S t0) (S [0]) (S [65533])).cps.toList = t) (ht : t.length < 1000) (hT : ∀ c ∈ t, c ∈ alpha) (e : tok t t.length [] 0 = (T, F)) {s₀ : Shared} (ff : s₀.heap.FunFrames C.hB outer) :
    SgG C A0 (RR C.hB outer C.own F) (YY C.hB outer X C.own T) T.length s₀ (.func (nth 5).body C.env) [] (C.M.den (.func (nth 5).body C.env))
      [("s", .val (.str t0)), ("pos", .undef), ("len_s", .undef), ("match", .undef), ("value", .undef), ("quote", .undef), ("end_pos", .undef), ("pos2", .undef)] := fun s σ k => by
  have hint : interactive C.env = false := by show (C.env.scope.kind == .module && _) = false; rw [C.kind]; rfl
  have hco : C.env.scope.isCoroutine = false := by rw [G.sc]; rfl
  have kl : C.env.kindOf "len" = some .globalImplicit := kindG G.sc (by decide +kernel)
  have ke : C.env.kindOf "EOFToken" = some .globalImplicit := kindG G.sc (by decide +kernel)
  refine seg_func ?_
  refine (?_ : Sgs C A0 (RR C.hB outer C.own F) (YY C.hB outer X C.own T) T.length s₀ (.func (nth 5).body C.env) [] Kf (Hf C.env) _ (nth 5).body) s σ k
  conv => arg 12; whnf
  refine Sgs.step hA (Ex1.assign (Ev.cast (q := .str t) (Ev.replace (Ev.name .here) (by decide +kernel) (by rw [show Str.length _ = 1 by decide +kernel]; omega) rfl rfl) ?_) .here ?_ rfl)
  · exact congrArg PV.str htt
  refine Sgs.step hA (Ex1.assign (Ev.cast (q := .int (0 : Nat)) Ev.cint rfl) (.there .here) ?_ rfl)
  refine Sgs.step hA (Ex1.assign (Ev.len (Ev.glob (G.B.bi ("len", _) (by decide +kernel)) kl rfl) (Ev.name .here) (by omega) rfl) (.there (.there .here)) ?_ rfl)
  intro s1 σ1 k1
  rw [execs_cons_K]
  refine seg_While fun p => ?_
  refine (?_ : Seg C.M A0 (RR C.hB outer C.own F) (YY C.hB outer X C.own T) T.length s₀ (.whileLoop gW.1 gW.2 [] C.env) (C.M.den (.whileLoop gW.1 gW.2 [] C.env)) (frW (nth 5).body C.env (thenK C Kf (Hf C.env) gRest) (Hf C.env) p) s1)
  have h1 : (A0.over (.whileLoop gW.1 gW.2 [] C.env) (frW (nth 5).body C.env (thenK C Kf (Hf C.env) gRest) (Hf C.env) p)).handled = none := by
    show (marksOver _ (A0.handled, A0.handled)).1 = none
    rw [hh]; rfl
  refine gen_loop (C := C.on (A0.over (.whileLoop gW.1 gW.2 [] C.env) (frW (nth 5).body C.env (thenK C Kf (Hf C.env) gRest) (Hf C.env) p)) h1 (by rw [over_while_depth]; exact hd) (by rw [over_while_units]; exact hu))
    ⟨G.B, G.k, G.sc, G.n, G.bt, G.gT, G.gE, G.gS, G.gQ, G.q1, G.q2⟩ rfl hX hloc hLX hown hfr hf hn ht hT ?_ t.length 0 [] _ _ _ _ _ s₀ (Nat.le_refl _) (Nat.zero_le _) e ff rfl rfl rfl rfl rfl s1 σ1.to k1
  intro rows e1 e2 e3 e4 e5 s₁ ff1 n1 n2 n3 n4 n5 hTr hF s2 σ2 k2
  refine seg_leaf (.ok .next) ?_
  show Seg _ _ _ _ _ _ _ ((execs gRest C.env).wrap Kf (Hf C.env) id id) _ _
  refine (?_ : Sgs C A0 (RR C.hB outer C.own F) (YY C.hB outer X C.own T) (T.length - rows.length) s₁ (.func (nth 5).body C.env) [] Kf (Hf C.env) (gR t t.length e1 e2 e3 e4 e5) gRest) s2 σ2.on k2
  conv => arg 12; whnf
  refine Sgs.step hA (Ex1.assert (Te.cast (Te.eq_int (Ev.name (.there .here)) (Ev.name (.there (.there .here))) rfl) (decide_eq_true rfl)) ?_)
  refine Sgs.tok (row := ([69, 79, 70], none, t.length)) (more := []) hA rfl rfl hX hloc hLX hown hTr rfl (Ev.callC G.k keep_eof G.gE ke rfl (Evs.cons (Ev.name (.there .here)) Evs.nil rfl) (fn_eof G.k G.B.lim G.bt G.gT t.length) G.n rfl rfl) (gR_no n1 n2 n3 n4 n5) hco hint fun s₂ ff2 => Sgs.nil fun s3 σ3 k3 => ?_
  refine seg_end (.ok (.ret .none)) ⟨?_, ?_, k3.2, fun a ha => ?_, hF, k3.heap⟩
  · rw [hTr]; exact Nat.sub_self _
  · obtain ⟨⟨h4, t4, rfl, _⟩, _⟩ := k3
    exact ⟨h4, t4, rfl⟩
  · rw [hown] at ha
    obtain rfl : a = L := by cases ha with | head => rfl | tail _ h => cases h
    obtain ⟨m, ⟨o, es, ep, ho, hd, _⟩, _⟩ := σ3.ns
    rw [hloc] at ho
    exact ⟨o, ho, fun vs z => by rw [hd] at z; cases z⟩
end
end Mine
end
section
open PySem PySem.W PyProof.Rows PySem.Calls
set_option Elab.async false
set_option linter.unusedVariables false
set_option maxRecDepth 100000
namespace Mine
section
variable {prog : Program} {w : World} {hB hB' : Heap}
theorem GlobIs.keep {x : Str} {v : Value} (g : GlobIs hB x v) (k : Heap.le hB hB') : GlobIs hB' x v := by
  rcases g with ⟨mg, h1, h2⟩ | ⟨mg, mb, h1, h2, h3, h4⟩
  · exact .inl ⟨mg, h1.keeps k, h2⟩
  · exact .inr ⟨mg, mb, h1.keeps k, h2, h3.keeps k, h4⟩
theorem Base.keep (B : Base prog w hB) (k : Heap.le hB hB') : Base prog w hB' where
  lim := B.lim.keeps k
  fn := fun i hi => by
    obtain ⟨a, g, o, pm, cd, doc, h1, h2, h3⟩ := B.fn i hi
    exact ⟨a, g.keep k, o, pm, cd, doc, k _ _ h1, h2, h3.keeps k⟩
  bi := fun x hx => (B.bi x hx).keep k
  pats := fun r hr => by
    obtain ⟨a, g, h⟩ := B.pats r hr
    exact ⟨a, g.keep k, h.keeps k⟩
  six := B.six.imp fun t g => g.keep k
  signs := B.signs.imp fun v g => ⟨g.1.keep k, g.2.mono fun b o _ e => k b o e⟩
/-- what stands below all -/
structure GL (prog : Program) (w : World) (hB : Heap) : Prop where
  B : Base prog w hB
  k : Heap.le (hF w.params) hB
  bt : GlobIs hB "tuple" (.type "tuple")
  gT : GlobIs hB "Token" (.ref 127)
  gE : GlobIs hB "EOFToken" (.ref 155)
  gS : GlobIs hB "SelectorSyntaxError" (.ref 71)
  gQ : GlobIs hB "_match_string_by_quote" (.ref 179)
  q1 : PySem.Flt.IsPattern hB 43 (patR 0)
  q2 : PySem.Flt.IsPattern hB 48 (patR 1)
theorem GL.keep (G : GL prog w hB) (k : Heap.le hB hB') : GL prog w hB' :=
  ⟨G.B.keep k, G.k.trans k, G.bt.keep k, G.gT.keep k, G.gE.keep k, G.gS.keep k, G.gQ.keep k, G.q1.keeps k, G.q2.keeps k⟩
end
section
variable {prog : Program} {w : World} {A : Around} {E : Value → Shared → Prop} {s : Shared}
/-- the next of a generator: a value, the end, or an error -/
theorem pyNext_genE {a : Addr} {g n : Nat} {gs : GenState} {R : GenEnd} {Y : Protocol} {Q : Option Value → Shared → Prop} (hh : A.handled = none)
    (hl : s.heap.NoLimit) (hroom : A.depth < recursionLimit) (hg : s.heap.IsGen a g) (hgs : s.gens[g]? = some gs)
    (hgo : gs.Goes (model prog w) A.in1 R Y n (.send .none) (s.setGen g .running))
    (hY : ∀ v s₁ gs', Y (n - 1) (s.setGen g .running) v s₁ (fun r' s'' => match n with
        | 0 => False
        | m + 1 => gs'.Goes (model prog w) A.in1 R Y m r' s'') → Q (some v) (s₁.setGen g gs'))
    (hR : ∀ x s₁, R n (s.setGen g .running) x s₁ → (x = .ok (.ret .none) ∧ ∀ h', (∀ b o, s₁.heap.get? b = some o → h'.get? b = some o) → Q none { s₁.setGen g .finished with heap := h' }) ∨
      (∃ e, x = .error (.ref e) ∧ s₁.heap.IsGen a g ∧ (∀ (M : Model) (h : Heap), h = s₁.heap → Looks M h (isInstance (.ref e) (.type "StopIteration")) false) ∧ E (.ref e) (s₁.setGen g .finished))) :
    wpAny (model prog w) A (pyNext (.ref a)) Q E s := by
  unfold pyNext
  refine wpAny_bind (wpAny_attempt (wpAny_callSpecial?_slot (name := Str.ofString "__next__") hg.typeIs slot_gen_next
    (wpAny_call_entry slot_gen_next hg.typeIs entry_gen_next ?_ (args_gen_next _))))
  show wpAny _ _ (Builtin.Generator.genWake (.ref a) (.send .none)) _ _ s
  unfold Builtin.Generator.genWake
  refine wpAny_bind (wpAny_holding (wpAny_genNumber hg (wpAny_bind (wpAny_genState hgs ?_))))
  cases gs with
  | running => exact hgo.elim
  | finished => exact hgo.elim
  | _ =>
    refine wpAny_bind (wpAny_roomToWake hl hroom ?_)
    show wpAny _ _ (.resume g (.send .none) [] _) _ _ s
    refine wpAny_resume hgs hgo (fun x s₁ hx => ?_) (fun v s₁ gs' hv => ?_)
    · rcases hR x s₁ hx with ⟨rfl, hQ⟩ | ⟨e, rfl, hig, hL, hE⟩
      · show wpAny _ _ (newExc (.type "StopIteration") [] >>= _) _ _ _
        refine wpAny_bind ?_
        simp only [newExc, newTuple]
        refine wpAny_bind (wpAny_newObj_type ?_ (by size_fits))
        refine wpAny_bind (m := firstArgMember _ _) (wpAny_of_eq (a := Value.none) (by first | rfl | (simp only [firstArgMember]; rfl)) ?_)
        refine wpAny_newObj_type ?_ (by size_fits)
        simp only [raiseNew]
        refine wpAny_bind (wpAny_bind (wpAny_handled ?_))
        rw [show A.in1.handled = none from hh]
        refine wpAny_throw ?_
        refine wpAny_bind (wpAny_isInstance (T := "StopIteration") (b := true) ⟨_, Heap.get?_push_size _ rfl, rfl⟩ isSubtype_stop ?_)
        exact wpAny_pure (hQ _ fun b o hb => Heap.get?_push_of_some _ (Heap.get?_push_of_some _ hb))
      · show wpAny _ _ (Builtin.Generator.genLeft (.ref a) (.ref e)) _ _ (s₁.setGen g .finished)
        obtain ⟨o, nm, qn, ho, hc, hd, hsl⟩ := hig
        unfold Builtin.Generator.genLeft Builtin.Generator.madeByALambda
        have L1 := hL (model prog w) (s₁.setGen g .finished).heap rfl
        refine wpAny_bind (wpAny_bind (wpAny_load (s := s₁.setGen g .finished) ho (wpAny_pure ?_)))
        refine wpAny_bind (L1.here ?_)
        rw [Bool.and_false, if_neg Bool.false_ne_true]
        unfold Builtin.Generator.genEscaped
        refine wpAny_bind (L1.here ?_)
        rw [if_pos (show (!false) = true from rfl)]
        refine wpAny_throw ?_
        refine wpAny_bind (L1.here ?_)
        rw [if_neg Bool.false_ne_true]
        exact wpAny_throw hE
    · exact wpAny_pure ⟨v, rfl, wpAny_pure (hY v s₁ gs' hv)⟩
end
end Mine
end
section
open PySem PySem.W PyProof.Rows PySem.Calls PySem.SeqAt
set_option Elab.async false
set_option linter.unusedVariables false
set_option maxRecDepth 100000
namespace Mine
section
variable {A : Around} {s : Shared} {X X' : List Addr}
theorem eqAt_self (v : Value) : EqAt A s v v true := fun prog w E Q h => by
  unfold eqBool
  refine wpAny_holding ?_
  refine wpAny_ite_split (fun _ => wpAny_bind (wpAny_rule (wpAny_pure h))) (fun hne => absurd (beq_self_eq_true v) hne)
def leafP : PV → Bool
  | .none => true
  | .bool _ => true
  | .int _ => true
  | .str _ => true
  | _ => false
theorem eqAt_leaf {v u : Value} {p : PV} (hv : Rp X s.heap v p) (hu : Rp X' s.heap u p) (hl : leafP p = true) : EqAt A s v u true := by
  cases p with
  | none => cases hv; cases hu; exact eqAt_self _
  | bool b => cases hv; cases hu; exact eqAt_self _
  | int i =>
    cases hv with
    | int _ t => cases hu with
      | int _ t' => have := EqAt.int_int (A := A) (s := s) i t i t'; rwa [beq_self_eq_true] at this
  | str l =>
    cases hv with
    | str _ t => cases hu with
      | str _ t' => have := EqAt.str_str (A := A) (s := s) (S l) t (S l) t'; rwa [beq_self_eq_true] at this
  | _ => cases hl
theorem eqAt_all : ∀ {vs us : List Value} {l : List PV}, Rps X s.heap vs l → Rps X' s.heap us l → (∀ p ∈ l, ∀ v u, Rp X s.heap v p → Rp X' s.heap u p → EqAt A s v u true) →
    ∀ j (h1 : j < vs.toArray.size) (h2 : j < us.toArray.size), EqAt A s vs.toArray[j] us.toArray[j] true
  | _, _, _, .nil, .nil, _ => fun j h1 => absurd h1 (Nat.not_lt_zero _)
  | _, _, _, .cons a b, .cons c d, h => fun j h1 h2 => by
    cases j with
    | zero => exact h _ (.head _) _ _ a c
    | succ j =>
      have := eqAt_all b d (fun p hp => h p (.tail _ hp)) j (by simpa using h1) (by simpa using h2)
      simpa using this
theorem all_true (n : Nat) : ((List.range n).all fun _ => true) = true := by simp
theorem eqAt_tup {v u : Value} {l : List PV} (hv : Rp X s.heap v (.tup l)) (hu : Rp X' s.heap u (.tup l)) (hun : A.units < cLine) (h : ∀ p ∈ l, ∀ v u, Rp X s.heap v p → Rp X' s.heap u p → EqAt A.in1 s v u true) : EqAt A s v u true := by
  cases hv with
  | tup a vs _ ha ht hr => cases hu with
    | tup b us _ hb ht' hr' =>
      by_cases q : a = b
      · subst q; exact eqAt_self _
      · refine EqAt.of_refs q ?_
        have := RcAt.tuples (e := fun _ => true) ht ht' hun (eqAt_all hr hr' h)
        have hl : vs.toArray.size = us.toArray.size := by simp [hr.length, hr'.length]
        rw [hl, all_true, beq_self_eq_true] at this
        exact this
theorem eqAt_lst {v u : Value} {l : List PV} (hv : Rp X s.heap v (.lst l)) (hu : Rp X' s.heap u (.lst l)) (hun : A.units < cLine) (h : ∀ p ∈ l, ∀ v u, Rp X s.heap v p → Rp X' s.heap u p → EqAt A.in1 s v u true) : EqAt A s v u true := by
  cases hv with
  | lst a vs _ ha ht hr => cases hu with
    | lst b us _ hb ht' hr' =>
      by_cases q : a = b
      · subst q; exact eqAt_self _
      · refine EqAt.of_refs q ?_
        have hl : vs.toArray.size = us.toArray.size := by simp [hr.length, hr'.length]
        have := RcAt.lists (e := fun _ => true) ht ht' hl hun (eqAt_all hr hr' h)
        rw [all_true] at this
        exact this
/-- a row as the law tells it -/
def rowT : Row → PV
  | (k, some v, i) => .tup [.str k, .str v, .int i]
  | (k, none, i) => .tup [.str k, .none, .int i]
theorem eqAt_row {v u : Value} {r : Row} (hv : Rp X s.heap v (rowT r)) (hu : Rp X' s.heap u (rowT r)) (hun : A.units < cLine) : EqAt A s v u true := by
  obtain ⟨k, _ | v', i⟩ := r
  · exact eqAt_tup hv hu hun fun p hp v u h1 h2 => eqAt_leaf h1 h2 (by
      simp only [List.mem_cons, List.not_mem_nil, or_false] at hp
      rcases hp with rfl | rfl | rfl <;> rfl)
  · exact eqAt_tup hv hu hun fun p hp v u h1 h2 => eqAt_leaf h1 h2 (by
      simp only [List.mem_cons, List.not_mem_nil, or_false] at hp
      rcases hp with rfl | rfl | rfl <;> rfl)
theorem eq_pair {prog : Program} {w : World} {E : Value → Shared → Prop} {Q : Value → Shared → Prop} {v u : Value} {T : List Row} {b : Bool} (hv : Rp X s.heap v (.tup [.lst (T.map rowT), .bool b])) (hu : Rp X' s.heap u (.tup [.lst (T.map rowT), .bool b]))
    (hun : A.units + 3 < cLine) (h : Q (.bool true) s) : wpAny (model prog w) A (compareOp .Eq v u) Q E s := by
  cases hv with
  | tup a vs _ ha ht hr => cases hu with
    | tup b us _ hb ht' hr' =>
      refine eq_tupleAt (e := fun _ => true) ht ht' (by omega) (eqAt_all hr hr' fun p hp v u h1 h2 => ?_) ?_
      · simp only [List.mem_cons, List.not_mem_nil, or_false] at hp
        rcases hp with rfl | rfl
        · refine eqAt_lst h1 h2 (show A.units + 1 < _ by omega) fun p hp v u h3 h4 => ?_
          obtain ⟨r, _, rfl⟩ := List.mem_map.mp hp
          exact eqAt_row h3 h4 (show A.units + 1 + 1 < _ by omega)
        · exact eqAt_leaf h1 h2 rfl
      · have hl : vs.toArray.size = us.toArray.size := by simp [hr.length, hr'.length]
        rw [hl, all_true, beq_self_eq_true]
        exact h
end
end Mine
end
section
open PySem PySem.W PyProof.Rows PySem.Calls
set_option Elab.async false
set_option linter.unusedVariables false
set_option maxRecDepth 100000
namespace Mine
theorem call_gen {prog : Program} {w : World} {A : Around} {R : Result → Shared → Prop} {s : Shared} {name : Str} {params : Arguments} {body : List Stmt} {scope : Scope}
    {pm cd doc : Value} {a : Addr} {o : Obj} {args : List Value}
    (hroom : A.depth < recursionLimit) (ho : s.heap.get? a = some o) (hdata : o.data = .func (docDef name params body scope pm cd doc)) (hlim : s.heap.NoLimit) (hcd : s.heap.CodeRec cd name)
    (hbind : bindArgs (docDef name params body scope pm cd doc) ⟨args, []⟩ = pure ((params.args.map (·.arg)).zip args))
    (hloc : ∀ x ∈ (params.args.map (·.arg)).zip args, scope.names.lookup x.1 = some .local)
    (h : ∀ h₁ n1 n2 tk, Fr s.heap s.heap.objs.size h₁ (fun x => ((params.args.map (·.arg)).zip args).reverse.lookup x) → s.toks ≤ tk →
      R (.ok (.ret (.ref h₁.objs.size))) { s with gens := s.gens.push (.fresh (.func body (envOf name scope s.heap.objs.size a cd))), toks := tk, heap := h₁.push { cls := .type "generator", data := .fields #[.int s.gens.size 0, n1, n2] } })
    (hco : scope.isCoroutine = false) (hgen : scope.isGenerator = true) (hk : scope.kind = .function)
    (hcell : ∀ x ∈ scope.names, x.2 ≠ .cell) :
    codeAny (model prog w) A (.call (.ref a) ⟨args, []⟩) R s := by
  refine codeAny_call_generator hroom ho hdata hco hgen rfl hcd ?_
  rw [hbind]
  refine wpAny_pure (wpAny_newFunctionEnv hcell hloc (fun h₁ hns hsb => ⟨hlim.fresh _ hsb, ?_⟩) hk)
  exact h h₁ _ _ _ ⟨hns, fun b o e => hsb.extBut b o (Nat.ne_of_lt (Heap.lt_size e)) (Heap.get?_push_of_some _ e), Nat.le_refl _⟩ (by show s.toks ≤ s.toks + _ + 1 + 1; omega)
end Mine
end
section
open PySem PySem.W PyProof.Rows PySem.Calls
set_option Elab.async false
set_option linter.unusedVariables false
set_option maxRecDepth 100000
namespace Mine
def tryOf : Stmt → List Stmt × List ExceptHandler
  | .Try b h _ _ _ => (b, h)
  | _ => ([], [])
def forOf : Stmt → Expr × Expr × List Stmt
  | .For t i b _ _ => (t, i, b)
  | _ => (.Constant .none 0 ⟨0, 0, 0, 0⟩, .Constant .none 0 ⟨0, 0, 0, 0⟩, [])
def lTry : List Stmt × List ExceptHandler := tryOf (((nth 12).body[2]?).getD (.Pass ⟨0, 0, 0, 0⟩))
def lFor : Expr × Expr × List Stmt := forOf ((lTry.1[0]?).getD (.Pass ⟨0, 0, 0, 0⟩))
def lR (es : EV) (t0 : List Nat) (told : EV) (b : Bool) (tk : EV) : Rho := [("script", es), ("text", .val (.str t0)), ("told", told), ("refused", .val (.bool b)), ("token", tk)]
section
variable {C : Cx} {ρ : Rho}
/-- another activation has worked at its own place -/
theorem St.other {L : Addr} {s s' : Shared} (σ : St C ρ s) (hL : L ∈ C.X) (hl : L ≠ C.env.locals) (k : Heap.leBut [L] s.heap s'.heap) (kt : s.toks ≤ s'.toks) (hx : ∃ o, s'.heap.get? L = some o) (ho : ∀ x D l, (x, EV.own D l) ∈ ρ → D ≠ L) : St C ρ s' := by
  obtain ⟨m, hn, hm⟩ := σ.ns
  have kk : ∀ b o, b ≠ L → s.heap.get? b = some o → s'.heap.get? b = some o := fun b o hb e => k b o (fun q => hb (by cases q with | head => rfl | tail _ h => cases h)) e
  have kX : ∀ b o, b ∉ C.X → s.heap.get? b = some o → s'.heap.get? b = some o := fun b o hb e => kk b o (fun q => hb (q ▸ hL)) e
  refine ⟨fun b o e => kk b o (fun q => ?_) (σ.base b o e), Nat.le_trans σ.toks kt, fun a ha => ?_, σ.nd, σ.loc, m, ns_at hn (fun o e => kk _ o hl.symm e), fun y e hy hu => ?_⟩
  · have := C.above L hL
    rw [q, this] at e; cases e
  · by_cases q : a = L
    · exact q ▸ hx
    · exact (σ.inX a ha).imp fun o e => kk a o q e
  · obtain ⟨v, h1, h2⟩ := hm y e hy hu
    refine ⟨v, h1, ?_⟩
    cases e with
    | undef => trivial
    | val p => exact Rp.mono kX h2
    | own D l =>
      obtain ⟨e', hD, vs, hl', hr⟩ := h2
      exact ⟨e', hD, vs, hl'.at (fun o e => kk D o (ho _ _ _ hy) e), hr.mono kX⟩
theorem St.gens {s : Shared} {g : Array GenState} (σ : St C ρ s) : St C ρ { s with gens := g } := ⟨σ.base, σ.toks, σ.inX, σ.nd, σ.loc, σ.ns⟩
theorem St.ungens {s : Shared} {g : Array GenState} (σ : St C ρ { s with gens := g }) : St C ρ s := ⟨σ.base, σ.toks, σ.inX, σ.nd, σ.loc, σ.ns⟩
theorem St.frames {L : Addr} {hBg : Heap} {s : Shared} (σ : St C ρ s) (hf : C.env.frame = some L) (hloc : C.env.locals = L) (hL : hBg.get? L = none) : s.heap.FunFrames hBg [C.env] := by
  obtain ⟨m, ⟨o, es, ep, ho, hd, _⟩, _⟩ := σ.ns
  rw [hloc] at ho
  have hk : C.env.scope.kind ≠ .module := by rw [C.kind]; decide
  exact ⟨hk, ⟨L, o, hf, hL, ho, fun vs z => by rw [hd] at z; cases z⟩, trivial⟩
theorem sel_stop {P : Params} : mroIn (KG P) 71 (.type "StopIteration") = some false := by kernel_rfl
/-- the loop's turn: the state before n more rows -/
structure LI (C : Cx) (T : List Row) (F : Bool) (t0 : List Nat) (es : EV) (D L Lg ga : Addr) (hBg : Heap) (os0 : OsState) (n : Nat) (s : Shared) : Prop where
  le : n ≤ T.length
  st : ∃ tk, EV.isOwn tk = false ∧ St C (lR es t0 (.own D ((T.take (T.length - n)).map rowT)) false tk) s
  gen : ∃ gs, s.gens = #[gs] ∧ ∀ s'', s''.heap = s.heap → s.toks = s''.toks → gs.Goes C.M C.A.in1 (RR hBg [C.env] [Lg] F) (YY hBg [C.env] [D, L] [Lg] T) n (.send .none) s''
  os : s.os = os0
  base : Heap.le hBg s.heap
end
end Mine
end
section
open PySem PySem.W PyProof.Rows PySem.Calls
set_option Elab.async false
set_option linter.unusedVariables false
set_option maxRecDepth 100000
namespace Mine
section
variable {C : Cx} {T : List Row} {F : Bool} {t0 : List Nat} {es : EV} {D L Lg ga : Addr} {hBg : Heap} {os0 : OsState} {s : Shared} {R : Result → Shared → Prop}
theorem take_next {n : Nat} {row : Row} (hn : n + 1 ≤ T.length) (h : T[T.length - n - 1]? = some row) : T.take (T.length - n) = T.take (T.length - (n + 1)) ++ [row] := by
  rw [show T.length - n = (T.length - (n + 1)) + 1 by omega, List.take_add_one, show T.length - (n + 1) = T.length - n - 1 by omega, h]
  rfl
def argOf : Stmt → Expr
  | .Expr (.Call _ (a :: _) _ _) _ => a
  | _ => .Constant .none 0 ⟨0, 0, 0, 0⟩
def lTell : Expr := argOf ((lFor.2.2[0]?).getD (.Pass ⟨0, 0, 0, 0⟩))
theorem law_for (G : GL C.prog C.w C.hB) (hsc : C.env.scope = (nth 12).scope) (hX : C.X = [Lg, D, L]) (hown : C.own = [D, L]) (hloc : C.env.locals = L) (hf : C.env.frame = some L) (hfr : C.A.frames = some [C.env])
    (hgL : Lg ≠ L) (hgD : Lg ≠ D) (hbL : hBg.get? L = none) (hbD : hBg.get? D = none) (hbG : hBg.get? Lg = none) (hig : hBg.IsGen ga 0) (hKB : Heap.le C.hB hBg) (hlen : T.length ≤ 1001) (hcn : 2 ≤ C.n) (hes : EV.isOwn es = false)
    (hR1 : ∀ s' tk, EV.isOwn tk = false → St C (lR es t0 (.own D (T.map rowT)) false tk) s' → s'.gens = #[.finished] → s'.os = os0 → F = false → R (.ok .next) s')
    (hR2 : ∀ e t s1 s' tk, EV.isOwn tk = false → St C (lR es t0 (.own D (T.map rowT)) false tk) s1 → UpBut [Lg] s1.heap s'.heap → s1.toks ≤ s'.toks → (∃ o, s'.heap.get? Lg = some o ∧ ∀ vs, o.data ≠ .fields vs) → Heap.HeldW hBg [C.env] e (.ref 71) (.ref t) L s'.heap → s'.gens = #[.finished] → s'.os = os0 → F = true → R (.error (.ref e)) s')
    (hI : LI C T F t0 es D L Lg ga hBg os0 T.length s) : codeAny C.M C.A (.forLoop lFor.1 (.ref ga) lFor.2.2 [] C.env) R s := by
  have hint : interactive C.env = false := by show (C.env.scope.kind == .module && _) = false; rw [C.kind]; rfl
  refine codeAny_forLoop (LI C T F t0 es D L Lg ga hBg os0) (fun n s hI => ?_) T.length hI
  obtain ⟨hle, ⟨tk, htk, σ⟩, ⟨gs, hgs, hgo⟩, hos, hbs⟩ := hI
  have hd := C.depth
  have hLgX : Lg ∈ C.X := by rw [hX]; exact .head _
  have hll : Lg ≠ C.env.locals := by rw [hloc]; exact hgL
  have noD : ∀ {told b tk'}, EV.isOwn tk' = false → (∀ D' l, told = EV.own D' l → D' ≠ Lg) → ∀ x D' l, (x, EV.own D' l) ∈ lR es t0 told b tk' → D' ≠ Lg := by
    intro told b tk' h1 h2 x D' l hm
    simp only [lR, List.mem_cons, Prod.mk.injEq, List.not_mem_nil, or_false] at hm
    rcases hm with ⟨_, q⟩ | ⟨_, q⟩ | ⟨_, q⟩ | ⟨_, q⟩ | ⟨_, q⟩
    · rw [← q] at hes; cases hes
    · cases q
    · exact h2 _ _ q.symm
    · cases q
    · rw [← q] at h1; cases h1
  refine pyNext_genE (R := RR hBg [C.env] [Lg] F) (Y := YY hBg [C.env] [D, L] [Lg] T) (n := n) (gs := gs) (g := 0) C.handled (G.B.lim.keeps σ.base) (by omega) (hig.keeps hbs) (by rw [hgs]; rfl) (hgo _ rfl rfl) ?_ ?_
  · intro v s₁ gs' hY
    obtain ⟨row, hrow, hlt, rv, k1, hxg, hk⟩ := hY
    have σ1 : St C (lR es t0 (.own D ((T.take (T.length - n)).map rowT)) false tk) s₁ :=
      (St.gens (g := (s.setGen 0 .running).gens) σ).other hLgX hll k1.heap k1.2 (hxg Lg (.head _)) (noD htk fun D' l q => by cases q; exact hgD.symm)
    have hbs1 : Heap.le hBg s₁.heap := fun b o e => k1.heap b o (fun q => by cases q with | head => rw [hbG] at e; cases e | tail _ h => cases h) (hbs b o e)
    have inDL : ∀ {ρ s''}, St C ρ s'' → ∀ a ∈ [D, L], ∃ o, s''.heap.get? a = some o := fun σ a ha => σ.inX a (by rw [hX]; exact .tail _ ha)
    cases n with
    | zero => exact (hk s₁ ⟨fun b o _ e => e, Nat.le_refl _, inDL σ1⟩ (σ1.frames hf hloc hbL)).elim
    | succ n =>
    have rv' : Rp C.X s₁.heap v (rowPV row) := by rw [hX]; exact rv
    have hos1 : s₁.os = os0 := by obtain ⟨⟨h', t', rfl, _⟩, _⟩ := k1; exact hos
    have hgen1 : s₁.gens = #[.running] := by
      obtain ⟨⟨h', t', rfl, _⟩, _⟩ := k1
      show s.gens.setIfInBounds 0 .running = _
      rw [hgs]; rfl
    have hset : (s₁.setGen 0 gs').gens = #[gs'] := by show s₁.gens.setIfInBounds 0 gs' = _; rw [hgen1]; rfl
    have σ2 : St C (lR es t0 (.own D ((T.take (T.length - (n + 1))).map rowT)) false tk) (s₁.setGen 0 gs') := σ1.gens
    refine wpAny_assign_Name (store_wp (e := .val (rowPV row)) σ2 (.there (.there (.there (.there .here)))) rv' fun s3 σ3 k3 => ?_)
    have htell : Ev C (lR es t0 (.own D ((T.take (T.length - (n + 1))).map rowT)) false (.val (rowPV row))) lTell (rowT row) := by
      have ht : At (lR es t0 (.own D ((T.take (T.length - (n + 1))).map rowT)) false (.val (rowPV row))) "token" (.val (rowPV row)) := .there (.there (.there (.there .here)))
      obtain ⟨k, vo, i⟩ := row
      conv => arg 3; whnf
      cases vo with
      | none => exact Ev.tuple (Evs.cons (Ev.tokType G.k G.B.lim (Ev.name ht) rfl (fun _ _ => rfl) hcn) (Evs.cons (Ev.tokValue G.k G.B.lim (Ev.name ht) rfl (fun _ _ => rfl) hcn (.inl rfl)) (Evs.cons (Ev.tokPos G.k (Ev.name ht) rfl (fun _ _ => rfl)) Evs.nil rfl) rfl) rfl) fit3
      | some v => exact Ev.tuple (Evs.cons (Ev.tokType G.k G.B.lim (Ev.name ht) rfl (fun _ _ => rfl) hcn) (Evs.cons (Ev.tokValue G.k G.B.lim (Ev.name ht) rfl (fun _ _ => rfl) hcn (.inr ⟨_, rfl⟩)) (Evs.cons (Ev.tokPos G.k (Ev.name ht) rfl (fun _ _ => rfl)) Evs.nil rfl) rfl) rfl) fit3
    have htk2 := take_next hle (row := row) hrow
    have ex : Ex C (lR es t0 (.own D ((T.take (T.length - (n + 1))).map rowT)) false (.val (rowPV row))) lFor.2.2 (fun o => o = .next (lR es t0 (.own D ((T.take (T.length - n)).map rowT)) false (.val (rowPV row)))) := by
      conv => arg 3; whnf
      refine Ex.cons (Ex1.append (ρ' := lR es t0 (.own D ((T.take (T.length - n)).map rowT)) false (.val (rowPV row))) (.there (.there .here)) (by rw [hown]; exact .head _) htell ?_ ?_ ?_ (Ex.nil rfl) rfl rfl rfl rfl hint rfl)
      · rw [htk2, List.map_append]; exact .there (.there .here)
      · unfold lR; simp only [List.all_cons, hes]; rfl
      · rw [List.length_map, List.length_take, sizeLine_eq]; omega
    refine wpAny_mono (ex s3 σ3) (fun f s4 q => ?_) no
    obtain ⟨o, rfl, hi, k4⟩ := q
    have fin : f = .next ∧ St C (lR es t0 (.own D ((T.take (T.length - n)).map rowT)) false (.val (rowPV row))) s4 := by
      cases f with
      | next => exact ⟨rfl, hi⟩
      | _ => exact hi.elim
    obtain ⟨rfl, σ4⟩ := fin
    have k34 := k3.trans k4
    have kh : Heap.leBut [D, L] s₁.heap s4.heap := hown ▸ k34.heap
    have kt : s₁.toks ≤ s4.toks := k34.2
    refine ⟨n, Nat.lt_succ_self _, by omega, ⟨_, rfl, σ4⟩, ⟨gs', ?_, fun s'' e1 e2 => hk s'' ⟨by rw [e1]; exact kh, by omega, by rw [e1]; exact inDL σ4⟩ (by rw [e1]; exact σ4.frames hf hloc hbL)⟩, ?_, fun b o e => kh b o (fun q => ?_) (hbs1 b o e)⟩
    · obtain ⟨⟨h', t', rfl, _⟩, _⟩ := k34; exact hset
    · obtain ⟨⟨h', t', rfl, _⟩, _⟩ := k34; exact hos1
    · cases q with
      | head => rw [hbD] at e; cases e
      | tail _ q => cases q with
        | head => rw [hbL] at e; cases e
        | tail _ q => cases q
  · intro x s₁ hR
    obtain ⟨rfl, ⟨h1, t1, rfl⟩, kt, hxg, hx⟩ := hR
    have hT0 : T.take (T.length - 0) = T := by rw [Nat.sub_zero, List.take_length]
    rw [hT0] at σ
    have hgen : ({ s.setGen 0 .running with heap := h1, toks := t1 }.setGen 0 .finished).gens = #[.finished] := by
      show (s.gens.setIfInBounds 0 .running).setIfInBounds 0 .finished = _
      rw [hgs]; rfl
    cases x with
    | ok f =>
      left
      cases f with
      | ret v =>
        cases v with
        | none =>
          obtain ⟨hF, kb⟩ := hx
          refine ⟨rfl, fun h' k' => ?_⟩
          have σ1 : St C (lR es t0 (.own D (T.map rowT)) false tk) { s with heap := h1, toks := t1 } := σ.other hLgX hll kb kt ((hxg Lg (.head _)).imp fun o z => z.1) (noD htk fun D' l q => by cases q; exact hgD.symm)
          have σ2 := σ1.le (s' := { s with heap := h', toks := t1 }) ⟨⟨h', t1, rfl, k'⟩, Nat.le_refl _⟩
          show wpAny _ _ (execs [] C.env) _ _ _
          refine wpAny_execs_nil (hR1 _ tk htk (σ2.gens (g := (s.gens.setIfInBounds 0 .running).setIfInBounds 0 .finished)) hgen hos hF)
        | _ => exact hx.elim
      | _ => exact hx.elim
    | error v =>
      right
      obtain ⟨hF, e, t, rfl, hfl, hu⟩ := hx
      refine ⟨e, rfl, hig.keeps hfl.1, fun M h hh => ?_, ?_⟩
      · rw [hh]
        obtain ⟨ob, hob, hc⟩ := hfl.there
        have X1 : (KG C.w.params).In h1 := KG_in (fun b o e => hfl.1 b o (hKB b o (G.k b o e)))
        exact ((Looks.ld (part := none) hob).andThen (by rw [hc]; exact .now)).andThen (looks_mroIn X1 sel_stop)
      · refine wpAny_looks_onW (L := L) hfr hf hfl fun h2 hheld hu2 => ?_
        refine hR2 e t s _ tk htk σ (fun b o hb eo hnf => ?_) kt ?_ hheld hgen hos hF
        · obtain ⟨sl, hs⟩ := hu b o hb eo hnf
          obtain ⟨sl2, hs2⟩ := hu2 b _ hs hnf
          exact ⟨sl2, hs2⟩
        · obtain ⟨o, ho, hnf⟩ := hxg Lg (.head _)
          obtain ⟨sl, hs⟩ := hu2 Lg o ho hnf
          exact ⟨_, hs, hnf⟩
end
end Mine
end
section
open PySem PySem.W PyProof.Rows PySem.Calls
set_option Elab.async false
set_option linter.unusedVariables false
set_option maxRecDepth 100000
namespace Mine
section
variable {C : Cx} {ρ : Rho}
theorem store_any {A : Around} {x : Str} {v : Value} {e : EV} {ρ' : Rho} {s : Shared} {Q : Unit → Shared → Prop} {E : Value → Shared → Prop} (σ : St C ρ s) (hp : Put ρ x e ρ') (he : e.At C.X s.heap v)
    (h : ∀ s', St C ρ' s' → LeX C.own s s' → (∀ b o, b ≠ C.env.locals → s.heap.get? b = some o → s'.heap.get? b = some o) → Q () s') : wpAny C.M A (storeName C.env x v) Q E s := by
  obtain ⟨m, hn, hm⟩ := σ.ns
  have hLX : C.env.locals ∈ C.X := C.sub _ C.here
  refine wpAny_storeName_local (σ.loc x hp.mem_names).1 hn (fun h' hn' hs => h _ ?_ ⟨⟨h', _, rfl, fun b o hb e => hs.extBut b o (fun q => hb (q ▸ C.here)) e⟩, Nat.le_succ _⟩ fun b o hb e => hs.extBut b o hb e) C.plainEnv
  have keep : ∀ b o, b ≠ C.env.locals → s.heap.get? b = some o → h'.get? b = some o := fun b o hb e => hs.extBut b o hb e
  have keepX : ∀ b o, b ∉ C.X → s.heap.get? b = some o → h'.get? b = some o := fun b o hb e => keep b o (fun q => hb (q ▸ hLX)) e
  have at' : ∀ (e : EV) (u : Value), e.At C.X s.heap u → e.At C.X h' u := by
    intro e u a
    cases e with
    | undef => trivial
    | val p => exact Rp.mono keepX a
    | own D l =>
      obtain ⟨e1, hD, vs, hl, hr⟩ := a
      refine ⟨e1, hD, vs, hl.at fun o ho => keep D o ?_ ho, hr.mono keepX⟩
      intro q
      obtain ⟨n, ho1⟩ := hl
      obtain ⟨o2, es, ep, ho2, hd2, _⟩ := hn
      rw [q, ho2] at ho1
      cases ho1
      cases hd2
  refine ⟨fun b o e => keep b o (fun q => ?_) (σ.base b o e), Nat.le_succ_of_le σ.toks, fun a ha => ?_, hp.names ▸ σ.nd, hp.names ▸ σ.loc, _, hn', fun y d hy hu => ?_⟩
  · have h1 := C.above _ hLX
    subst q
    rw [h1] at e
    cases e
  · by_cases q : a = C.env.locals
    · subst q
      obtain ⟨o, es, ep, ho, _⟩ := hn'
      exact ⟨o, ho⟩
    · exact (σ.inX a ha).imp fun o e => keep a o q e
  · rcases hp.old σ.nd y d hy with ⟨rfl, rfl⟩ | ⟨hne, hmem⟩
    · exact ⟨v, by simp, at' _ _ he⟩
    · obtain ⟨u, hu', ha⟩ := hm y d hmem hu
      exact ⟨u, by simp [hne, hu'], at' _ _ ha⟩


theorem leaf_up {X X' : List Addr} {h h' : Heap} {v : Value} {p : PV} (hv : Rp X h v p) (hl : leafP p = true) : Rp X' h' v p := by
  cases p with
  | none => cases hv; exact .none
  | bool b => cases hv; exact .bool _
  | int i => cases hv; exact .int _ _
  | str l => cases hv; exact .str _ _
  | _ => cases hl
theorem leafs_up {X X' : List Addr} {h h' : Heap} : ∀ {vs : List Value} {l : List PV}, Rps X h vs l → (∀ p ∈ l, leafP p = true) → Rps X' h' vs l
  | _, _, .nil, _ => .nil
  | _, _, .cons a b, hl => .cons (leaf_up a (hl _ (.head _))) (leafs_up b fun p hp => hl p (.tail _ hp))
theorem row_up {X X' : List Addr} {own : List Addr} {h h' : Heap} {v : Value} {r : Row} (hv : Rp X h v (rowT r)) (u : UpBut own h h') (ho : ∀ a ∈ own, a ∈ X) (hX : ∀ a ∈ X', a ∈ X) : Rp X' h' v (rowT r) := by
  have tup : ∀ l, (∀ p ∈ l, leafP p = true) → Rp X h v (.tup l) → Rp X' h' v (.tup l) := by
    intro l hl hv
    cases hv with
    | tup a vs _ ha ht hr =>
      obtain ⟨o, hob, hc, n, hd⟩ := ht
      obtain ⟨sl, hs⟩ := u a o (fun q => ha (ho _ q)) hob (fun ws q => by rw [hd] at q; cases q)
      refine .tup a vs l (fun q => ha (hX _ q)) ⟨_, hs, hc, n, hd⟩ (leafs_up hr hl)
  obtain ⟨k, _ | v', i⟩ := r
  · exact tup _ (fun p hp => by
      simp only [List.mem_cons, List.not_mem_nil, or_false] at hp
      rcases hp with rfl | rfl | rfl <;> rfl) hv
  · exact tup _ (fun p hp => by
      simp only [List.mem_cons, List.not_mem_nil, or_false] at hp
      rcases hp with rfl | rfl | rfl <;> rfl) hv
theorem rows_up {X X' : List Addr} {own : List Addr} {h h' : Heap} (u : UpBut own h h') (ho : ∀ a ∈ own, a ∈ X) (hX : ∀ a ∈ X', a ∈ X) : ∀ {T : List Row} {vs : List Value}, Rps X h vs (T.map rowT) → Rps X' h' vs (T.map rowT)
  | [], _, .nil => .nil
  | _ :: _, _, .cons a b => .cons (row_up a u ho hX) (rows_up u ho hX b)
/-- the activation lands: what is told is a list -/
theorem St.land {C' : Cx} {Lg D L : Addr} {T : List Row} {t0 : List Nat} {es tk : EV} {b : Bool} {s s' : Shared} (σ : St C (lR es t0 (.own D (T.map rowT)) b tk) s) (hX : C.X = [Lg, D, L]) (hX' : C'.X = [Lg, L]) (hD : D ≠ Lg) (hDL : D ≠ L) (hLL : L ≠ Lg)
    (hB : Heap.le C'.hB s'.heap) (he : C'.env = C.env) (hloc : C.env.locals = L) (u : UpBut [Lg] s.heap s'.heap) (kt : s.toks ≤ s'.toks) (hx : ∃ o, s'.heap.get? Lg = some o) :
    St C' (lR .undef t0 (.val (.lst (T.map rowT))) b .undef) s' := by
  obtain ⟨m, ⟨oL, esL, epL, hoL, hdL, hr⟩, hm⟩ := σ.ns
  have hLm : ∀ a, a ≠ Lg → a ∉ [Lg] := fun a h q => h (by cases q with | head => rfl | tail _ h => cases h)
  obtain ⟨sl, hsl⟩ := u C.env.locals oL (hLm _ (by rw [hloc]; exact hLL)) hoL (fun vs q => by rw [hdL] at q; cases q)
  refine ⟨hB, Nat.le_trans σ.toks kt, fun a ha => ?_, σ.nd, fun x hx' => by rw [he]; exact σ.loc x hx', m, ⟨{ oL with slots := sl }, esL, epL, by rw [he]; exact hsl, hdL, hr⟩, fun y e hy hu => ?_⟩
  · rw [hX'] at ha
    cases ha with
    | head => exact hx
    | tail _ h => cases h with
      | head => exact ⟨_, hloc ▸ hsl⟩
      | tail _ h => cases h
  · simp only [lR, List.mem_cons, Prod.mk.injEq, List.not_mem_nil, or_false] at hy
    rcases hy with ⟨rfl, rfl⟩ | ⟨rfl, rfl⟩ | ⟨rfl, rfl⟩ | ⟨rfl, rfl⟩ | ⟨rfl, rfl⟩
    · exact absurd rfl hu
    · obtain ⟨v, h1, h2⟩ := hm "text" (.val (.str t0)) (.tail _ (.head _)) (by simp)
      have h2 : Rp C.X s.heap v (.str t0) := h2
      cases h2
      exact ⟨_, h1, Rp.str _ _⟩
    · obtain ⟨v, h1, h2⟩ := hm "told" (.own D (T.map rowT)) (.tail _ (.tail _ (.head _))) (by simp)
      obtain ⟨rfl, hDX, vs, ⟨n, ho⟩, hrs⟩ := h2
      obtain ⟨sl2, hs2⟩ := u D _ (hLm _ hD) ho (fun vs q => by cases q)
      refine ⟨_, h1, ?_⟩
      show Rp C'.X s'.heap (.ref D) (.lst (T.map rowT))
      have hn : D ∉ C'.X := by
        rw [hX']
        intro q
        cases q with
        | head => exact hD rfl
        | tail _ q => cases q with
          | head => exact hDL rfl
          | tail _ q => cases q
      refine .lst D vs _ hn ⟨_, hs2, rfl, n, rfl⟩ (rows_up u (fun a ha => ?_) (fun a ha => ?_) hrs)
      · rw [hX]; cases ha with
        | head => exact .head _
        | tail _ h => cases h
      · rw [hX'] at ha; rw [hX]
        cases ha with
        | head => exact .head _
        | tail _ h => cases h with
          | head => exact .tail _ (.tail _ (.head _))
          | tail _ h => cases h
    · obtain ⟨v, h1, h2⟩ := hm "refused" (.val (.bool b)) (.tail _ (.tail _ (.tail _ (.head _)))) (by simp)
      have h2 : Rp C.X s.heap v (.bool b) := h2
      cases h2
      exact ⟨_, h1, Rp.bool _⟩
    · exact absurd rfl hu
end
end Mine
end
section
open PySem PySem.W PyProof.Rows PySem.Calls
set_option Elab.async false
set_option linter.unusedVariables false
set_option maxRecDepth 100000
namespace Mine
section
variable {C C' : Cx} {T : List Row} {t0 : List Nat} {es tk : EV} {D L Lg e : Addr} {hBg : Heap} {s1 s' : Shared} {a0 : Value}
theorem caught {Q : Flow → Shared → Prop} {E : Value → Shared → Prop} (G : GL C'.prog C'.w C'.hB) (hsc : C.env.scope = (nth 12).scope) (he : C'.env = C.env) (hp : C'.prog = C.prog) (hw : C'.w = C.w) (hKB : Heap.le C'.hB hBg)
    (hX : C.X = [Lg, D, L]) (hX' : C'.X = [Lg, L]) (hD : D ≠ Lg) (hDL : D ≠ L) (hLL : L ≠ Lg) (hloc : C.env.locals = L) (hf : C.env.frame = some L)
    (σ : St C (lR es t0 (.own D (T.map rowT)) false tk) s1) (u : UpBut [Lg] s1.heap s'.heap) (kt : s1.toks ≤ s'.toks) (hx : ∃ o, s'.heap.get? Lg = some o ∧ ∀ vs, o.data ≠ .fields vs) (hh : Heap.HeldW hBg [C.env] e (.ref 71) a0 L s'.heap)
    (hQ : ∀ s'', St C' (lR .undef t0 (.val (.lst (T.map rowT))) true .undef) s'' → s''.gens = s'.gens → s''.os = s'.os → Q .next s'') :
    cameBackBy C.M C.A C.env (fun e s₁ => wpAny C.M C.A (noteFrame e C.env) (fun _ s₂ => wpAny C.M C.A (setFlight e none) (fun _ s₃ => wpAny C.M C.A (handleBy e C.env lTry.2) Q E s₃) E s₂) E s₁) (.ref e) s' := by
  unfold cameBackBy
  rw [hf]
  refine setFlight_heldW hh fun h2 hh2 u2 => ?_
  refine wpAny_noteFrame_againW (s := { s' with heap := h2 }) hf hh2.2.2.2 ?_
  refine wpAny_landsW (s := { s' with heap := h2 }) hh2 fun h3 hfl u3 => ?_
  conv => arg 3; arg 3; whnf
  have hhB : Heap.le C'.hB h3 := fun b o e => hfl.1 b o (hKB b o e)
  obtain ⟨bm, N, nm, qn, bs, hdct, sn, sub, ab, col, dd, k0, k1, k2, k3, k5, mN, hC, hN, hni, TL⟩ := sel_parts (KG_in (G.k.trans hhB)) sel_in
  obtain ⟨ob, hob, hoc⟩ := hfl.there
  have kx : C.env.kindOf "SelectorSyntaxError" = some .globalImplicit := kindG hsc (by decide +kernel)
  have go : ∀ (A : Around) (E' : Value → Shared → Prop) (R : Value → Shared → Prop), R (.ref 71) { s' with heap := h3 } → wpAny C.M A (loadGlobal C.env "SelectorSyntaxError") R E' { s' with heap := h3 } := by
    intro A E' R hR
    rcases G.gS with ⟨mg, q1, q2⟩ | ⟨mg, mb, q1, q2, q3, q4⟩
    · exact loadGlobal_global (C.glob ▸ q1.keeps hhB) q2 hR
    · exact loadGlobal_builtin (C.glob ▸ q1.keeps hhB) q2 (C.blt ▸ q3.keeps hhB) q4 hR
  refine wpAny_handleBy_cons (codeAny_handlers_test (Name_function_global C.kind kx (go _ _ _ ?_) (by decide +kernel))) (by intro q; cases q)
  obtain ⟨hp', gn, dr, tk', os'⟩ := s'
  refine wpAny_excMatches_sub_self hC hob hoc (TL.hasType (by decide +kernel)) ?_
  refine codeAny_handlers_suite ?_
  refine lands_againW (s := ⟨h3, gn, dr, tk', os'⟩) hfl fun h4 hfl4 u4 => ?_
  have U : UpBut [Lg] s1.heap h4 := fun b o hb eo hnf => by
    obtain ⟨sl, hs⟩ := u b o hb eo hnf
    obtain ⟨sl2, hs2⟩ := ((u2.trans u3).trans u4) b _ hs hnf
    exact ⟨sl2, hs2⟩
  have hx4 : ∃ o, h4.get? Lg = some o := by
    obtain ⟨o, ho, hnf⟩ := hx
    obtain ⟨sl2, hs2⟩ := ((u2.trans u3).trans u4) Lg o ho hnf
    exact ⟨_, hs2⟩
  have σ4 : St C' (lR .undef t0 (.val (.lst (T.map rowT))) false .undef) ⟨h4, gn, dr, tk', os'⟩ :=
    σ.land hX hX' hD hDL hLL (fun b o e => hfl4.1 b o (hKB b o e)) he hloc U kt hx4
  have hM : model C.prog C.w = C'.M := by unfold Cx.M; rw [hp, hw]
  rw [← he]
  refine wpAny_execs_cons (wpAny_Assign_Name (wpAny_Constant_bool ?_) rfl)
  rw [hM]
  refine store_any (e := .val (.bool true)) σ4 (.there (.there (.there .here))) (Rp.bool true) ?_
  intro s5 σ5 k5 _
  refine wpAny_execs_nil ?_
  obtain ⟨⟨h5, t5, rfl, _⟩, _⟩ := k5
  exact hQ _ σ5 rfl rfl
end
end Mine
end
section
open PySem PySem.W PyProof.Rows PySem.Calls
set_option Elab.async false
set_option linter.unusedVariables false
set_option maxRecDepth 100000
namespace Mine
def Cx.low (C : Cx) (h : Heap) (ha : ∀ a ∈ C.X, h.get? a = none) : Cx := { C with hB := h, above := ha }
/-- the activation of the generator -/
def genCx (C : Cx) (scope : Scope) (Lg a : Addr) (cd : Value) (body : List Stmt) (hk : scope.kind = .function) (hL : C.hB.get? Lg = none) (h1 : C.A.in1.handled = none) (h2 : C.A.depth + 4 < recursionLimit) (h3 : C.A.units + 1 + 3 + 300 + 100 < cLine) : Cx where
  prog := C.prog
  w := C.w
  hB := C.hB
  A := C.A.in1.over (.func body (envOf "tokenize" scope Lg a cd)) []
  env := envOf "tokenize" scope Lg a cd
  X := Lg :: C.X
  own := [Lg]
  n := 3
  kind := hk
  glob := rfl
  blt := rfl
  here := .head _
  sub := fun b hb => by cases hb with | head => exact .head _ | tail _ h => cases h
  above := fun b hb => by cases hb with | head => exact hL | tail _ h => exact C.above b h
  handled := by
    show (marksOver [] (C.A.in1.handled, C.A.in1.handled)).1 = none
    rw [h1]; rfl
  depth := by rw [over_func_depth]; show C.A.depth + 1 + 3 < _; omega
  units := by rw [over_func_units]; show C.A.units + 1 + 3 + 100 * 3 + 100 < _; omega
section
variable {C : Cx} {ρ : Rho}
theorem St.shut {Lg : Addr} {s s' : Shared} (σ : St C ρ s) (hL : s.heap.get? Lg = none) (hB : C.hB.get? Lg = none) (k : Heap.le s.heap s'.heap) (kt : s.toks ≤ s'.toks) (hx : ∃ o, s'.heap.get? Lg = some o) : St (C.hide Lg hB) ρ s' := by
  obtain ⟨m, hn, hm⟩ := σ.ns
  have mo : ∀ a ∈ Lg :: C.X, a ∈ C.X ∨ s.heap.get? a = none := fun a ha => by cases ha with | head => exact .inr hL | tail _ h => exact .inl h
  refine ⟨σ.base.trans k, Nat.le_trans σ.toks kt, fun a ha => ?_, σ.nd, σ.loc, m, hn.keeps k, fun y e hy hu => ?_⟩
  · cases ha with
    | head => exact hx
    | tail _ h => exact (σ.inX a h).imp fun o e => k a o e
  · obtain ⟨v, h1, h2⟩ := hm y e hy hu
    refine ⟨v, h1, ?_⟩
    cases e with
    | undef => trivial
    | val p => exact (Rp.more (X' := Lg :: C.X) mo h2).mono fun b o _ e => k b o e
    | own D l =>
      obtain ⟨e', hD, vs, hl, hr⟩ := h2
      exact ⟨e', .tail _ hD, vs, hl.at (fun o e => k D o e), (hr.more (X' := Lg :: C.X) mo).mono fun b o _ e => k b o e⟩
end
section
variable {C : Cx} {T : List Row} {F : Bool} {t0 t : List Nat} {D L : Addr} {s : Shared} {es : EV}
theorem gen_loc : ∀ x ∈ (["s"] : List Str) ++ (["pos", "len_s", "match", "value", "quote", "end_pos", "pos2"] : List Str), (nth 5).scope.names.lookup x = some NameKind.local ∧ (x == ("__debug__" : Str)) = false := by decide +kernel
/-- the generator stands, none of its rows is told -/
theorem gen_ready (G : GL C.prog C.w C.hB) (hsc : C.env.scope = (nth 12).scope) (hX : C.X = [D, L]) (hown : C.own = [D, L]) (hloc : C.env.locals = L) (hf : C.env.frame = some L) (hfr : C.A.frames = some [C.env]) (hcn : 4 ≤ C.n)
    (ht0 : t0.length < 1000) (htt : (Txt.replace (S t0) (S [0]) (S [65533])).cps.toList = t) (ht : t.length < 1000) (hT : ∀ c ∈ t, c ∈ alpha) (e : tok t t.length [] 0 = (T, F))
    {a : Addr} {cd : Value} {h₁ : Heap} {n1 n2 : Value} {tk : Nat} {v : Value} (σ : St C (lR es t0 (.own D []) false .undef) s) (hg : s.gens = #[]) (hv : Rp C.X s.heap v (.str t0))
    (Fh : Fr s.heap s.heap.objs.size h₁ (fun x => ([("s", v)] : List (Str × Value)).reverse.lookup x)) (htk : s.toks ≤ tk) :
    let s3 : Shared := { s with gens := s.gens.push (.fresh (.func (nth 5).body (envOf "tokenize" (nth 5).scope s.heap.objs.size a cd))), toks := tk, heap := h₁.push { cls := .type "generator", data := .fields #[.int s.gens.size 0, n1, n2] } }
    ∃ (hLg : C.hB.get? s.heap.objs.size = none) (hBg : Heap), LI (C.hide s.heap.objs.size hLg) T F t0 es D L s.heap.objs.size h₁.objs.size hBg s.os T.length s3 ∧ hBg.get? L = none ∧ hBg.get? D = none ∧ hBg.get? s.heap.objs.size = none ∧ hBg.IsGen h₁.objs.size 0 ∧ Heap.le C.hB hBg := by
  intro s3
  have hnone := get_size s.heap
  have hLg : C.hB.get? s.heap.objs.size = none := none_below σ.base hnone
  have kh : Heap.le s.heap s3.heap := fun b o e => Heap.get?_push_of_some _ (Fh.keep b o e)
  have hLgo : ∃ o es ep, h₁.get? s.heap.objs.size = some o ∧ o.data = .dict es ep := by
    obtain ⟨o, es, ep, ho, hd, _⟩ := Fh.ns
    exact ⟨o, es, ep, ho, hd⟩
  have hx : ∃ o, s3.heap.get? s.heap.objs.size = some o := by
    obtain ⟨o, _, _, ho, _⟩ := hLgo
    exact ⟨o, Heap.get?_push_of_some _ ho⟩
  have hL1 : ∀ b, (∃ o, s.heap.get? b = some o) → b ≠ s.heap.objs.size := fun b ⟨o, ho⟩ q => by rw [q, hnone] at ho; cases ho
  have hDL : ∀ b ∈ C.X, ∃ o, s.heap.get? b = some o := σ.inX
  have hga : ∀ b, (∃ o, h₁.get? b = some o) → b ≠ h₁.objs.size := fun b ⟨o, ho⟩ q => by rw [q, get_size h₁] at ho; cases ho
  have hgaX : h₁.objs.size ∉ [s.heap.objs.size, D, L] := by
    intro q
    rcases List.mem_cons.mp q with q | h
    · exact hga _ ⟨_, hLgo.choose_spec.choose_spec.choose_spec.1⟩ q.symm
    · rw [← hX] at h
      obtain ⟨o, ho⟩ := hDL _ h
      exact hga _ ⟨o, Fh.keep _ o ho⟩ rfl
  have hgo : s3.heap.get? h₁.objs.size = some { cls := .type "generator", data := .fields #[.int s.gens.size 0, n1, n2] } := Heap.get?_push_size _ rfl
  refine ⟨hLg, hideAll s3.heap [s.heap.objs.size, D, L], ⟨Nat.le_refl _, ⟨.undef, rfl, ?_⟩, ⟨.fresh (.func (nth 5).body (envOf "tokenize" (nth 5).scope s.heap.objs.size a cd)), by show s.gens.push _ = _; rw [hg]; rfl, fun s'' e1 e2 => ⟨rfl, ?_⟩⟩, rfl, fun b o e => of_hideAll _ e⟩,
    hideAll_none _ (.tail _ (.tail _ (.head _))), hideAll_none _ (.tail _ (.head _)), hideAll_none _ (.head _), ⟨_, n1, n2, hideAll_get _ hgo hgaX, rfl, by rw [hg]; rfl, rfl⟩, fun b o e => hideAll_get _ (kh b o (σ.base b o e)) (fun q => ?_)⟩
  · rw [Nat.sub_self]
    exact σ.shut hnone hLg kh htk hx
  · obtain ⟨hh, gg, dd, tt, oo⟩ := s''
    dsimp only at e1 e2
    subst e1 e2
    have hd := C.depth
    have hu := C.units
    have hk : Heap.le C.hB (hideAll s3.heap [s.heap.objs.size, D, L]) := fun b o e => hideAll_get _ (kh b o (σ.base b o e)) (fun q => by
      rcases List.mem_cons.mp q with q | q
      · rw [q, hLg] at e; cases e
      · rw [← hX] at q; rw [C.above _ q] at e; cases e)
    let Cg0 := genCx C (nth 5).scope s.heap.objs.size a cd (nth 5).body rfl hLg C.handled (by omega) (by omega)
    let Cg := Cg0.low (hideAll s3.heap [s.heap.objs.size, D, L]) (fun b hb => hideAll_none _ (by rw [← hX]; exact hb))
    have σ0 : St Cg0 (Rho0 ["s"] [.str t0] ["pos", "len_s", "match", "value", "quote", "end_pos", "pos2"]) { s with heap := h₁, toks := tk } :=
      St.start (C := Cg0) (X := C.X) rfl σ.base (Nat.le_trans σ.toks htk) σ.inX (.cons hv .nil) rfl (by decide +kernel) gen_loc Fh rfl
    have σ1 := σ0.le (s' := { s with heap := s3.heap, toks := tk }) ⟨⟨_, tk, rfl, fun b o e => Heap.get?_push_of_some _ e⟩, Nat.le_refl _⟩
    have σg : St Cg (Rho0 ["s"] [.str t0] ["pos", "len_s", "match", "value", "quote", "end_pos", "pos2"]) ⟨s3.heap, gg, dd, s3.toks, oo⟩ :=
      ⟨fun b o e => of_hideAll _ e, σ1.toks, σ1.inX, σ1.nd, σ1.loc, σ1.ns⟩
    have ff : s3.heap.FunFrames (hideAll s3.heap [s.heap.objs.size, D, L]) [C.env] := (σ.shut (s' := s3) hnone hLg kh htk hx).frames hf hloc (hideAll_none _ (.tail _ (.tail _ (.head _))))
    have hne : s.heap.objs.size ∉ [D, L] := fun q => hL1 _ (σ.inX _ (by rw [hX]; exact q)) rfl
    have Gk := G.keep hk
    exact tokenize_seg (C := Cg) (A0 := C.A.in1) (outer := [C.env]) (L := s.heap.objs.size) (X := [D, L]) ⟨Gk.B, Gk.k, rfl, Nat.le_refl _, Gk.bt, Gk.gT, Gk.gE, Gk.gS, Gk.gQ, Gk.q1, Gk.q2⟩ rfl C.handled (by show C.A.depth + 1 + 3 < _; omega) (by show C.A.units + 1 + 3 + 100 * 3 + 100 < _; omega)
      (by show s.heap.objs.size :: C.X = _; rw [hX]) rfl hne rfl hfr rfl (fun env he => by
        obtain rfl : env = C.env := by cases he with | head => rfl | tail _ h => cases h
        rw [hf]
        intro q
        exact hne (by cases q; exact .tail _ (.head _))) ht0 htt ht hT e (s₀ := ⟨s3.heap, gg, dd, s3.toks, oo⟩) ff _ σg ⟨⟨_, _, rfl, fun b o _ e => e⟩, Nat.le_refl _⟩
  · rcases List.mem_cons.mp q with q | q
    · rw [q, hLg] at e; cases e
    · rw [← hX] at q; rw [C.above _ q] at e; cases e
end
end Mine
end
section
open PySem PySem.W PyProof.Rows PySem.Calls
set_option Elab.async false
set_option linter.unusedVariables false
set_option maxRecDepth 100000
namespace Mine
def Cx.re (C : Cx) (X own : List Addr) (h1 : C.env.locals ∈ own) (h2 : ∀ a ∈ own, a ∈ X) (h3 : ∀ a ∈ X, C.hB.get? a = none) : Cx := { C with X := X, own := own, here := h1, sub := h2, above := h3 }
theorem rowT_is : rowT = pvRow := by funext r; obtain ⟨k, _ | v, i⟩ := r <;> rfl
theorem tok_len (t : List Nat) : ∀ m rows p, (tok t m rows p).1.length ≤ rows.length + m + 1 := by
  intro m
  induction m with
  | zero => intro rows p; rw [tok, List.length_append]; exact Nat.le_refl _
  | succ m ih =>
    intro rows p
    rw [tok]
    split
    · split
      · rename_i k v e _
        have := ih (rows ++ [(k, some v, p)]) e
        rw [List.length_append, List.length_singleton] at this
        omega
      · rename_i e _
        have := ih rows e; omega
      · show rows.length ≤ _; omega
    · rw [List.length_append, List.length_singleton]; omega
section
variable {C : Cx} {T : List Row} {F : Bool} {t0 t : List Nat} {D L : Addr} {s : Shared} {es : EV}
/-- return (told, refused) == _law_read(text) -/
theorem law_ret {Q : Flow → Shared → Prop} {e1 e5 : EV} (B : Base C.prog C.w C.hB) (hsc : C.env.scope = (nth 12).scope) (hcn : 3 ≤ C.n) (ht0 : t0.length < 500) (htt : (Txt.replace (S t0) (S [0]) (S [65533])).cps.toList = t) (ht : t.length < 1000)
    (hr : read t t.length [] 0 = (T, F)) (σ : St C (lR e1 t0 (.val (.lst (T.map rowT))) F e5) s) (hQ : ∀ s', Le s s' → Q (.ret (.bool true)) s') :
    wpAny C.M C.A (execs ((nth 12).body.drop 3) C.env) Q (fun _ _ => False) s := by
  have kr : C.env.kindOf "_law_read" = some .globalImplicit := kindG hsc (by decide +kernel)
  have R := reads B t0 t ht0 ht htt
  rw [hr, ← rowT_is] at R
  conv => arg 3; arg 1; whnf
  refine wpAny_execs_cons (wpAny_Return_some (wpAny_Compare1 (wpAny_mono (Ev.tuple (Evs.cons (Ev.name (.there (.there .here))) (Evs.cons (Ev.name (.there (.there (.there .here)))) Evs.nil rfl) rfl) fit2 s σ) (fun v s1 q1 => ?_) no) rfl))
  refine wpAny_mono (Ev.can R (Evs.cons (Ev.name (.there .here)) Evs.nil rfl) hcn kr rfl rfl s1 (σ.le q1.2)) (fun u s2 q2 => ?_) no
  have := C.units
  exact eq_pair (q1.1.le0 q2.2.1) q2.1 (by omega) (hQ s2 (q1.2.trans q2.2))
theorem tok_par : ∀ y ∈ (nth 5).params.args.map (·.arg), (nth 5).scope.names.lookup y = some NameKind.local := by decide +kernel
theorem law_rest (G : GL C.prog C.w C.hB) (hsc : C.env.scope = (nth 12).scope) (hX : C.X = [D, L]) (hown : C.own = [D, L]) (hDL : D ≠ L) (hloc : C.env.locals = L) (hf : C.env.frame = some L) (hfr : C.A.frames = some [C.env]) (hcn : 4 ≤ C.n) (hes : EV.isOwn es = false)
    (ht0 : t0.length < 500) (htt : (Txt.replace (S t0) (S [0]) (S [65533])).cps.toList = t) (ht : t.length < 1000) (hT : ∀ c ∈ t, c ∈ alpha) (e : tok t t.length [] 0 = (T, F)) (hr : read t t.length [] 0 = (T, F))
    (σ : St C (lR es t0 (.own D []) false .undef) s) (hg : s.gens = #[]) :
    wpAny C.M C.A (execs ((nth 12).body.drop 2) C.env) (fun f s' => f = .ret (.bool true) ∧ Heap.le C.hB s'.heap ∧ s'.gens = #[.finished] ∧ s'.os = s.os) (fun _ _ => False) s := by
  have hlen : T.length ≤ 1001 := by
    have := tok_len t t.length [] 0
    rw [e] at this
    simp only [List.length_nil] at this
    omega
  obtain ⟨a, ga, o, pm, cd, doc, ho, hdat, hcd⟩ := G.B.fn 5 (by omega)
  have kt : C.env.kindOf "tokenize" = some .globalImplicit := kindG hsc (by decide +kernel)
  have gt : GlobIs C.hB "tokenize" (.ref a) := ga
  have hd := C.depth
  conv => arg 3; arg 1; whnf
  refine wpAny_execs_cons (wpAny_Try_except (wpAny_execs_cons (wpAny_For (wpAny_Call_NameR (wpAny_mono (Ev.glob gt kt rfl s σ) (fun f s1 q1 => ?_) no)))))
  obtain ⟨r1, k1⟩ := q1
  cases r1
  have σ1 := σ.le k1
  refine PyProof.Rows.callWith_def hdat (wpAny_mono (Evs.cons (Ev.name (.there .here)) Evs.nil rfl s1 _ σ1) (fun vs s2 q2 => ?_) no) rfl
  obtain ⟨r2, k2⟩ := q2
  have σ2 := σ1.le k2
  refine ⟨σ2.base _ _ ho, ?_⟩
  have k12 := k1.trans k2
  have hg2 : s2.gens = #[] := by obtain ⟨⟨h', t', rfl, _⟩, _⟩ := k12; exact hg
  have hos2 : s2.os = s.os := by obtain ⟨⟨h', t', rfl, _⟩, _⟩ := k12; rfl
  obtain ⟨v, us, rfl, rv, ru⟩ : ∃ v us, vs = v :: us ∧ Rp C.X s2.heap v (.str t0) ∧ Rps C.X s2.heap us [] := by cases r2 with | cons a b => exact ⟨_, _, rfl, a, b⟩
  cases ru
  refine wpAny_call (call_gen (by omega) (σ2.base _ _ ho) hdat (G.B.lim.keeps σ2.base) (hcd.keeps σ2.base) rfl (fun x hx => tok_par _ (List.of_mem_zip hx).1) (fun h₁ n1 n2 tk Fh htk => ?_) rfl rfl rfl (by decide +kernel))
  obtain ⟨hLg, hBg, I, hbL, hbD, hbG, hig, hKB⟩ := gen_ready G hsc hX hown hloc hf hfr hcn (by omega) htt ht hT e (n1 := n1) (n2 := n2) (a := a) (cd := cd) σ2 hg2 rv Fh htk
  have hnone := get_size s2.heap
  have hgL : s2.heap.objs.size ≠ L := fun q => by
    obtain ⟨o, ho⟩ := σ2.inX L (by rw [hX]; exact .tail _ (.head _))
    rw [← q, hnone] at ho; cases ho
  have hgD : s2.heap.objs.size ≠ D := fun q => by
    obtain ⟨o, ho⟩ := σ2.inX D (by rw [hX]; exact .head _)
    rw [← q, hnone] at ho; cases ho
  have hLX : L ∈ C.X := by rw [hX]; exact .tail _ (.head _)
  let C3 := C.re [s2.heap.objs.size, L] [L] (by rw [hloc]; exact .head _) (fun a ha => by cases ha with | head => exact .tail _ (.head _) | tail _ h => cases h)
    (fun a ha => by cases ha with | head => exact hLg | tail _ h => cases h with | head => exact C.above _ hLX | tail _ h => cases h)
  have done : ∀ b s'', b = F → St C3 (lR .undef t0 (.val (.lst (T.map rowT))) b .undef) s'' → s''.gens = #[.finished] → s''.os = s.os →
      wpAny C.M C.A (execs ((nth 12).body.drop 3) C.env) (fun f s' => f = .ret (.bool true) ∧ Heap.le C.hB s'.heap ∧ s'.gens = #[.finished] ∧ s'.os = s.os) (fun _ _ => False) s'' := by
    rintro b s'' rfl σ3 g3 o3
    refine law_ret (C := C3) G.B hsc (by show 3 ≤ C.n; omega) ht0 htt ht hr σ3 fun s4 k4 => ?_
    refine ⟨rfl, σ3.base.trans k4.heap, ?_, ?_⟩
    · obtain ⟨⟨h', t', rfl, _⟩, _⟩ := k4; exact g3
    · obtain ⟨⟨h', t', rfl, _⟩, _⟩ := k4; exact o3
  refine wpAny_pyIter_gen (hig.keeps I.base) ?_
  refine law_for (C := C.hide s2.heap.objs.size hLg) G hsc (by show _ :: C.X = _; rw [hX]) hown hloc hf hfr hgL hgD hbL hbD hbG hig hKB hlen (by show 2 ≤ C.n; omega) hes (fun s' tk _ σ' g' o' hF => ?_) (fun e' t' s1' s' tk _ σ' hu kt' hx' hh g' o' hF => ?_) I
  · refine wpAny_execs_nil (wpAny_execs_nil ?_)
    refine done false s' hF.symm (σ'.land (C' := C3) (by show _ :: C.X = _; rw [hX]) rfl hgD.symm hDL hgL.symm σ'.base rfl hloc (fun b o _ e _ => ⟨o.slots, e⟩) (Nat.le_refl _) (σ'.inX _ (.head _))) g' (o'.trans hos2)
  · refine caught (C := C.hide s2.heap.objs.size hLg) (C' := C3) G hsc rfl rfl rfl hKB (by show _ :: C.X = _; rw [hX]) rfl hgD.symm hDL hgL.symm hloc hf σ' hu kt' hx' hh fun s'' σ'' g'' o'' => ?_
    exact done true s'' hF.symm σ'' (g''.trans g') (o''.trans (o'.trans hos2))
end
end Mine
end
section
open PySem PySem.W PyProof.Rows PySem.Calls
set_option Elab.async false
set_option linter.unusedVariables false
set_option maxRecDepth 100000
namespace Mine
section
variable {C : Cx} {ρ : Rho}
theorem own_step {x y : Str} {xp yp tp vp lp pos : Pos} {k kv : Nat} {e : Expr} {q : PV} {ρ' : Rho} {ρ'' : Addr → Rho} {rest : List Stmt} {Q : Flow → Shared → Prop} {s : Shared} (σ : St C ρ s)
    (he : ∀ D hD, Ev (C.with D hD) ρ e q) (hy : Put ρ y (.val q) ρ') (hx : ∀ D, Put ρ' x (.own D []) (ρ'' D))
    (h : ∀ D hD s', s.heap.get? D = none → St (C.with D hD) (ρ'' D) s' → s'.gens = s.gens → s'.os = s.os → wpAny C.M C.A (execs rest C.env) Q (fun _ _ => False) s')
    (hs : swapsWithSole [.Tuple [.Name x xp, .Name y yp] k tp] (.Tuple [.List [] lp, e] kv vp) pos.line C.env = pure false)
    (hw : swappedStores [.Tuple [.Name x xp, .Name y yp] k tp] (.Tuple [.List [] lp, e] kv vp) C.env = pure (some [x, y]))
    (hst : starEach [e] C.env = (false, eval e C.env) :: starEach [] C.env) : wpAny C.M C.A (execs (.Assign [.Tuple [.Name x xp, .Name y yp] k tp] (.Tuple [.List [] lp, e] kv vp) pos :: rest) C.env) Q (fun _ _ => False) s := by
  have σ0 := σ.with { cls := .type "list", data := .seq #[] } s.toks (Nat.le_refl _) rfl
  have k0 : Le s { s with heap := s.heap.push { cls := .type "list", data := .seq #[] }, toks := s.toks } := ⟨.push _ _, Nat.le_refl _⟩
  have hD0 : ({ s with heap := s.heap.push { cls := .type "list", data := .seq #[] }, toks := s.toks } : Shared).heap.PlainList s.heap.objs.size #[] := ⟨_, Heap.get?_push_size _ rfl⟩
  refine wpAny_execs_cons (Assign_Tuple_swapped (names := [x, y]) (PySem.wpAny_Tuple (PyProof.Rows.args_cons (PySem.wpAny_List (PyProof.Rows.args_nil ⟨Nat.zero_le _, PyProof.Rows.args_cons (wpAny_mono (he _ σ.free _ σ0) (fun u s1 q1 => PyProof.Rows.args_nil ?_) no) hst⟩)) rfl)) hs hw)
  obtain ⟨ru, k1⟩ := q1
  have σ1 := σ0.le k1
  refine ⟨by show 2 ≤ sizeLine; rw [sizeLine_eq]; omega, ?_⟩
  have kT : Le s1 { s1 with heap := s1.heap.push { cls := .type "tuple", data := .seq #[.ref s.heap.objs.size, u] }, toks := s1.toks } := ⟨.push _ _, Nat.le_refl _⟩
  refine unpack_wp (C := C.with s.heap.objs.size σ.free) (items := #[.ref s.heap.objs.size, u]) (σ1.le kT) ⟨_, Heap.get?_push_size _ rfl, rfl, _, rfl⟩ fun s2 σ2 k2 => ?_
  show wpAny C.M C.A (assignInOrder [bindName C.env y, bindName C.env x] [u, .ref s.heap.objs.size]) _ _ s2
  have k3 := (k1.trans kT).trans k2
  refine wpAny_assignInOrder_more (wpAny_bindName (store_wpK (C := C.with s.heap.objs.size σ.free) σ2 hy (ru.le0 (kT.trans k2).1) fun s3 σ3 k4 kk => ?_))
  refine wpAny_assignInOrder_more (wpAny_bindName (store_wp (C := C.with s.heap.objs.size σ.free) σ3 (hx _) ⟨rfl, .head _, [], ?_, .nil⟩ fun s4 σ4 k5 => ?_))
  · have hD2 := hD0.at fun o e => k3.heap _ o e
    exact hD2.at fun o e => kk _ o (own_ne_locals σ2 hD2) e
  · have kk : LeX _ _ s4 := ((k0.x.trans k3.x).trans k4).trans k5
    obtain ⟨⟨h', t', rfl, _⟩, _⟩ := kk
    exact wpAny_assignInOrder_none (h _ σ.free _ (get_size _) σ4 rfl rfl)
end
section
variable {prog : Program} {w : World} {hB : Heap} {A : Around} {s : Shared}
theorem law_par : ∀ y ∈ (nth 12).params.args.map (·.arg), (nth 12).scope.names.lookup y = some NameKind.local := by decide +kernel
theorem law_loc : ∀ x ∈ (["script"] : List Str) ++ (["text", "told", "refused", "token"] : List Str), (nth 12).scope.names.lookup x = some NameKind.local ∧ (x == ("__debug__" : Str)) = false := by decide +kernel
theorem law_call (G : GL prog w hB) (l : List Int) (hl : l.length ≤ 63) {t : List Nat} {T : List Row} {F : Bool} (htl : (lawText l).length < 500) (htt : (Txt.replace (S (lawText l)) (S [0]) (S [65533])).cps.toList = t) (ht : t.length < 1000) (hT : ∀ c ∈ t, c ∈ alpha) (e : tok t t.length [] 0 = (T, F)) (hr : read t t.length [] 0 = (T, F))
    {a : Addr} (ha : Def hB a (nth 12).name (nth 12).params (nth 12).body (nth 12).scope) (hh : A.handled = none) (hfr : A.frames = some []) (hd : A.depth + 6 < recursionLimit) (hu : A.units + 700 < cLine)
    {v : Value} (hv : Rp [] s.heap v (.lst (l.map .int))) (hb : Heap.le hB s.heap) (hg : s.gens = #[]) :
    wpAny (model prog w) A (call (.ref a) [v]) (fun r s' => r = .bool true ∧ Heap.le hB s'.heap ∧ s'.gens = #[.finished] ∧ s'.os = s.os) (fun _ _ => False) s := by
  obtain ⟨o, pm, cd, doc, ho, hdat, hcd⟩ := ha
  have hL : hB.get? s.heap.objs.size = none := none_below hb (get_size _)
  refine wpAny_call (call_m (qual := (nth 12).name) (by omega) (hb _ _ ho) hdat (G.B.lim.keeps hb) (hcd.keeps hb) rfl (fun x hx => law_par _ (List.of_mem_zip hx).1) (fun h₁ Fh => ?_) rfl rfl rfl (by decide +kernel))
  let C := inner prog w hB A (nth 12).name (nth 12).scope s.heap.objs.size a cd [] 5 rfl hL (fun b h => by cases h) hh (by omega) (by omega)
  have σ : St C (Rho0 ["script"] [.lst (l.map .int)] ["text", "told", "refused", "token"]) { s with heap := h₁, toks := s.toks + 1 } :=
    St.start (C := C) (X := []) rfl hb (Nat.le_add_left 1 _) (fun b h => by cases h) (.cons hv .nil) rfl (by decide +kernel) law_loc Fh rfl
  have kx : C.env.kindOf "_law_text" = some .globalImplicit := kindG (sc := (nth 12).scope) rfl (by decide +kernel)
  have main : wpAny C.M C.A (execs (nth 12).body C.env) (fun f s' => f = .ret (.bool true) ∧ Heap.le C.hB s'.heap ∧ s'.gens = #[.finished] ∧ s'.os = s.os) (fun _ _ => False) { s with heap := h₁, toks := s.toks + 1 } := by
    conv => arg 3; arg 1; whnf
    refine wpAny_execs_cons (wpAny_mono (Ex1.assign (Q := fun o => o = .next [("script", .val (.lst (l.map .int))), ("text", .val (.str (lawText l))), ("told", .undef), ("refused", .undef), ("token", .undef)]) (Ev.can (C := C) (texts G.B l hl) (Evs.cons (Ev.name .here) Evs.nil rfl) (by show 1 ≤ 5; omega) kx rfl rfl) (.there .here) rfl rfl _ σ) (fun f s1 q1 => ?_) no)
    obtain ⟨o', rfl, hi, k1⟩ := q1
    cases f with
    | next =>
      have σ1 : St C [("script", .val (.lst (l.map .int))), ("text", .val (.str (lawText l))), ("told", .undef), ("refused", .undef), ("token", .undef)] s1 := hi
      obtain ⟨⟨h', t', rfl, _⟩, _⟩ := k1
      refine own_step σ1 (q := .bool false) (ρ'' := fun D => lR (.val (.lst (l.map .int))) (lawText l) (.own D []) false .undef) (fun D hD => Ev.cbool) (.there (.there (.there .here))) (fun D => .there (.there .here)) (fun D hD s' hn σ' g' o' => ?_) rfl (by rw [swap_of (sc := (nth 12).scope) rfl]; rfl) rfl
      have hDL : D ≠ s.heap.objs.size := fun q => by
        obtain ⟨o, ho⟩ := σ1.inX s.heap.objs.size (.head _)
        rw [← q, hn] at ho; cases ho
      have := law_rest (C := C.with D hD) (D := D) (L := s.heap.objs.size) (t0 := lawText l) (t := t) (T := T) (F := F) G rfl rfl rfl hDL rfl rfl (by show A.frames.map _ = _; rw [hfr]; rfl) (by show 4 ≤ 5; omega) rfl htl htt ht hT e hr σ' (g'.trans hg)
      exact wpAny_mono this (fun f s' q => ⟨q.1, q.2.1, q.2.2.1, q.2.2.2.trans o'⟩) no
    | _ => exact hi.elim
  exact wpAny_mono main (fun f s' q => by obtain ⟨rfl, q⟩ := q; exact ⟨rfl, q⟩) fun _ _ x => x
end
end Mine
end
section
open PySem PySem.W PyProof.Rows PySem.Calls
set_option Elab.async false
set_option linter.unusedVariables false
set_option maxRecDepth 100000
namespace Mine
theorem items_int : ∀ {xs : List WData}, WShape.hasItems [] xs .int = true → ∃ l : List Int, xs = l.map .int
  | [], _ => ⟨[], rfl⟩
  | x :: r, h => by
    simp only [WShape.hasItems, Bool.and_eq_true] at h
    obtain ⟨l, rfl⟩ := items_int h.2
    have h1 := h.1
    cases x <;> simp [WShape.has, WShape.arms] at h1
    exact ⟨_ :: l, rfl⟩
theorem pre_parts {args : List WData} (h : PySem.Challenge.rw_vu0001_01.row.toRowW.claim.pre args = true) : ∃ l : List Int, args = [.list (l.map .int)] ∧ l.length ≤ 63 := by
  have h' : WShape.hasAll [] args [.list .int] = true ∧ (PySem.Challenge.rw_vu0001_01.pre).holds [] { args := args } = true := Bool.and_eq_true_iff.mp h
  obtain ⟨h1, h2⟩ := h'
  cases args with
  | nil => simp [WShape.hasAll] at h1
  | cons x r =>
    simp only [WShape.hasAll, Bool.and_eq_true] at h1
    have hr : r = [] := by cases r with | nil => rfl | cons y s => simp [WShape.hasAll] at h1
    subst hr
    have hx := h1.1
    cases x <;> simp [WShape.has, WShape.arms] at hx
    obtain ⟨l, rfl⟩ := items_int hx
    refine ⟨l, rfl, ?_⟩
    have e : (PySem.Challenge.rw_vu0001_01.pre) = .and (.not (.lt (.lit (.int 63)) (.len (.arg 0)))) (.lit (.bool true)) := rfl
    rw [e] at h2
    by_cases hl : l.length ≤ 63
    · exact hl
    · have hlt : decide ((63 : Int) < ((l.map WData.int).length : Int)) = true := by rw [List.length_map]; exact decide_eq_true (by omega)
      have hv : WTm.value [] (.and (.not (.lt (.lit (.int 63)) (.len (.arg 0)))) (.lit (.bool true))) { args := [.list (l.map .int)] } = some (.bool false) := by
        have hle : less? (.int 63) (.int ((l.map WData.int).length : Int)) = some true := by
          show some (decide _) = _
          rw [hlt]
        simp only [WTm.value, List.getElem?_cons_zero, hle]
        rfl
      unfold WTm.holds at h2
      rw [hv] at h2
      cases h2
/-- the list's address and items -/
theorem list_rp {cl : Str → Option Addr} {h : Heap} {l : List Int} {vals : List Value} {as : List Addr} (hR : ReadsAllW [] cl h vals [.list (l.map .int)] as) : ∃ v, vals = [v] ∧ Rp [] h v (.lst (l.map .int)) := by
  have allI : ∀ {l : List Int} {vs : List Value} {bs : List Addr}, ReadsAllW [] cl h vs (l.map .int) bs → Rps [] h vs (l.map PV.int) := by
    intro l
    induction l with
    | nil => intro vs bs q; cases q; exact .nil
    | cons i r ih =>
      intro vs bs q
      cases q with
      | cons a b => cases a; exact .cons (.int _ _) (ih b)
  cases hR with
  | cons a b =>
    cases b
    cases a with
    | list ho hc hd hr =>
      rename_i a o vs n bs
      refine ⟨_, rfl, .lst _ vs.toList _ (fun q => by cases q) ⟨_, ho, hc, n, ?_⟩ (allI hr)⟩
      rw [hd]
end Mine
end
section
open PySem PySem.W PyProof.Rows PySem.Calls
set_option Elab.async false
set_option linter.unusedVariables false
set_option maxRecDepth 100000
namespace Mine
noncomputable def KM (P : Params) : Frag := [(0, o0 P), (3, o282 P)]
theorem KM_here (P : Params) : (KM P).In (hF P) := Frag.in_of (as := [0, 3]) (by kernel_rfl) (by kernel_rfl)
theorem KM_in {P : Params} {h : Heap} (k : Heap.le (hF P) h) : (KM P).In h := (KM_here P).keeps k
noncomputable def nq (i : Nat) : DefRec := ((pq.main.body.filterMap DefRec.ofStmt?)[i]?).getD ⟨"", ⟨[], [], none, [], [], none, []⟩, [], { kind := .module, names := [], isGenerator := false, isCoroutine := false }, ⟨0, 0, 0, 0⟩⟩
theorem nth_eq (i : Nat) : nth i = nq i := by unfold nth nq; rw [← pq_eq]
section
variable {P : Params} {hB : Heap}
theorem ns_some_of {K : Frag} {h : Heap} {N : Addr} {mg : Str → Option Value} {n : Str} {v : Value} (X : K.In h) (G : h.Ns N mg) (e : nsIn K N n = some (some v)) : mg n = some v := by
  obtain ⟨o, es, ep, ho, hd, _, hf⟩ := G
  unfold nsIn at e
  split at e
  · rename_i c d es' n' sl q
    have := X _ _ q
    rw [ho] at this
    cases this
    cases hd
    split at e
    · rename_i en he
      cases e
      rw [← hf]
      unfold nsFind findBy
      rw [← Array.find?_toList, he]
      rfl
    · split at e <;> cases e
  · cases e
theorem glob_m {x : Str} {v : Value} (k : Heap.le (hF P) hB) (e : nsIn (KM P) mainGlobals x = some (some v)) : GlobIs hB x v :=
  .inl ⟨_, .of_isNs (isNs_of_in (KM_in k) (N := mainGlobals) (by kernel_rfl)), ns_some_of (KM_in k) (.of_isNs (isNs_of_in (KM_in k) (by kernel_rfl))) e⟩
theorem glob_b {x : Str} {v : Value} (k : Heap.le (hF P) hB) (e : nsIn (KM P) mainGlobals x = some none) (e2 : nsIn (KM P) builtinsNs x = some (some v)) : GlobIs hB x v :=
  .inr ⟨_, _, .of_isNs (isNs_of_in (KM_in k) (N := mainGlobals) (by kernel_rfl)), ns_none_of (KM_in k) (.of_isNs (isNs_of_in (KM_in k) (by kernel_rfl))) e,
    .of_isNs (isNs_of_in (KM_in k) (N := builtinsNs) (by kernel_rfl)), ns_some_of (KM_in k) (.of_isNs (isNs_of_in (KM_in k) (by kernel_rfl))) e2⟩

theorem def_0 (k : Heap.le (hF P) hB) : Def hB 38 (nth 0).name (nth 0).params (nth 0).body (nth 0).scope := by
  refine ⟨_, .str "__main__" 164, .ref 37, .none, k _ _ (show (hF P).get? 38 = some (o40 P) by kernel_rfl), ?_, 37, o39 P, _, 283, rfl, k _ _ (by kernel_rfl), rfl, ?_⟩
  · rw [nth_eq]; kernel_rfl
  · rw [nth_eq]; kernel_rfl

theorem def_1 (k : Heap.le (hF P) hB) : Def hB 196 (nth 1).name (nth 1).params (nth 1).body (nth 1).scope := by
  refine ⟨_, .str "cssselect.parser" 289, .ref 195, .none, k _ _ (show (hF P).get? 196 = some (o220 P) by kernel_rfl), ?_, 195, o219 P, _, 1754, rfl, k _ _ (by kernel_rfl), rfl, ?_⟩
  · rw [nth_eq]; kernel_rfl
  · rw [nth_eq]; kernel_rfl

theorem def_2 (k : Heap.le (hF P) hB) : Def hB 203 (nth 2).name (nth 2).params (nth 2).body (nth 2).scope := by
  refine ⟨_, .str "cssselect.parser" 289, .ref 202, .none, k _ _ (show (hF P).get? 203 = some (o227 P) by kernel_rfl), ?_, 202, o226 P, _, 1762, rfl, k _ _ (by kernel_rfl), rfl, ?_⟩
  · rw [nth_eq]; kernel_rfl
  · rw [nth_eq]; kernel_rfl

theorem def_3 (k : Heap.le (hF P) hB) : Def hB 210 (nth 3).name (nth 3).params (nth 3).body (nth 3).scope := by
  refine ⟨_, .str "cssselect.parser" 289, .ref 209, .none, k _ _ (show (hF P).get? 210 = some (o234 P) by kernel_rfl), ?_, 209, o233 P, _, 1772, rfl, k _ _ (by kernel_rfl), rfl, ?_⟩
  · rw [nth_eq]; kernel_rfl
  · rw [nth_eq]; kernel_rfl

theorem def_4 (k : Heap.le (hF P) hB) : Def hB 217 (nth 4).name (nth 4).params (nth 4).body (nth 4).scope := by
  refine ⟨_, .str "cssselect.parser" 289, .ref 216, .none, k _ _ (show (hF P).get? 217 = some (o241 P) by kernel_rfl), ?_, 216, o240 P, _, 1781, rfl, k _ _ (by kernel_rfl), rfl, ?_⟩
  · rw [nth_eq]; kernel_rfl
  · rw [nth_eq]; kernel_rfl

theorem def_5 (k : Heap.le (hF P) hB) : Def hB 224 (nth 5).name (nth 5).params (nth 5).body (nth 5).scope := by
  refine ⟨_, .str "cssselect.parser" 289, .ref 223, .none, k _ _ (show (hF P).get? 224 = some (o250 P) by kernel_rfl), ?_, 223, o249 P, _, 1788, rfl, k _ _ (by kernel_rfl), rfl, ?_⟩
  · rw [nth_eq]; kernel_rfl
  · rw [nth_eq]; kernel_rfl

theorem def_6 (k : Heap.le (hF P) hB) : Def hB 232 (nth 6).name (nth 6).params (nth 6).body (nth 6).scope := by
  refine ⟨_, .str "law_vu0001_01" 1801, .ref 231, .none, k _ _ (show (hF P).get? 232 = some (o260 P) by kernel_rfl), ?_, 231, o259 P, _, 1845, rfl, k _ _ (by kernel_rfl), rfl, ?_⟩
  · rw [nth_eq]; kernel_rfl
  · rw [nth_eq]; kernel_rfl

theorem def_7 (k : Heap.le (hF P) hB) : Def hB 239 (nth 7).name (nth 7).params (nth 7).body (nth 7).scope := by
  refine ⟨_, .str "law_vu0001_01" 1801, .ref 238, .none, k _ _ (show (hF P).get? 239 = some (o267 P) by kernel_rfl), ?_, 238, o266 P, _, 1855, rfl, k _ _ (by kernel_rfl), rfl, ?_⟩
  · rw [nth_eq]; kernel_rfl
  · rw [nth_eq]; kernel_rfl

theorem def_8 (k : Heap.le (hF P) hB) : Def hB 246 (nth 8).name (nth 8).params (nth 8).body (nth 8).scope := by
  refine ⟨_, .str "law_vu0001_01" 1801, .ref 245, .none, k _ _ (show (hF P).get? 246 = some (o274 P) by kernel_rfl), ?_, 245, o273 P, _, 1865, rfl, k _ _ (by kernel_rfl), rfl, ?_⟩
  · rw [nth_eq]; kernel_rfl
  · rw [nth_eq]; kernel_rfl

theorem def_9 (k : Heap.le (hF P) hB) : Def hB 253 (nth 9).name (nth 9).params (nth 9).body (nth 9).scope := by
  refine ⟨_, .str "law_vu0001_01" 1801, .ref 252, .none, k _ _ (show (hF P).get? 253 = some (o281 P) by kernel_rfl), ?_, 252, o280 P, _, 1876, rfl, k _ _ (by kernel_rfl), rfl, ?_⟩
  · rw [nth_eq]; kernel_rfl
  · rw [nth_eq]; kernel_rfl

theorem def_10 (k : Heap.le (hF P) hB) : Def hB 260 (nth 10).name (nth 10).params (nth 10).body (nth 10).scope := by
  refine ⟨_, .str "law_vu0001_01" 1801, .ref 259, .none, k _ _ (show (hF P).get? 260 = some (o290 P) by kernel_rfl), ?_, 259, o289 P, _, 1888, rfl, k _ _ (by kernel_rfl), rfl, ?_⟩
  · rw [nth_eq]; kernel_rfl
  · rw [nth_eq]; kernel_rfl

theorem def_11 (k : Heap.le (hF P) hB) : Def hB 267 (nth 11).name (nth 11).params (nth 11).body (nth 11).scope := by
  refine ⟨_, .str "law_vu0001_01" 1801, .ref 266, .none, k _ _ (show (hF P).get? 267 = some (o297 P) by kernel_rfl), ?_, 266, o296 P, _, 1896, rfl, k _ _ (by kernel_rfl), rfl, ?_⟩
  · rw [nth_eq]; kernel_rfl
  · rw [nth_eq]; kernel_rfl

theorem def_12 (k : Heap.le (hF P) hB) : Def hB 274 (nth 12).name (nth 12).params (nth 12).body (nth 12).scope := by
  refine ⟨_, .str "law_vu0001_01" 1801, .ref 273, .none, k _ _ (show (hF P).get? 274 = some (o304 P) by kernel_rfl), ?_, 273, o303 P, _, 1911, rfl, k _ _ (by kernel_rfl), rfl, ?_⟩
  · rw [nth_eq]; kernel_rfl
  · rw [nth_eq]; kernel_rfl

theorem pat_0 (k : Heap.le (hF P) hB) : PySem.Flt.IsPattern hB 43 (patR 0) :=
  ⟨_, 42, _, _, k _ _ (show (hF P).get? 43 = some (o46 P) by kernel_rfl), by kernel_rfl, by kernel_rfl, by kernel_rfl, k _ _ (show (hF P).get? 42 = some (o45 P) by kernel_rfl), by kernel_rfl⟩

theorem pat_1 (k : Heap.le (hF P) hB) : PySem.Flt.IsPattern hB 48 (patR 1) :=
  ⟨_, 47, _, _, k _ _ (show (hF P).get? 48 = some (o52 P) by kernel_rfl), by kernel_rfl, by kernel_rfl, by kernel_rfl, k _ _ (show (hF P).get? 47 = some (o51 P) by kernel_rfl), by kernel_rfl⟩

theorem pat_2 (k : Heap.le (hF P) hB) : PySem.Flt.IsPattern hB 163 (patR 2) :=
  ⟨_, 162, _, _, k _ _ (show (hF P).get? 163 = some (o179 P) by kernel_rfl), by kernel_rfl, by kernel_rfl, by kernel_rfl, k _ _ (show (hF P).get? 162 = some (o178 P) by kernel_rfl), by kernel_rfl⟩

theorem pat_3 (k : Heap.le (hF P) hB) : PySem.Flt.IsPattern hB 168 (patR 3) :=
  ⟨_, 167, _, _, k _ _ (show (hF P).get? 168 = some (o185 P) by kernel_rfl), by kernel_rfl, by kernel_rfl, by kernel_rfl, k _ _ (show (hF P).get? 167 = some (o184 P) by kernel_rfl), by kernel_rfl⟩

theorem pat_4 (k : Heap.le (hF P) hB) : PySem.Flt.IsPattern hB 173 (patR 4) :=
  ⟨_, 172, _, _, k _ _ (show (hF P).get? 173 = some (o191 P) by kernel_rfl), by kernel_rfl, by kernel_rfl, by kernel_rfl, k _ _ (show (hF P).get? 172 = some (o190 P) by kernel_rfl), by kernel_rfl⟩

theorem pat_5 (k : Heap.le (hF P) hB) : PySem.Flt.IsPattern hB 178 (patR 5) :=
  ⟨_, 177, _, _, k _ _ (show (hF P).get? 178 = some (o197 P) by kernel_rfl), by kernel_rfl, by kernel_rfl, by kernel_rfl, k _ _ (show (hF P).get? 177 = some (o196 P) by kernel_rfl), by kernel_rfl⟩

theorem pat_6 (k : Heap.le (hF P) hB) : PySem.Flt.IsPattern hB 184 (patR 6) :=
  ⟨_, 183, _, _, k _ _ (show (hF P).get? 184 = some (o205 P) by kernel_rfl), by kernel_rfl, by kernel_rfl, by kernel_rfl, k _ _ (show (hF P).get? 183 = some (o204 P) by kernel_rfl), by kernel_rfl⟩

theorem pat_7 (k : Heap.le (hF P) hB) : PySem.Flt.IsPattern hB 189 (patR 7) :=
  ⟨_, 188, _, _, k _ _ (show (hF P).get? 189 = some (o211 P) by kernel_rfl), by kernel_rfl, by kernel_rfl, by kernel_rfl, k _ _ (show (hF P).get? 188 = some (o210 P) by kernel_rfl), by kernel_rfl⟩

end
end Mine
end
section
open PySem PySem.W PyProof.Rows PySem.Calls
set_option Elab.async false
set_option linter.unusedVariables false
set_option maxRecDepth 100000
namespace Mine
section
variable {prog : Program} {w : World} {hB : Heap}
theorem rp_str {X : List Addr} {h : Heap} {x : Str} {t : Tok} {l : List Nat} (e : x = S l) : Rp X h (.str x t) (.str l) := e ▸ .str l t
theorem signs_rp (k : Heap.le (hF w.params) hB) : Rp [] hB (.ref 225) (.tup (signs.map fun c => .str [c])) := by
  refine .tup 225 _ _ (fun q => by cases q) ⟨_, k _ _ (show (hF w.params).get? 225 = some (o251 w.params) by kernel_rfl), rfl, 0, rfl⟩ ?_
  repeat (first | exact .nil | refine .cons (rp_str (by decide +kernel)) ?_)
theorem base_of (k : Heap.le (hF w.params) hB) : Base prog w hB where
  lim := ⟨_, .of_isNs (isNs_of_in (KG_in k) (N := cStatics) (by kernel_rfl)), nsMap_none_of_in (KG_in k) (by kernel_rfl) (by kernel_rfl)⟩
  fn := fun i hi => by
    match i, hi with
    | 0, _ => exact ⟨38, glob_m k (by kernel_rfl), def_0 k⟩
    | 1, _ => exact ⟨196, glob_m k (by kernel_rfl), def_1 k⟩
    | 2, _ => exact ⟨203, glob_m k (by kernel_rfl), def_2 k⟩
    | 3, _ => exact ⟨210, glob_m k (by kernel_rfl), def_3 k⟩
    | 4, _ => exact ⟨217, glob_m k (by kernel_rfl), def_4 k⟩
    | 5, _ => exact ⟨224, glob_m k (by kernel_rfl), def_5 k⟩
    | 6, _ => exact ⟨232, glob_m k (by kernel_rfl), def_6 k⟩
    | 7, _ => exact ⟨239, glob_m k (by kernel_rfl), def_7 k⟩
    | 8, _ => exact ⟨246, glob_m k (by kernel_rfl), def_8 k⟩
    | 9, _ => exact ⟨253, glob_m k (by kernel_rfl), def_9 k⟩
    | 10, _ => exact ⟨260, glob_m k (by kernel_rfl), def_10 k⟩
    | 11, _ => exact ⟨267, glob_m k (by kernel_rfl), def_11 k⟩
    | 12, _ => exact ⟨274, glob_m k (by kernel_rfl), def_12 k⟩
    | n + 13, h => exact absurd h (by omega)
  bi := fun x hx => by
    simp only [used, List.mem_cons, List.not_mem_nil, or_false] at hx
    rcases hx with rfl | rfl | rfl | rfl | rfl <;> exact glob_b k (by kernel_rfl) (by kernel_rfl)
  pats := fun r hr => by
    have hr : r ∈ pats := hr
    obtain ⟨i, hi, rfl⟩ := List.mem_iff_getElem.mp hr
    have e : pats[i] = patR i := by unfold patR; rw [List.getElem?_eq_getElem hi]; rfl
    rw [e]
    rw [pats_len] at hi
    match i, hi with
    | 0, _ => exact ⟨43, glob_m k (by kernel_rfl), pat_0 k⟩
    | 1, _ => exact ⟨48, glob_m k (by kernel_rfl), pat_1 k⟩
    | 2, _ => exact ⟨163, glob_m k (by kernel_rfl), pat_2 k⟩
    | 3, _ => exact ⟨168, glob_m k (by kernel_rfl), pat_3 k⟩
    | 4, _ => exact ⟨173, glob_m k (by kernel_rfl), pat_4 k⟩
    | 5, _ => exact ⟨178, glob_m k (by kernel_rfl), pat_5 k⟩
    | 6, _ => exact ⟨184, glob_m k (by kernel_rfl), pat_6 k⟩
    | 7, _ => exact ⟨189, glob_m k (by kernel_rfl), pat_7 k⟩
    | n + 8, h => exact absurd h (by omega)
  six := ⟨1842, glob_m k (by kernel_rfl)⟩
  signs := ⟨_, glob_m k (by kernel_rfl), signs_rp k⟩
theorem gl_of (k : Heap.le (hF w.params) hB) : GL prog w hB where
  B := base_of k
  k := k
  bt := glob_b k (by kernel_rfl) (by kernel_rfl)
  gT := glob_m k (by kernel_rfl)
  gE := glob_m k (by kernel_rfl)
  gS := glob_m k (by kernel_rfl)
  gQ := glob_m k (by kernel_rfl)
  q1 := pat_0 k
  q2 := pat_1 k
end
end Mine
end
section
open PySem PySem.W PyProof.Rows PySem.Calls
set_option Elab.async false
set_option linter.unusedVariables false
set_option maxRecDepth 100000
namespace Mine
noncomputable def dlaw : DefRec := ((defOf qv "law").map (·.1)).getD ⟨"", ⟨[], [], none, [], [], none, []⟩, [], { kind := .module, names := [], isGenerator := false, isCoroutine := false }, ⟨0, 0, 0, 0⟩⟩
theorem hdef : defOf qv "law" = some (dlaw, []) := by kernel_rfl
theorem hthe : pq.theDef "law" = some (dlaw.params, dlaw.body, dlaw.scope) := by kernel_rfl
theorem hkw : kwWritten? dlaw.params.kwonlyargs dlaw.params.kw_defaults = some [] := by kernel_rfl
theorem okq : (chainsOk qv && opensWell pq && (frees PySem.Challenge.rw_vu0001_01.row.toRowW && PySem.Challenge.rw_vu0001_01.row.within.isEmpty)) = true := by kernel_rfl
theorem walk : WalkO qv loose XP0 (fun w h => ∀ b o, (hF w.params).get? b = some o → h.get? b = some o) PySem.Challenge.rw_vu0001_01.row.toRowW dlaw [] fun f vs => PySem.call f vs := by
  intro w s₀ s₁ mg mb G Y a o pm cd doc dV kV ho hdat hcd hdf hmg hg args vals as hpre hlay hR hW hlow
  obtain ⟨l, rfl, hl⟩ := pre_parts hpre
  obtain ⟨v, rfl, hv⟩ := list_rp hR
  have k : Heap.le (hF w.params) s₁.heap := Y
  have ha : a = 274 := by
    have h1 : mg "law" = some (.ref 274) := mg_of (KM_in k) G.T.g (by kernel_rfl)
    have h2 : mg "law" = some (.ref a) := hmg
    rw [h1] at h2
    cases h2
    rfl
  subst ha
  obtain ⟨hd, tl, I⟩ := lawText_inv l
  have hlen : (lawText l).length < 500 := by have := I.len; rwa [List.length_map] at this
  have hrd := tok_is I ((lawText l).map noNull).length [] 0 (Nat.zero_le _)
  have main := law_call (prog := PySem.Challenge.pw_vu0001_01) (A := callerA) (s := s₁) (gl_of k) l hl (t := (lawText l).map noNull) hlen (replace_null _) (by have := I.len; omega) I.al (T := _) (F := _) rfl hrd.symm (def_12 k) rfl rfl (by decide +kernel) (by decide +kernel) hv (fun _ _ e => e) hg
  refine wpAny_mono main (fun r s' q => ?_) fun _ _ x => x.elim
  obtain ⟨rfl, hle, hgn, hos⟩ := q
  refine ⟨.inl ⟨.bool true, .bool true, [], rfl, fun cls => rfl, .bool true, ?_, fun _ => ⟨.nil, fun a h => by cases h⟩⟩, .of_keep hle, hos, fun y hy => ?_⟩
  · kernel_rfl
  · rw [hgn] at hy
    have : y = .finished := by simpa using hy
    subst this
    rfl
end Mine
end
open PySem PySem.W PyProof.Rows
set_option Elab.async false
set_option linter.unusedVariables false
set_option maxRecDepth 100000
set_option maxHeartbeats 0
theorem PySem.Challenge.cw_vu0001_01_holds : PySem.Challenge.rw_vu0001_01.Holds := by
  w_on
  o_law
  refine PySem.W.holds_open (q := Mine.qv) (loose := Mine.loose) (Xt := fun _ => true) (XP := Mine.XP0) (Yf := fun s => s.heap) (Ya := fun w => Mine.hF w.params) (YP := fun w h => ∀ b o, (Mine.hF w.params).get? b = some o → h.get? b = some o) (N := 7000) (d := Mine.dlaw) (kwd := []) Mine.leftq
    (fun w s e b o h => by rw [e]; exact h) (fun w h h' k1 k2 b o x => k2 b o (k1 b o x)) (fun _ _ => trivial) (fun _ _ _ _ _ => trivial) Mine.hdef (show PySem.Challenge.pw_vu0001_01.theDef "law" = _ by rw [Mine.pq_eq]; exact Mine.hthe) Mine.hkw (fun s _ => recFacts_nil rfl) rfl (by assumption) ?d7 ⟨rfl, rfl, rfl, rfl, rfl, by decide +kernel⟩ ?d9 Mine.walk
  case d7 => show (_ && opensWell PySem.Challenge.pw_vu0001_01 && _) = true; rw [Mine.pq_eq]; exact Mine.okq
  case d9 => w_witness2
