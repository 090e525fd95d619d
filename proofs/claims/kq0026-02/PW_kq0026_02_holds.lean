import PyProof.Rows.All
import PyProof.CompFree
import PyProof.SliceMore
import PyProof.Rows.ChunkLeaf
import Flt.RightMore
import Flt.Ops
import Flt.RightSqrt
import Flt.Calls
import Flt.Calls2
import OpenK.KCell
import Open.Tree
import KE.KEqDeep
import KE.KFmtOwn
import KE.KLcPair
import KE.KSetIn
import Wide.FinOn
import OpenK.AllK
import Wide.All
import Lean
import PySem.Challenge.RW_kq0026_02
set_option Elab.async false
set_option compiler.extract_closed false
set_option linter.all false
section
set_option maxRecDepth 100000
set_option autoImplicit false
namespace Mine
open PySem PySem.W PySem.Calls PyProof.Rows PySem.Spec

noncomputable def nd (o : Obj) : Prop := ∀ es n, o.data ≠ .dict es n

noncomputable abbrev qRet (R : Result → Shared → Prop) : Flow → Shared → Prop := fun fl s'' => R (.ok (.ret (match fl with | .ret v => v | _ => .none))) s''
noncomputable abbrev eOut (prog : Program) (w : World) (A : Around) (env : Env) (R : Result → Shared → Prop) : Value → Shared → Prop := fun e s'' => wpAny (model prog w) A (leaving env e) (fun _ s3 => R (.error e) s3) (fun e' s3 => R (.error e') s3) s''
noncomputable abbrev rCall (Q : Value → Shared → Prop) (E : Value → Shared → Prop) : Result → Shared → Prop := fun r s' => match r with | .ok (.ret v) => Q v s' | .ok _ => False | .error e => E e s'
noncomputable abbrev qSeq (M : Model) (A : Around) (env : Env) (rest : List Stmt) (Q : Flow → Shared → Prop) (E : Value → Shared → Prop) : Flow → Shared → Prop := fun f s' => match f with | .next => wpAny M A (execs rest env) Q E s' | f => Q f s'
noncomputable abbrev eTry (prog : Program) (w : World) (A : Around) (env : Env) (hs : List ExceptHandler) (Q : Flow → Shared → Prop) (E : Value → Shared → Prop) : Value → Shared → Prop :=
  fun e s₁ => wpAny (model prog w) A (noteFrame e env) (fun _ s₂ => wpAny (model prog w) A (setFlight e none) (fun _ s₃ => wpAny (model prog w) A (handleBy e env hs) Q E s₃) E s₂) E s₁
section
variable {M : Model} {prog : Program} {w : World} {A : Around} {E : Value → Shared → Prop} {s : Shared} {env : Env}
theorem wpAny_call {f : Value} {pos : List Value} {kw : List (Str × Value)} {Q : Value → Shared → Prop} (hc : codeAny M A (.call f ⟨pos, kw⟩) (rCall Q E) s) : wpAny M A (call f pos kw) Q E s := PySem.wpAny_call hc
theorem wpAny_execs_cons {st : Stmt} {rest : List Stmt} {Q : Flow → Shared → Prop} (h : wpAny M A (exec st env) (qSeq M A env rest Q E) E s) : wpAny M A (execs (st :: rest) env) Q E s := PySem.wpAny_execs_cons h
theorem wpAny_Try_except {body orelse : List Stmt} {h₀ : ExceptHandler} {hs : List ExceptHandler} {pos : Pos} {Q : Flow → Shared → Prop}
    (h : wpAny (model prog w) A (execs body env) (qSeq (model prog w) A env orelse Q E) (eTry prog w A env (h₀ :: hs) Q E) s) : wpAny (model prog w) A (exec (.Try body (h₀ :: hs) orelse [] pos) env) Q E s := PySem.wpAny_Try_except h
end

noncomputable abbrev tk (s : Shared) (k : Nat) : Shared := { s with toks := s.toks + k }
noncomputable abbrev updM (m : Str → Option Value) (x : Str) (v : Value) : Str → Option Value := fun y => if y = x then some v else m y
noncomputable abbrev qCons (v : Value) (Q : List Value → Shared → Prop) : List Value → Shared → Prop := fun vs s₂ => Q (v :: vs) s₂
noncomputable abbrev qArg (M : Model) (A : Around) (t : Sem (List Value)) (Q : List Value → Shared → Prop) (E : Value → Shared → Prop) : Value → Shared → Prop := fun v s₁ => wpAny M A t (qCons v Q) E s₁
noncomputable abbrev qBin2 (M : Model) (A : Around) (op : Operator) (a : Value) (Q : Value → Shared → Prop) (E : Value → Shared → Prop) : Value → Shared → Prop := fun b s₂ => wpAny M A (binaryOp op a b) Q E s₂
noncomputable abbrev qBin (M : Model) (A : Around) (op : Operator) (r : PySem.Expr) (env : Env) (Q : Value → Shared → Prop) (E : Value → Shared → Prop) : Value → Shared → Prop := fun a s₁ => wpAny M A (eval r env) (qBin2 M A op a Q E) E s₁
noncomputable abbrev qCallee (M : Model) (A : Around) (pos : Pos) (args : List PySem.Expr) (env : Env) (Q : Value → Shared → Prop) (E : Value → Shared → Prop) : Value → Shared → Prop := fun f s₁ => wpAny M A (callWith pos f [] (backTo pos (starEach args env)) []) Q E s₁
noncomputable abbrev qIf (M : Model) (A : Around) (body orelse : List Stmt) (env : Env) (Q : Flow → Shared → Prop) (E : Value → Shared → Prop) : Bool → Shared → Prop := fun b s₂ => if b then wpAny M A (execs body env) Q E s₂ else wpAny M A (execs orelse env) Q E s₂
noncomputable abbrev qNext (Q : Flow → Shared → Prop) : Unit → Shared → Prop := fun _ s => Q .next s
noncomputable abbrev qSet (M : Model) (A : Around) (env : Env) (x : Str) (Q : Flow → Shared → Prop) (E : Value → Shared → Prop) : Value → Shared → Prop := fun v s₁ => wpAny M A (storeName env x v) (qNext Q) E s₁
noncomputable abbrev qSetA2 (M : Model) (A : Around) (attr : Str) (v : Value) (Q : Flow → Shared → Prop) (E : Value → Shared → Prop) : Value → Shared → Prop := fun ov s₂ => wpAny M A (setAttr ov attr v) (qNext Q) E s₂
noncomputable abbrev qSetA (M : Model) (A : Around) (o : PySem.Expr) (attr : Str) (env : Env) (Q : Flow → Shared → Prop) (E : Value → Shared → Prop) : Value → Shared → Prop := fun v s₁ => wpAny M A (eval o env) (qSetA2 M A attr v Q E) E s₁
noncomputable abbrev qCalls (M : Model) (A : Around) (f : Value) (Q : Value → Shared → Prop) (E : Value → Shared → Prop) : List Value → Shared → Prop := fun vs s₁ => wpAny M A (call f vs) Q E s₁
noncomputable abbrev qTruthy (M : Model) (A : Around) (Q : Bool → Shared → Prop) (E : Value → Shared → Prop) : Value → Shared → Prop := fun v s₁ => wpAny M A (truthy v) Q E s₁
noncomputable abbrev qCmpV (M : Model) (A : Around) (op : CmpOp) (a : Value) (Q : Value → Shared → Prop) (E : Value → Shared → Prop) : Value → Shared → Prop := fun b s₂ => wpAny M A (compareOp op a b) Q E s₂
noncomputable abbrev qCmp (M : Model) (A : Around) (op : CmpOp) (r : PySem.Expr) (env : Env) (Q : Value → Shared → Prop) (E : Value → Shared → Prop) : Value → Shared → Prop := fun a s₁ => wpAny M A (eval r env) (qCmpV M A op a Q E) E s₁
noncomputable abbrev qRetV (Q : Flow → Shared → Prop) : Value → Shared → Prop := fun v s => Q (.ret v) s
noncomputable abbrev qNot (Q : Bool → Shared → Prop) : Bool → Shared → Prop := fun b s => Q (!b) s
noncomputable abbrev qOr (M : Model) (A : Around) (rest : List PySem.Expr) (env : Env) (Q : Bool → Shared → Prop) (E : Value → Shared → Prop) : Bool → Shared → Prop := fun b s₁ => if b then Q true s₁ else wpAny M A (allTrue .Or rest env) Q E s₁
noncomputable abbrev qAnd (M : Model) (A : Around) (rest : List PySem.Expr) (env : Env) (Q : Bool → Shared → Prop) (E : Value → Shared → Prop) : Bool → Shared → Prop := fun b s₁ => if b then wpAny M A (allTrue .And rest env) Q E s₁ else Q false s₁
noncomputable abbrev qDone (Q : Value → Shared → Prop) : Fin → Shared → Prop := fun fin s' => ∃ v, fin = .done (.ret v) ∧ Q v s'
noncomputable abbrev qFin (prog : Program) (w : World) (A : Around) (R : Result → Shared → Prop) : Fin → Shared → Prop := fun fin s' => match fin with | .done f => R (.ok f) s' | .again c' => c'.quiet = true ∧ codeAny (model prog w) A c' R s'
noncomputable abbrev eErr (R : Result → Shared → Prop) : Value → Shared → Prop := fun e s' => R (.error e) s'
noncomputable abbrev rLoop (M : Model) (A : Around) (env : Env) (Q : Flow → Shared → Prop) (E : Value → Shared → Prop) : Result → Shared → Prop := fun r s' => match r with | .ok f => Q f s' | .error e => cameBackBy M A env E e s'
noncomputable abbrev qFor2 (prog : Program) (w : World) (A : Around) (target : PySem.Expr) (body orelse : List Stmt) (env : Env) (Q : Flow → Shared → Prop) (E : Value → Shared → Prop) : Value → Shared → Prop := fun it s₂ => codeAny (model prog w) A (.forLoop target it body orelse env) (rLoop (model prog w) A env Q E) s₂
noncomputable abbrev qFor (prog : Program) (w : World) (A : Around) (target : PySem.Expr) (body orelse : List Stmt) (env : Env) (Q : Flow → Shared → Prop) (E : Value → Shared → Prop) : Value → Shared → Prop := fun x s₁ => wpAny (model prog w) A (pyIter x) (qFor2 prog w A target body orelse env Q E) E s₁
noncomputable abbrev eNote (prog : Program) (w : World) (A : Around) (env : Env) (R : Result → Shared → Prop) : Value → Shared → Prop := notedBy (model prog w) A env (eErr R)
noncomputable abbrev qTurn (I : Nat → Shared → Prop) (n : Nat) (R : Result → Shared → Prop) : Flow → Shared → Prop := fun f s₃ => match f with
  | .next | .cont => ∃ m, m < n ∧ I m s₃
  | .brk => R (.ok .next) s₃
  | .ret v => R (.ok (.ret v)) s₃
noncomputable abbrev qOk (R : Result → Shared → Prop) : Flow → Shared → Prop := fun f s₃ => R (.ok f) s₃
noncomputable abbrev qWhile (prog : Program) (w : World) (A : Around) (body orelse : List Stmt) (env : Env) (I : Nat → Shared → Prop) (n : Nat) (R : Result → Shared → Prop) : Bool → Shared → Prop := fun b s₂ =>
  if b then wpAny (model prog w) A (execs body env) (qTurn I n R) (eNote prog w A env R) s₂
  else wpAny (model prog w) A (execs orelse env) (qOk R) (eNote prog w A env R) s₂
noncomputable abbrev qBody (prog : Program) (w : World) (A : Around) (body : List Stmt) (env : Env) (I : Nat → Shared → Prop) (n : Nat) (R : Result → Shared → Prop) : Unit → Shared → Prop := fun _ s₂ => wpAny (model prog w) A (execs body env) (qTurn I n R) (eNote prog w A env R) s₂
noncomputable abbrev qTake (prog : Program) (w : World) (A : Around) (target : PySem.Expr) (body : List Stmt) (env : Env) (I : Nat → Shared → Prop) (n : Nat) (R : Result → Shared → Prop) (v : Value) : Unit → Shared → Prop := fun _ s₁' => wpAny (model prog w) A (assign target env v) (qBody prog w A body env I n R) (eNote prog w A env R) s₁'
noncomputable abbrev qItem (prog : Program) (w : World) (A : Around) (target : PySem.Expr) (it : Value) (body orelse : List Stmt) (env : Env) (I : Nat → Shared → Prop) (n : Nat) (R : Result → Shared → Prop) : Option Value → Shared → Prop := fun r s₁ => match r with
  | none => wpAny (model prog w) A (execs orelse env) (qOk R) (eNote prog w A env R) s₁
  | some v => wpAny (model prog w) A (letOwnedTupleGo target it v) (qTake prog w A target body env I n R v) (eNote prog w A env R) s₁
section
variable {M : Model} {prog : Program} {w : World} {A : Around} {E : Value → Shared → Prop} {s : Shared} {env : Env} {R : Result → Shared → Prop}
theorem args_cons {e : PySem.Expr} {rest : List PySem.Expr} {pos : Pos} {Q : List Value → Shared → Prop} (h : wpAny M A (eval e env) (qArg M A (spliced (backTo pos (starEach rest env))) Q E) E s)
    (he : starEach (e :: rest) env = (false, eval e env) :: starEach rest env := by rfl) : wpAny M A (spliced (backTo pos (starEach (e :: rest) env))) Q E s := PyProof.Rows.args_cons h he
theorem Call_ {func : PySem.Expr} {args : List PySem.Expr} {pos : Pos} {Q : Value → Shared → Prop} (h : wpAny M A (eval func env) (qCallee M A pos args env Q E) E s)
    (he : eval (.Call func args [] pos) env = (do callWith pos (← eval func env) [] (backTo pos (starEach args env)) (backToKw pos (keywordEach [] env))) := by rfl) : wpAny M A (eval (.Call func args [] pos) env) Q E s := PyProof.Rows.Call_ h he
theorem wpAny_If {test : PySem.Expr} {body orelse : List Stmt} {pos : Pos} {Q : Flow → Shared → Prop} (h : wpAny M A (isTrue test env (eval test env)) (qIf M A body orelse env Q E) E s) : wpAny M A (exec (.If test body orelse pos) env) Q E s :=
  PySem.wpAny_If h
theorem wpAny_Assign_Name {x : Str} {pos' : Pos} {value : PySem.Expr} {pos : Pos} {Q : Flow → Shared → Prop} (h : wpAny M A (eval value env) (qSet M A env x Q E) E s)
    (hs : swapsWith value (some (.Name x pos')) pos.line env = pure false := by rfl) : wpAny M A (exec (.Assign [.Name x pos'] value pos) env) Q E s := PySem.wpAny_Assign_Name h hs
theorem plainObj_wpAny_Assign_Attribute {o : PySem.Expr} {attr : Str} {pos' : Pos} {value : PySem.Expr} {pos : Pos} {Q : Flow → Shared → Prop} (h : wpAny M A (eval value env) (qSetA M A o attr env Q E) E s)
    (hs : swapsWith value (some (.Attribute o attr pos')) pos.line env = pure false := by rfl) : wpAny M A (exec (.Assign [.Attribute o attr pos'] value pos) env) Q E s := PySem.plainObj_wpAny_Assign_Attribute h hs
theorem callWith_builtin1 {pos : Pos} {id : String} {e : PySem.Expr} {rest : List PySem.Expr} {Q : Value → Shared → Prop} (h : wpAny M A (spliced (backTo pos (starEach (e :: rest) env))) (qCalls M A (.builtin id) Q E) E s)
    (he : starEach (e :: rest) env = (false, eval e env) :: starEach rest env := by rfl) (hplain : (backTo pos (starEach rest env)).any (·.1) = false := by rfl) :
    wpAny M A (callWith pos (.builtin id) [] (backTo pos (starEach (e :: rest) env)) []) Q E s := PyProof.Rows.callWith_builtin1 h he hplain
theorem wpAny_isTrue_Compare1 {l : PySem.Expr} {op : CmpOp} {r : PySem.Expr} {pos : Pos} {whole : Sem Value} {Q : Bool → Shared → Prop} (h : wpAny M A (eval l env) (qCmp M A op r env (qTruthy M A Q E) E) E s)
    (hm : behindInMarks op r = false := by with_unfolding_all rfl) : wpAny M A (isTrue (.Compare l [op] [r] pos) env whole) Q E s := PySem.wpAny_isTrue_Compare1 h hm
theorem wpAny_Compare1 {l : PySem.Expr} {op : CmpOp} {r : PySem.Expr} {pos : Pos} {Q : Value → Shared → Prop} (h : wpAny M A (eval l env) (qCmp M A op r env Q E) E s)
    (hm : behindInMarks op r = false := by with_unfolding_all rfl) : wpAny M A (eval (.Compare l [op] [r] pos) env) Q E s := PySem.wpAny_Compare1 h hm
theorem wpAny_isTrue_value {e : PySem.Expr} {whole : Sem Value} {Q : Bool → Shared → Prop} (h : wpAny M A whole (qTruthy M A Q E) E s)
    (he : isTrue e env whole = (do let v ← whole; standAt e.pos; holding [v] (truthy v)) := by rfl) : wpAny M A (isTrue e env whole) Q E s := PySem.wpAny_isTrue_value h he
theorem wpAny_Return_some {e : PySem.Expr} {pos : Pos} {Q : Flow → Shared → Prop} (h : wpAny M A (eval e env) (qRetV Q) E s) : wpAny M A (exec (.Return (some e) pos) env) Q E s := PySem.wpAny_Return_some h
theorem wpAny_isTrue_Not {x : PySem.Expr} {pos : Pos} {whole : Sem Value} {Q : Bool → Shared → Prop} (h : wpAny M A (isTrue x env (eval x env)) (qNot Q) E s) : wpAny M A (isTrue (.UnaryOp .Not x pos) env whole) Q E s := PySem.wpAny_isTrue_Not h
theorem wpAny_allTrue_Or_cons {x : PySem.Expr} {rest : List PySem.Expr} {Q : Bool → Shared → Prop} (h : wpAny M A (isTrue x env (eval x env)) (qOr M A rest env Q E) E s) : wpAny M A (allTrue .Or (x :: rest) env) Q E s :=
  PySem.wpAny_allTrue_Or_cons h
theorem wpAny_allTrue_And_cons {x : PySem.Expr} {rest : List PySem.Expr} {Q : Bool → Shared → Prop} (h : wpAny M A (isTrue x env (eval x env)) (qAnd M A rest env Q E) E s) : wpAny M A (allTrue .And (x :: rest) env) Q E s :=
  PySem.wpAny_allTrue_And_cons h
theorem wpAny_Constant_int {i : Int} {k : Nat} {pos : Pos} {Q : Value → Shared → Prop} (h : Q (.int i s.toks) (tk s 1)) : wpAny M A (eval (.Constant (.int i) k pos) env) Q E s := PySem.wpAny_Constant_int h
theorem wpAny_Constant_str {x : Str} {k : Nat} {pos : Pos} {Q : Value → Shared → Prop} (h : Q (.str x s.toks) (tk s 1)) : wpAny M A (eval (.Constant (.str x) k pos) env) Q E s := PySem.wpAny_Constant_str h
theorem wpAny_BinOp {l : PySem.Expr} {op : Operator} {r : PySem.Expr} {pos : Pos} {Q : Value → Shared → Prop} (h : wpAny M A (eval l env) (qBin M A op r env Q E) E s) : wpAny M A (eval (.BinOp l op r pos) env) Q E s := PySem.wpAny_BinOp h
theorem wpAny_call_entry {T : String} {name : Str} {id : String} {b : Builtin} {self : Value} {rest : List Value} {Q : Value → Shared → Prop} (h : Slot T name id) (hT : s.TypeIs self T) (hb : entryFor table id = some b)
    (hc : wpAny (model prog w) A.in1 (b ⟨self :: rest, []⟩) (qDone Q) E s) (ha : argsOk id ⟨self :: rest, []⟩ := by rfl) : wpAny (model prog w) A (call (.builtin id) (self :: rest)) Q E s := PySem.wpAny_call_entry h hT hb hc ha
theorem codeAny_builtin {id : String} {args : Args} {b : Builtin} (hb : entryFor table id = some b) (h : wpAny (model prog w) (A.under (.builtin id args)) (b args) (qFin prog w A R) (eErr R) s) : codeAny (model prog w) A (.builtin id args) R s :=
  PySem.codeAny_builtin hb (wpAny_mono h (fun f _ z => by cases f <;> exact z) fun _ _ z => z)
theorem wpAny_While {test : PySem.Expr} {body orelse : List Stmt} {pos : Pos} {Q : Flow → Shared → Prop} (h : codeAny M A (.whileLoop test body orelse env) (rLoop M A env Q E) s) : wpAny M A (exec (.While test body orelse pos) env) Q E s := PySem.wpAny_While h
theorem wpAny_For {target iter : PySem.Expr} {body orelse : List Stmt} {pos : Pos} {Q : Flow → Shared → Prop} (h : wpAny (model prog w) A (eval iter env) (qFor prog w A target body orelse env Q E) E s)
    (hs : ∀ x, foldedSetIterable iter env x = pure x := by intro _; rfl) : wpAny (model prog w) A (exec (.For target iter body orelse pos) env) Q E s := PySem.wpAny_For h hs
theorem codeAny_whileLoop {test : PySem.Expr} {body orelse : List Stmt} {env : Env} (I : Nat → Shared → Prop) (step : ∀ n s, I n s → wpAny (model prog w) A (isTrue test env (eval test env)) (qWhile prog w A body orelse env I n R) (eNote prog w A env R) s)
    (n : Nat) (h : I n s) : codeAny (model prog w) A (.whileLoop test body orelse env) R s :=
  PySem.codeAny_whileLoop I (fun n s hI => wpAny_mono (step n s hI) (fun b _ z => by cases b with | true => exact wpAny_mono (M := model prog w) (A := A) (t := execs body env) (Q := qTurn I n R) z (fun f _ y => by cases f <;> exact y) fun _ _ y => y | false => exact z) fun _ _ z => z) n h
theorem codeAny_forLoop_any {target : PySem.Expr} {it : Value} {body orelse : List Stmt} {env : Env} (I : Nat → Shared → Prop) (step : ∀ n s, I n s → wpAny (model prog w) A (pyNext it) (qItem prog w A target it body orelse env I n R) (eNote prog w A env R) s)
    (n : Nat) (h : I n s) : codeAny (model prog w) A (.forLoop target it body orelse env) R s :=
  PySem.codeAny_forLoop_any I (fun n s hI => wpAny_mono (step n s hI) (fun r _ z => by
    cases r with
    | none => exact z
    | some v => exact wpAny_mono z (fun _ _ y => wpAny_mono y (fun _ _ x => wpAny_mono x (fun f _ u => by cases f <;> exact u) fun _ _ u => u) fun _ _ u => u) fun _ _ u => u) fun _ _ z => z) n h
end

theorem ite_no' {b : Bool} {p q : Prop} (h : b = false) (k : q) : if b = true then p else q := by rw [h]; exact k
theorem ite_yes' {b : Bool} {p q : Prop} (h : b = true) (k : p) : if b = true then p else q := by rw [h]; exact k
theorem ite_no {α : Type} {M : Model} {A : Around} {E : Value → Shared → Prop} {s : Shared} {c : Prop} [Decidable c] {t f : Sem α} {Q : α → Shared → Prop} (h : ¬ c) (k : wpAny M A f Q E s) : wpAny M A (if c then t else f) Q E s := by rw [if_neg h]; exact k
theorem ite_yes {α : Type} {M : Model} {A : Around} {E : Value → Shared → Prop} {s : Shared} {c : Prop} [Decidable c] {t f : Sem α} {Q : α → Shared → Prop} (h : c) (k : wpAny M A t Q E s) : wpAny M A (if c then t else f) Q E s := by rw [if_pos h]; exact k
noncomputable abbrev qFI {α β : Type} (M : Model) (A : Around) (l : List α) (f : α → β → Sem (ForInStep β)) (Q : β → Shared → Prop) (E : Value → Shared → Prop) : ForInStep β → Shared → Prop := fun r s' => match r with | .done b => Q b s' | .yield b => wpAny M A (forIn l b f) Q E s'
section
variable {α β : Type} {M : Model} {A : Around} {E : Value → Shared → Prop} {s : Shared} {x : α} {l : List α} {b : β} {f : α → β → Sem (ForInStep β)} {Q : β → Shared → Prop}
theorem wp_forIn_cons (h : wpAny M A (f x b) (qFI M A l f Q E) E s) : wpAny M A (forIn (x :: l) b f) Q E s := by
  rw [List.forIn_cons]
  exact wpAny_bind (wpAny_mono h (fun r s' h' => by cases r with | done => exact wpAny_pure h' | yield => exact h') fun _ _ z => z)
theorem wp_forIn_nil (h : Q b s) : wpAny M A (forIn [] b f) Q E s := by rw [List.forIn_nil]; exact wpAny_pure h
theorem wp_forIn_arr (h : wpAny M A (forIn l b f) Q E s) : wpAny M A (forIn l.toArray b f) Q E s := by rw [List.forIn_toArray]; exact h
end
structure Go (H0 : Heap) (M : List Addr) (s s' : Shared) : Prop where
  glob : (∀ b o, H0.get? b = some o → s.heap.get? b = some o) → ∀ b o, H0.get? b = some o → s'.heap.get? b = some o
  nd : ∀ b o, s.heap.get? b = some o → b ∉ M → nd o → s'.heap.get? b = some o
  up : ∀ b o es n, s.heap.get? b = some o → o.data = .dict es n → ∃ sl, s'.heap.get? b = some { o with slots := sl }
  pres : ∀ b o, s.heap.get? b = some o → Mine.nd o → ∃ o', s'.heap.get? b = some o' ∧ Mine.nd o'
  toks : s.toks ≤ s'.toks
  gens : AllBare s.gens → AllBare s'.gens
  os : s'.os = s.os

theorem nd_or (o : Obj) : nd o ∨ ∃ es n, o.data = .dict es n := by
  cases hd : o.data <;> first | exact .inr ⟨_, _, rfl⟩ | exact .inl (fun es n z => by rw [hd] at z; cases z)
theorem Go.there {H0 : Heap} {M : List Addr} {s s' : Shared} (G : Go H0 M s s') : ∀ b o, s.heap.get? b = some o → ∃ o', s'.heap.get? b = some o' := fun b o e =>
  (nd_or o).elim (fun hn => (G.pres b o e hn).elim fun o' h => ⟨o', h.1⟩) fun ⟨es, n, hd⟩ => (G.up b o es n e hd).elim fun _ h => ⟨_, h⟩
theorem Go.refl (H0 : Heap) (M : List Addr) (s : Shared) : Go H0 M s s :=
  ⟨fun h => h, fun _ _ h _ _ => h, fun _ o _ _ h _ => ⟨o.slots, h⟩, fun _ o h hn => ⟨o, h, hn⟩, Nat.le_refl _, fun h => h, rfl⟩
theorem Go.trans {H0 : Heap} {M : List Addr} {a b c : Shared} (x : Go H0 M a b) (y : Go H0 M b c) : Go H0 M a c :=
  ⟨fun h => y.glob (x.glob h), fun p o h hm hn => y.nd p o (x.nd p o h hm hn) hm hn, fun p o es n h hd => by
    obtain ⟨sl, h1⟩ := x.up p o es n h hd
    obtain ⟨sl', h2⟩ := y.up p _ es n h1 hd
    exact ⟨sl', h2⟩, fun b o h hn => (x.pres b o h hn).elim fun o' h' => y.pres b o' h'.1 h'.2, Nat.le_trans x.toks y.toks, fun h => y.gens (x.gens h), y.os.trans x.os⟩
theorem Go.step {H0 : Heap} {M M' : List Addr} {a b c : Shared} (x : Go H0 M a b) (y : Go H0 M' b c) (hM : ∀ p ∈ M', p ∈ M ∨ a.heap.get? p = none) : Go H0 M a c :=
  ⟨fun h => y.glob (x.glob h), fun p o h hm hn => y.nd p o (x.nd p o h hm hn) (fun hp => (hM p hp).elim hm fun q => by rw [q] at h; cases h) hn, fun p o es n h hd => by
    obtain ⟨sl, h1⟩ := x.up p o es n h hd
    obtain ⟨sl', h2⟩ := y.up p _ es n h1 hd
    exact ⟨sl', h2⟩, fun b o h hn => (x.pres b o h hn).elim fun o' h' => y.pres b o' h'.1 h'.2, Nat.le_trans x.toks y.toks, fun h => y.gens (x.gens h), y.os.trans x.os⟩
theorem Go.mono {H0 : Heap} {M M' : List Addr} {a b : Shared} (x : Go H0 M a b) (h : ∀ p ∈ M, p ∈ M') : Go H0 M' a b :=
  ⟨x.glob, fun p o e hm hn => x.nd p o e (fun q => hm (h p q)) hn, x.up, x.pres, x.toks, x.gens, x.os⟩
theorem Go.ext {H0 : Heap} {s s' : Shared} (hk : ∀ b o, s.heap.get? b = some o → s'.heap.get? b = some o) (ht : s.toks ≤ s'.toks) (hg : s'.gens = s.gens) (ho : s'.os = s.os) (M : List Addr) : Go H0 M s s' :=
  ⟨fun h b o e => hk b o (h b o e), fun b o e _ _ => hk b o e, fun b o _ _ e _ => ⟨o.slots, hk b o e⟩, fun b o e hn => ⟨o, hk b o e, hn⟩, ht, fun h => hg ▸ h, ho⟩

structure St (H0 : Heap) (A : Around) (l : List Env) (s : Shared) : Prop where
  glob : ∀ b o, H0.get? b = some o → s.heap.get? b = some o
  frames : A.frames = some l
  fr : ∀ env ∈ l, env.scope.kind ≠ .module ∧ ∃ L o es n, env.frame = some L ∧ H0.get? L = none ∧ s.heap.get? L = some o ∧ o.data = .dict es n
  toks : 0 < s.toks
theorem St.go {H0 : Heap} {A : Around} {l : List Env} {s s' : Shared} {M : List Addr} (S : St H0 A l s) (G : Go H0 M s s') : St H0 A l s' :=
  ⟨G.glob S.glob, S.frames, fun env he => by
    obtain ⟨hk, L, o, es, n, h1, h2, h3, h4⟩ := S.fr env he
    obtain ⟨sl, h5⟩ := G.up L o es n h3 h4
    exact ⟨hk, L, _, es, n, h1, h2, h5, h4⟩, Nat.lt_of_lt_of_le S.toks G.toks⟩
theorem St.around {H0 : Heap} {A A' : Around} {l : List Env} {s : Shared} (S : St H0 A l s) (h : A'.frames = A.frames) : St H0 A' l s := ⟨S.glob, h.trans S.frames, S.fr, S.toks⟩

noncomputable def DictAt (h : Heap) (dx : Addr) : Prop := ∃ o, h.get? dx = some o ∧ o.data = .dict #[]
structure Okk (h : Heap) (p : Addr × Obj) : Prop where
  at_ : h.get? p.1 = some p.2
  nd : Mine.nd p.2
  dx : ∀ dx, p.2.dict = some dx → DictAt h dx
theorem DictAt.go {H0 : Heap} {M : List Addr} {s s' : Shared} {dx : Addr} (D : DictAt s.heap dx) (G : Go H0 M s s') : DictAt s'.heap dx := by
  obtain ⟨o, h1, h2⟩ := D
  obtain ⟨sl, h3⟩ := G.up dx o _ _ h1 h2
  exact ⟨_, h3, h2⟩
theorem Okk.go {H0 : Heap} {M : List Addr} {s s' : Shared} {p : Addr × Obj} (x : Okk s.heap p) (G : Go H0 M s s') (h : p.1 ∉ M) : Okk s'.heap p :=
  ⟨G.nd p.1 p.2 x.at_ h x.nd, x.nd, fun dx e => (x.dx dx e).go G⟩
theorem Okk.of {h : Heap} {a : Addr} {o : Obj} (e : h.get? a = some o) (n : Mine.nd o) (d : o.dict = none) : Okk h (a, o) := ⟨e, n, fun dx q => by rw [d] at q; cases q⟩

structure Cx (H0 : Heap) (A : Around) (l : List Env) (M : List Addr) (sE : Shared) (L : Addr) (m : Str → Option Value) (led : List (Addr × Obj)) (s : Shared) : Prop where
  st : St H0 A l s
  go : Go H0 M sE s
  ns : s.heap.Ns L m
  new : sE.heap.get? L = none
  top : H0.get? L = none
  has : ∀ p ∈ led, Okk s.heap p
  dn : ∀ p ∈ led, p.2.dict ≠ some L
  nodup : (led.map (·.1)).Nodup

section
variable {H0 : Heap} {A : Around} {l : List Env} {M M' : List Addr} {sE : Shared} {L : Addr} {m : Str → Option Value} {led : List (Addr × Obj)} {s s' : Shared}

theorem Cx.at (C : Cx H0 A l M sE L m led s) (i : Nat) {a : Addr} {o : Obj} (h : led[i]? = some (a, o)) : s.heap.get? a = some o := (C.has _ (List.mem_of_getElem? h)).at_
theorem Cx.ndAt (C : Cx H0 A l M sE L m led s) (i : Nat) {a : Addr} {o : Obj} (h : led[i]? = some (a, o)) : nd o := (C.has _ (List.mem_of_getElem? h)).nd
theorem Cx.ok (C : Cx H0 A l M sE L m led s) (i : Nat) {a : Addr} {o : Obj} (h : led[i]? = some (a, o)) : Okk s.heap (a, o) := C.has _ (List.mem_of_getElem? h)
theorem ns_dict {h : Heap} {L : Addr} {m : Str → Option Value} (n : h.Ns L m) : ∃ o es ep, h.get? L = some o ∧ o.data = .dict es ep := let ⟨o, es, ep, a, b, _⟩ := n; ⟨o, es, ep, a, b⟩

theorem Cx.goN (C : Cx H0 A l M sE L m led s) (G : Go H0 M' s s') (hM : ∀ p ∈ M', (p ∈ M ∨ sE.heap.get? p = none)) (led' : List (Addr × Obj)) (hl : ∀ p ∈ led', Okk s'.heap p) (hd : ∀ p ∈ led', p.2.dict ≠ some L) (hn : (led'.map (·.1)).Nodup) :
    Cx H0 A l M sE L m led' s' := by
  refine ⟨C.st.go G, C.go.step G hM, ?_, C.new, C.top, hl, hd, hn⟩
  obtain ⟨o, es, ep, h1, h2, r⟩ := C.ns
  obtain ⟨sl, h3⟩ := G.up L o es ep h1 h2
  exact ⟨_, es, ep, h3, h2, r⟩
theorem Cx.call (C : Cx H0 A l M sE L m led s) (G : Go H0 [] s s') : Cx H0 A l M sE L m led s' :=
  C.goN G (fun _ h => nomatch h) led (fun p hp => (C.has p hp).go G (fun h => nomatch h)) C.dn C.nodup
theorem Cx.ext (C : Cx H0 A l M sE L m led s) (hk : ∀ b o, s.heap.get? b = some o → s'.heap.get? b = some o) (ht : s.toks ≤ s'.toks) (hg : s'.gens = s.gens) (ho : s'.os = s.os) :
    Cx H0 A l M sE L m led s' := C.call (.ext hk ht hg ho _)
theorem Cx.tok (C : Cx H0 A l M sE L m led s) (k : Nat) : Cx H0 A l M sE L m led (tk s k) :=
  C.ext (fun _ _ h => h) (Nat.le_add_right _ _) rfl rfl
theorem Cx.lt (C : Cx H0 A l M sE L m led s) : ∀ p ∈ led, p.1 < s.heap.objs.size := fun p hp => Heap.lt_size (C.has p hp).at_
theorem Cx.add (C : Cx H0 A l M sE L m led s) {a : Addr} {o : Obj} (h : Okk s.heap (a, o)) (hd : ∀ p ∈ led, p.1 ≠ a) (hL : o.dict ≠ some L) : Cx H0 A l M sE L m ((a, o) :: led) s := by
  refine { C with has := fun p hp => ?_, dn := fun p hp => (List.mem_cons.mp hp).elim (fun e => by rw [e]; exact hL) (C.dn p), nodup := ?_ }
  · rcases List.mem_cons.mp hp with rfl | hp
    · exact h
    · exact C.has p hp
  · rw [List.map_cons]
    refine List.nodup_cons.mpr ⟨fun hm => ?_, C.nodup⟩
    obtain ⟨p, hp, e⟩ := List.mem_map.mp hm
    exact hd p hp e
theorem Cx.drop (C : Cx H0 A l M sE L m led s) (led' : List (Addr × Obj)) (h : led'.Sublist led) : Cx H0 A l M sE L m led' s :=
  { C with has := fun p hp => C.has p (h.subset hp), dn := fun p hp => C.dn p (h.subset hp), nodup := C.nodup.sublist (h.map _) }
theorem nodup_ne {led : List (Addr × Obj)} (hn : (led.map (·.1)).Nodup) {i j : Nat} {a b : Addr} {o o' : Obj} (h : led[i]? = some (a, o)) (h' : led[j]? = some (b, o')) (hij : i ≠ j) : a ≠ b := by
  intro e
  subst e
  have h1 : (led.map (·.1))[i]? = some a := by rw [List.getElem?_map, h]; rfl
  have h2 : (led.map (·.1))[j]? = some a := by rw [List.getElem?_map, h']; rfl
  obtain ⟨hi, h1⟩ := List.getElem?_eq_some_iff.mp h1
  obtain ⟨hj, h2⟩ := List.getElem?_eq_some_iff.mp h2
  rcases Nat.lt_or_gt_of_ne hij with q | q
  · exact List.pairwise_iff_getElem.mp hn i j hi hj q (h1.trans h2.symm)
  · exact List.pairwise_iff_getElem.mp hn j i hj hi q (h2.trans h1.symm)
theorem Cx.ne (C : Cx H0 A l M sE L m led s) {i j : Nat} {a b : Addr} {o o' : Obj} (h : led[i]? = some (a, o)) (h' : led[j]? = some (b, o')) (hij : i ≠ j := by decide) : a ≠ b := nodup_ne C.nodup h h' hij

theorem set_map_fst {led : List (Addr × Obj)} {i : Nat} {a : Addr} {o o' : Obj} (h : led[i]? = some (a, o)) : (led.set i (a, o')).map (·.1) = led.map (·.1) := by
  rw [List.map_set]
  apply List.ext_getElem?
  intro j
  rw [List.getElem?_set]
  split
  · rename_i e
    subst e
    obtain ⟨hi, h1⟩ := List.getElem?_eq_some_iff.mp h
    rw [List.getElem?_map, List.length_map, if_pos hi, List.getElem?_eq_getElem hi, h1]; rfl
  · rfl
theorem Cx.callAt (C : Cx H0 A l M sE L m led s) (i : Nat) {a : Addr} {o o' : Obj} (hi : led[i]? = some (a, o)) (G : Go H0 [a] s s') (ho : Okk s'.heap (a, o')) (hM : a ∈ M ∨ sE.heap.get? a = none) (hL : o'.dict ≠ some L) :
    Cx H0 A l M sE L m (led.set i (a, o')) s' := by
  refine C.goN G (fun p hp => by rw [List.mem_singleton.mp hp]; exact hM) _ (fun p hp => ?_) (fun p hp => (List.mem_or_eq_of_mem_set hp).elim (C.dn p) (fun e => by rw [e]; exact hL)) (by rw [set_map_fst hi]; exact C.nodup)
  obtain ⟨j, hj, e⟩ := List.mem_iff_getElem.mp hp
  have hj' : (led.set i (a, o'))[j]? = some p := by rw [List.getElem?_eq_getElem hj, e]
  rw [List.getElem?_set] at hj'
  split at hj'
  · split at hj'
    · cases hj'; exact ho
    · cases hj'
  · rename_i hij
    have hp' := C.has p (List.mem_of_getElem? hj')
    refine hp'.go G (fun q => ?_)
    obtain ⟨x, y⟩ := p
    exact nodup_ne C.nodup hi hj' hij (List.mem_singleton.mp q).symm

theorem Cx.turn (C : Cx H0 A l M sE L m led s) (G : Go H0 M' s s') (hM : ∀ p ∈ M', (p ∈ M ∨ sE.heap.get? p = none)) (led' : List (Addr × Obj)) (hs : led'.map (·.1) = led.map (·.1))
    (h : ∀ p ∈ led', (p ∈ led ∧ p.1 ∉ M') ∨ (Okk s'.heap p ∧ p.2.dict ≠ some L)) : Cx H0 A l M sE L m led' s' :=
  C.goN G hM led' (fun p hp => (h p hp).elim (fun q => (C.has p q.1).go G q.2) (·.1)) (fun p hp => (h p hp).elim (fun q => C.dn p q.1) (·.2)) (by rw [hs]; exact C.nodup)
theorem Go.upd {H0 : Heap} {s : Shared} {a : Addr} {f : Obj → Obj} (o : Obj) (ho : s.heap.get? a = some o) (hn : Mine.nd o) (hf : (f o).isFreed = false) (hn' : Mine.nd (f o)) (hH : H0.get? a = none) : Go H0 [a] s { s with heap := s.heap.update a f } := by
  refine ⟨fun h b ob e => ?_, fun b ob e hm _ => ?_, fun b ob es n e hd => ?_, fun b ob e hnb => ?_, Nat.le_refl _, fun h => h, rfl⟩
  · have : a ≠ b := fun q => by rw [← q, hH] at e; cases e
    exact (Heap.get?_update_other _ _ this).trans (h b ob e)
  · exact (Heap.get?_update_other _ _ (fun q => hm (List.mem_singleton.mpr q.symm))).trans e
  · have : a ≠ b := fun q => by rw [← q, ho] at e; cases e; exact hn es n hd
    exact ⟨ob.slots, (Heap.get?_update_other _ _ this).trans e⟩
  · by_cases q : a = b
    · subst q; rw [ho] at e; cases e
      exact ⟨f o, Heap.get?_update_self f ho hf, hn'⟩
    · exact ⟨ob, (Heap.get?_update_other _ _ q).trans e, hnb⟩
theorem Cx.upd (C : Cx H0 A l M sE L m led s) (i : Nat) {a : Addr} {o : Obj} {f : Obj → Obj} (hi : led[i]? = some (a, o)) (hf : (f o).isFreed = false) (hn : nd (f o)) (hd : (f o).dict = o.dict) (hM : a ∈ M ∨ sE.heap.get? a = none) (hH : H0.get? a = none) :
    Cx H0 A l M sE L m (led.set i (a, f o)) { s with heap := s.heap.update a f } :=
  have G : Go H0 [a] s { s with heap := s.heap.update a f } := .upd o (C.at i hi) (C.ndAt i hi) hf hn hH
  C.callAt i hi G ⟨by first | exact Heap.get?_update_self f (C.at i hi) hf | exact Heap.get?_update_self _ (C.at i hi) hf, hn, fun dx e => ((C.ok i hi).dx dx (hd ▸ e)).go G⟩ hM (by rw [hd]; exact C.dn _ (List.mem_of_getElem? hi))

structure Nw (H0 : Heap) (sE : Shared) (a : Addr) : Prop where
  e : sE.heap.get? a = none
  h : H0.get? a = none
theorem not_at {h : Heap} : h.get? h.objs.size = none := by
  cases q : h.get? h.objs.size with
  | none => rfl
  | some o => exact absurd (Heap.lt_size q) (Nat.lt_irrefl _)
theorem Cx.noE (C : Cx H0 A l M sE L m led s) {a : Addr} (h : s.heap.get? a = none) : Nw H0 sE a := by
  constructor
  · cases q : sE.heap.get? a with
    | none => rfl
    | some o => obtain ⟨o', z⟩ := C.go.there a o q; rw [h] at z; cases z
  · cases q : H0.get? a with
    | none => rfl
    | some o => have := C.st.glob a o q; rw [h] at this; cases this
end

section
variable {H0 : Heap} {A : Around} {l : List Env} {M : List Addr} {sE : Shared} {L : Addr} {m : Str → Option Value} {led : List (Addr × Obj)} {s : Shared} {MM : Model} {E : Value → Shared → Prop}

theorem Cx.store (C : Cx H0 A l M sE L m led s) {env : Env} {x : Str} {v : Value} {Q : Unit → Shared → Prop} (hL : env.locals = L)
    (h : ∀ s', Cx H0 A l M sE L (updM m x v) led s' → Q () s') (hl : env.kindOf x = some .local := by rfl)
    (hp : (env.scope.kind == .class || (env.scope.kind == .module && env.locals != env.globals)) = false := by rfl) : wpAny MM A (storeName env x v) Q E s := by
  subst hL
  refine wpAny_storeName_local hl C.ns (fun h' hn hs => h _ ?_) hp
  obtain ⟨oL, esL, epL, hoL, hdL⟩ := ns_dict C.ns
  obtain ⟨oL', esL', epL', hoL', hdL'⟩ := ns_dict hn
  have other : ∀ b o, b ≠ env.locals → s.heap.get? b = some o → h'.get? b = some o := fun b o hb e => (hs.2 b hb).trans e
  have neL : ∀ b o, s.heap.get? b = some o → nd o → b ≠ env.locals := fun b o e hn' q => by rw [q, hoL] at e; cases e; exact hn' _ _ hdL
  have eL : sE.heap.get? env.locals = none := C.new
  refine ⟨⟨fun b o e => other b o (fun q => by rw [q, C.top] at e; cases e) (C.st.glob b o e), C.st.frames, fun ev he => ?_, Nat.lt_succ_of_lt C.st.toks⟩, ?_, hn, C.new, C.top, fun p hp' => ⟨other _ _ (neL _ _ (C.has p hp').at_ (C.has p hp').nd) (C.has p hp').at_, (C.has p hp').nd, fun dx e => ?_⟩, C.dn, C.nodup⟩
  · obtain ⟨hk, L', o, es, n, h1, h2, h3, h4⟩ := C.st.fr ev he
    by_cases q : L' = env.locals
    · subst q
      exact ⟨hk, env.locals, oL', esL', epL', h1, h2, hoL', hdL'⟩
    · exact ⟨hk, L', o, es, n, h1, h2, other _ _ q h3, h4⟩
  · refine ⟨fun hg b o e => other b o (fun q => by rw [q, C.top] at e; cases e) (C.go.glob hg b o e), fun b o e hm hn' => ?_, fun b o es n e hd => ?_, fun b o e hn' => ?_, Nat.le_trans C.go.toks (Nat.le_succ _), C.go.gens, C.go.os⟩
    · exact other b o (fun q => by rw [q, eL] at e; cases e) (C.go.nd b o e hm hn')
    · obtain ⟨sl, h1⟩ := C.go.up b o es n e hd
      exact ⟨sl, other b _ (fun q => by rw [q, eL] at e; cases e) h1⟩
    · obtain ⟨o', h1, h2⟩ := C.go.pres b o e hn'
      exact ⟨o', other b _ (fun q => by rw [q, eL] at e; cases e) h1, h2⟩
  · obtain ⟨o, h1, h2⟩ := (C.has p hp').dx dx e
    exact ⟨o, other _ _ (fun q => C.dn p hp' (by rw [e, q])) h1, h2⟩

theorem Cx.ld (C : Cx H0 A l M sE L m led s) {env : Env} {x : Str} {v : Value} {Q : Value → Shared → Prop} (hL : env.locals = L) (hv : m x = some v) (h : Q v s)
    (hk : env.scope.kind = .function := by rfl) (hl : env.kindOf x = some .local := by rfl) : wpAny MM A (loadName env x) Q E s := by
  subst hL
  exact wpAny_loadName_local hk hl C.ns hv h

theorem Cx.push (C : Cx H0 A l M sE L m led s) (o : Obj) (hf : o.isFreed = false) (hn : nd o) (hd : o.dict = none) : Cx H0 A l M sE L m ((s.heap.objs.size, o) :: led) { s with heap := s.heap.push o } :=
  (C.ext (s' := { s with heap := s.heap.push o }) (fun _ _ e => Heap.get?_push_of_some _ e) (Nat.le_refl _) rfl rfl).add (.of (Heap.get?_push_size _ hf) hn hd)
    (fun p hp => Nat.ne_of_lt (C.lt p hp)) (by rw [hd]; exact fun q => by cases q)

theorem nd_seq {c : Value} {d : Option Addr} {xs : Array Value} {n : Nat} {sl : Array (Option Value)} : nd ⟨c, d, .seq xs n, sl⟩ := fun _ _ h => by cases h
theorem nd_fields {c : Value} {d : Option Addr} {xs : Array Value} {sl : Array (Option Value)} : nd ⟨c, d, .fields xs, sl⟩ := fun _ _ h => by cases h
theorem nd_plain {c : Value} {d : Option Addr} {sl : Array (Option Value)} : nd ⟨c, d, .plain, sl⟩ := fun _ _ h => by cases h
theorem nd_cell {c : Value} {d : Option Addr} {v : Option Value} {sl : Array (Option Value)} : nd ⟨c, d, .cell v, sl⟩ := fun _ _ h => by cases h
noncomputable abbrev tupO (vs : List Value) : Obj := { cls := .type "tuple", data := .seq vs.toArray }
noncomputable abbrev lstO (vs : List Value) (n : Nat := 0) : Obj := { cls := .type "list", data := .seq vs.toArray n }

theorem Cx.newTuple (C : Cx H0 A l M sE L m led s) {vs : List Value} {Q : Value → Shared → Prop} (h : ∀ a s', Cx H0 A l M sE L m ((a, tupO vs) :: led) s' → Nw H0 sE a → s.heap.get? a = none → Q (.ref a) s')
    (hsz : vs.length ≤ sizeLine) : wpAny MM A (newTuple vs) Q E s :=
  wpAny_newObj_type (h _ _ (C.push _ rfl nd_seq rfl) (C.noE not_at) not_at) (by show vs.toArray.size ≤ sizeLine; rw [List.size_toArray]; exact hsz)
end

section
variable {H0 : Heap} {A : Around} {l : List Env} {s : Shared} {prog : Program} {w : World}
theorem enter {R : Result → Shared → Prop} {f : Addr} {o : Obj} {fd : FuncData} {body : List Stmt} {args : Args} {binds : List (Str × Value)} (S : St H0 A l s) (M : List Addr) (led : List (Addr × Obj)) (hled : ∀ p ∈ led, Okk s.heap p) (hnod : (led.map (·.1)).Nodup)
    (hroom : A.depth < recursionLimit) (ho : s.heap.get? f = some o) (hdata : o.data = .func fd) (hlim : s.heap.NoLimit) (hcd : s.heap.CodeRec fd.code fd.qualname)
    (hbody : fd.body = .stmts body) (hbind : BindsTo s fd args binds) (hcell : ∀ x ∈ fd.scope.names, x.2 ≠ .cell) (hloc : ∀ x ∈ binds, fd.scope.names.lookup x.1 = some .local)
    (h : ∀ L s', L = s.heap.objs.size → Cx H0 (A.deeper (callEnv fd L f)) (callEnv fd L f :: l) M s L (fun x => binds.reverse.lookup x) led s' →
      wpAny (model prog w) (A.deeper (callEnv fd L f)) (execs body (callEnv fd L f)) (qRet R)
        (eOut prog w (A.deeper (callEnv fd L f)) (callEnv fd L f) R) s')
    (hco : fd.scope.isCoroutine = false := by rfl) (hgen : fd.scope.isGenerator = false := by rfl) (hk : fd.scope.kind = .function := by rfl) :
    codeAny (model prog w) A (.call (.ref f) args) R s := by
  refine codeAny_call_def hroom ho hdata hlim hcd hbody hbind hcell hloc (fun h₀ hns hk₀ => ?_) hco hgen hk
  have hH : H0.get? s.heap.objs.size = none := by
    cases q : H0.get? s.heap.objs.size with
    | none => rfl
    | some o => exact absurd (Heap.lt_size (S.glob _ _ q)) (Nat.lt_irrefl _)
  refine h _ _ rfl ⟨⟨fun b o e => hk₀ b o (S.glob b o e), by show (Around.deeper A _).frames = _; unfold Around.deeper; rw [S.frames]; rfl, fun env he => ?_, Nat.lt_of_lt_of_le S.toks (Nat.le_add_right _ _)⟩, Go.ext (s := s) (s' := { s with heap := h₀, toks := s.toks + binds.length }) hk₀ (Nat.le_add_right _ _) rfl rfl _, hns, not_at, hH, fun p hp => ⟨hk₀ _ _ (hled p hp).at_, (hled p hp).nd, fun dx e => ?_⟩, fun p hp q => ?_, hnod⟩
  rcases List.mem_cons.mp he with rfl | he
  · obtain ⟨oL, es, n, h1, h2⟩ := ns_dict hns
    exact ⟨by show fd.scope.kind ≠ _; rw [hk]; decide, _, oL, es, n, rfl, hH, h1, h2⟩
  · obtain ⟨hk', L', o', es, n, h1, h2, h3, h4⟩ := S.fr env he
    exact ⟨hk', L', o', es, n, h1, h2, hk₀ _ _ h3, h4⟩
  · obtain ⟨o, h1, h2⟩ := (hled p hp).dx dx e
    exact ⟨o, hk₀ _ _ h1, h2⟩
  · obtain ⟨o, h1, h2⟩ := (hled p hp).dx _ q
    rw [not_at] at h1; cases h1
end
end Mine
end
section
set_option autoImplicit false
namespace Mine
open PySem
noncomputable abbrev PW : Program := PySem.Challenge.pw_kq0026_02
noncomputable def stAt (n : Nat) : Stmt := PW.main.body.getD n (.Pass default)
noncomputable def fnP : Stmt → Arguments × List Stmt × Scope
  | .FunctionDef _ a b _ _ _ sc _ _ _ => (a, b, sc)
  | _ => default
noncomputable def clsB : Stmt → List Stmt
  | .ClassDef _ _ _ b _ _ _ _ _ _ _ => b
  | _ => []
noncomputable abbrev D (n : Nat) := fnP (stAt n)
noncomputable abbrev DM (c i : Nat) := fnP ((clsB (stAt c)).getD i (.Pass default))
noncomputable abbrev dPull := D 7
noncomputable abbrev dSame := D 8
noncomputable abbrev dGbInit := DM 9 1
noncomputable abbrev dGbIter := DM 9 2
noncomputable abbrev dGbStep := DM 9 3
noncomputable abbrev dGbNext := DM 9 4
noncomputable abbrev dGrInit := DM 10 1
noncomputable abbrev dGrIter := DM 10 2
noncomputable abbrev dGrNext := DM 10 3
noncomputable abbrev dKind := D 11
noncomputable abbrev dCtInit := DM 12 1
noncomputable abbrev dCtIter := DM 12 2
noncomputable abbrev dCtNext := DM 12 3
noncomputable abbrev dIgInit := DM 14 1
noncomputable abbrev dIgCall := DM 14 2
noncomputable abbrev dRank := D 16
noncomputable abbrev dSqrt := D 17
noncomputable abbrev dCorr := D 18
noncomputable abbrev dNear := D 20
noncomputable abbrev dPlac := D 21
noncomputable abbrev dTold := D 22
noncomputable abbrev dHold := D 23
noncomputable abbrev dLaw := D 24
end Mine
end
section
set_option maxRecDepth 100000
set_option autoImplicit false
namespace Mine
open PySem PySem.W

section
variable {tb : String → Option Builtin} {p : Program} {w : World} {n₀ : Nat} {ann : Option Value}
noncomputable def impT (tb : String → Option Builtin) (p : Program) (w : World) : Nat → SharedT → Thread → Option SharedT
  | 0, _, _ => none
  | n + 1, s, t => match t.atExitBegin with
    | some [] => some s
    | some (_ :: _) => none
    | none => match stepT (denote tb) p w s t with
      | some (s', t') => impT tb p w n s' t'
      | none => none
theorem impT_of : ∀ {n : Nat} {s s' : SharedT} {t : Thread}, impT tb p w n s t = some s' → importEnds tb p w n s.abs t = some s'.abs
  | 0, _, _, _, h => by cases h
  | n + 1, s, s', t, h => by
    unfold impT at h
    unfold importEnds
    cases he : t.atExitBegin with
    | some l => rw [he] at h; cases l <;> cases h; rfl
    | none =>
      rw [he] at h
      cases hs : stepT (denote tb) p w s t with
      | none => rw [hs] at h; cases h
      | some r => obtain ⟨s₂, t₂⟩ := r; rw [hs] at h; rw [stepT_spec hs]; exact impT_of h
noncomputable def topT (tb : String → Option Builtin) (p : Program) (w : World) (n₀ : Nat) (ann : Option Value) : Nat → SharedT → Thread → Option SharedT
  | 0, _, _ => none
  | n + 1, s, t => match through t with
    | true => some s
    | false => match stepOk n₀ ann t with
      | false => none
      | true => match stepT (denote tb) p w s t with
        | some (s', t') => topT tb p w n₀ ann n s' t'
        | none => none
theorem topT_of : ∀ {n : Nat} {s s' : SharedT} {t : Thread}, topT tb p w n₀ ann n s t = some s' → topRun tb p w n₀ ann n s.abs t = some s'.abs
  | 0, _, _, _, h => by cases h
  | n + 1, s, s', t, h => by
    unfold topT at h
    unfold topRun
    cases he : through t with
    | true => rw [he] at h; cases h; rfl
    | false =>
      rw [he] at h
      cases hk : stepOk n₀ ann t with
      | false => rw [hk] at h; cases h
      | true =>
        rw [hk] at h
        cases hs : stepT (denote tb) p w s t with
        | none => rw [hs] at h; cases h
        | some r => obtain ⟨s₂, t₂⟩ := r; rw [hs] at h; rw [stepT_spec hs]; exact topT_of h
noncomputable def insAll : BT → Nat → List Obj → Option (BT × Nat)
  | t, n, [] => some (t, n)
  | t, n, o :: l => match ((t.ins n o).get n).isSome with
    | true => insAll (t.ins n o) (n + 1) l
    | false => none
theorem insAll_of {life : Life} : ∀ {l : List Obj} {t t' : BT} {n n' : Nat}, insAll t n l = some (t', n') → absHeap t' n' life = ⟨(absHeap t n life).objs ++ l.toArray, life⟩
  | [], t, t', n, n', h => by cases h; show absHeap t n life = Heap.mk (_ ++ #[]) life; rw [Array.append_empty]; rfl
  | o :: l, t, t', n, n', h => by
    unfold insAll at h
    cases hs : ((t.ins n o).get n).isSome with
    | false => rw [hs] at h; cases h
    | true =>
      rw [hs] at h
      rw [insAll_of h, absHeap_ins hs]
      show Heap.mk ((absHeap t n life).objs.push o ++ _) _ = _
      congr 1
      apply Array.toList_inj.mp
      simp
noncomputable def ofS (s : Shared) : Option SharedT := (insAll .nil 0 s.heap.objs.toList).map fun r => ⟨r.1, r.2, s.heap.life, s.gens, s.drawn, s.toks, s.os⟩
theorem ofS_of {s : Shared} {r : SharedT} (h : ofS s = some r) : r.abs = s := by
  unfold ofS at h
  obtain ⟨⟨t, n⟩, h1, rfl⟩ := Option.map_eq_some_iff.mp h
  have := insAll_of (life := s.heap.life) h1
  obtain ⟨⟨⟨os⟩, life⟩, g, d, k, o⟩ := s
  show Shared.mk (absHeap t n life) g d k o = _
  rw [this]
  show Shared.mk (Heap.mk (#[] ++ _) _) _ _ _ _ = _
  rw [Array.empty_append]
noncomputable def endsT (p : Program) (w : World) (N : Nat) : Option SharedT :=
  (impT treeTable (opening p) w N ⟨.nil, 0, {}, #[], {}, (start (opening p)).1.toks, (start (opening p)).1.os⟩ (start (opening p)).2).bind fun sT =>
    (fenceModules? p sT.abs).bind fun s₀ => (ofS s₀).bind fun s₀T => match s₀.heap.isNs mainGlobals && s₀.gens.size == 0 with
      | true => (topT treeTable p w s₀.heap.objs.size (s₀.heap.nsMap mainGlobals "__annotations__") N s₀T (topStub p)).bind fun s₁ =>
        match staticsOk (importedModules p.main.body) s₀.heap s₁.abs.heap && namesBound p s₁.abs.heap && gensDone s₁.abs && laidKept s₀.heap s₁.abs.heap with
        | true => some s₁
        | false => none
      | false => none
theorem endsT_of {p : Program} {w : World} {N : Nat} {r : SharedT} (h : endsT p w N = some r) : openEnds treeTable p w N = some r.abs := by
  unfold endsT at h
  obtain ⟨sT, h1, h⟩ := Option.bind_eq_some_iff.mp h
  obtain ⟨s₀, h2, h⟩ := Option.bind_eq_some_iff.mp h
  obtain ⟨s₀T, h3, h⟩ := Option.bind_eq_some_iff.mp h
  have e1 := impT_of h1
  have e3 := ofS_of h3
  unfold openEnds fencedOpening
  rw [show importEnds treeTable (opening p) w N (start (opening p)).1 (start (opening p)).2 = some sT.abs from e1]
  show ((fenceModules? p sT.abs).bind _) = _
  rw [h2]
  show topFrom treeTable p w N s₀ = _
  unfold topFrom
  cases hg : (s₀.heap.isNs mainGlobals && s₀.gens.size == 0) with
  | false => rw [hg] at h; cases h
  | true =>
    rw [hg] at h
    obtain ⟨s₁, h4, h⟩ := Option.bind_eq_some_iff.mp h
    have e4 := topT_of h4
    rw [e3] at e4
    show (topRun treeTable p w s₀.heap.objs.size _ N s₀ (topStub p)).bind _ = _
    rw [e4]
    show (match _ with | true => _ | false => _) = _
    cases hk : (staticsOk (importedModules p.main.body) s₀.heap s₁.abs.heap && namesBound p s₁.abs.heap && gensDone s₁.abs && laidKept s₀.heap s₁.abs.heap) with
    | false => rw [hk] at h; cases h
    | true => rw [hk] at h; cases h; rfl
theorem left_of_T {p q : Program} {loose : List Str} {Xt : Shared → Bool} {α : Type} {Yf : Shared → α} {Ya : World → α} {N : Nat} {g0 : Bool}
    (h : ∀ w, (endsT p w N).map (fun s => (openSeen q loose (importedModules p.main.body) Xt g0 s.abs, Yf s.abs)) = some (openGood q loose, Ya w)) : LeftO p q loose Xt Yf Ya N g0 := fun w => by
  obtain ⟨r, h1, h2⟩ := Option.map_eq_some_iff.mp (h w)
  rw [endsT_of h1]
  exact congrArg some h2
end
end Mine
end
section
set_option maxRecDepth 100000
set_option autoImplicit false
namespace Mine
open PySem PySem.W PySem.W.X

noncomputable def vS (s : Str) (t : Tok) : Value := .str s t
noncomputable def dE (P : Params) (l : List (String × Tok × Value)) : Array DictEntry := (l.map fun p => ⟨PyData.keyHash P (Str.ofString p.1), .str (Str.ofString p.1) p.2.1, p.2.2⟩).toArray
noncomputable def rf (a : Nat) : Value := .ref a
noncomputable def nI (z t : Nat) : Value := .int (Int.ofNat z) t
noncomputable def kH (P : Params) : Frag := [
  (nat_lit 2, ⟨.none, none, (.dict (dE P [("\x69mport.loaded.math", nat_lit 189, (.bool true)), ("class._frozen_importlib_external._LoaderBasics", nat_lit 194, (rf (nat_lit 16))), ("watched.\x69mport", nat_lit 210, (rf (nat_lit 20))), ("class._frozen_importlib_external.FileLoader", nat_lit 211, (rf (nat_lit 22))), ("class._frozen_importlib_external.ExtensionFileLoader", nat_lit 232, (rf (nat_lit 27))), ("class._frozen_importlib.ModuleSpec", nat_lit 260, (rf (nat_lit 33))), ("sys.modules.booked-epoch", nat_lit 289, (nI (nat_lit 3) (nat_lit 0))), ("\x69mport.later-laid.math", nat_lit 365, (.bool true)), ("watched.library", nat_lit 367, (rf (nat_lit 38))), ("watched.library-objects", nat_lit 0, (vS "\x0d" (nat_lit 0)))]) 10), #[]⟩),
  (nat_lit 3, ⟨(.type "dict"), none, (.dict (dE P [("__name__", nat_lit 165, (vS "law_kq0026_02" (nat_lit 770))), ("__doc__", nat_lit 166, .none), ("__package__", nat_lit 167, .none), ("__loader__", nat_lit 168, (.builtin "__main__.__loader__#opaque")), ("__spec__", nat_lit 169, .none), ("__annotations__", nat_lit 170, (rf (nat_lit 6))), ("__builtins__", nat_lit 171, (rf (nat_lit 4))), ("__file__", nat_lit 173, (vS "/claim/cut.py" (nat_lit 172))), ("__cached__", nat_lit 174, .none), ("fsum", nat_lit 373, (.builtin "math.fsum")), ("isfinite", nat_lit 376, (.builtin "math.isfinite")), ("isinf", nat_lit 379, (.builtin "math.isinf")), ("sqrt", nat_lit 382, (.builtin "math.sqrt")), ("sumprod", nat_lit 385, (.builtin "math.sumprod")), ("_wall", nat_lit 398, (rf (nat_lit 49))), ("StatisticsError", nat_lit 418, (rf (nat_lit 59))), ("_MAXSIZE", nat_lit 422, (nI (nat_lit 9223372036854775807) (nat_lit 421))), ("_is_int", nat_lit 430, (rf (nat_lit 69))), ("_pull", nat_lit 437, (rf (nat_lit 76))), ("_same", nat_lit 445, (rf (nat_lit 83))), ("groupby", nat_lit 536, (rf (nat_lit 124))), ("_grouper", nat_lit 590, (rf (nat_lit 169))), ("_count_kind", nat_lit 598, (rf (nat_lit 181))), ("count", nat_lit 663, (rf (nat_lit 222))), ("itemgetter", nat_lit 721, (rf (nat_lit 267))), ("_rank", nat_lit 750, (rf (nat_lit 278))), ("_sqrtprod", nat_lit 761, (rf (nat_lit 285))), ("correlation", nat_lit 769, (rf (nat_lit 291))), ("_law_is_nearest", nat_lit 782, (rf (nat_lit 298))), ("_law_places", nat_lit 788, (rf (nat_lit 303))), ("_law_told", nat_lit 798, (rf (nat_lit 310))), ("_law_holds", nat_lit 804, (rf (nat_lit 315))), ("law", nat_lit 810, (rf (nat_lit 320)))]) 33), #[]⟩),
  (nat_lit 58, ⟨(.type "dict"), none, (.dict (dE P [("__module__", nat_lit 408, (vS "cpy313.statistics" (nat_lit 399))), ("__firstlineno__", nat_lit 412, (nI (nat_lit 6) (nat_lit 411))), ("__static_attributes__", nat_lit 413, (rf (nat_lit 57))), ("__weakref__", nat_lit 415, (rf (nat_lit 60))), ("__doc__", nat_lit 416, .none)]) 3), #[]⟩),
  (nat_lit 59, ⟨(.type "type"), none, (.cls { name := "StatisticsError", bases := [(.type "ValueError")], mro := [(rf (nat_lit 59)), (.type "ValueError"), (.type "Exception"), (.type "BaseException"), (.type "object")], ns := 58, qualname := "StatisticsError", hasDict := true, slotNames := [], subclasses := [], abstract := false, collection := none, hasDel := false }), #[(some (rf (nat_lit 50))), none, (some (vS "StatisticsError" (nat_lit 401))), (some (vS "StatisticsError" (nat_lit 409))), (some (.builtin "ValueError.__new__")), (some (.bool true))]⟩),
  (nat_lit 75, ⟨(.type "code"), none, (.fields #[(vS "_pull" (nat_lit 431)), (vS "_pull" (nat_lit 432)), (vS "/claim/cut.py" (nat_lit 433)), (nI (nat_lit 13) (nat_lit 0)), (nI (nat_lit 1) (nat_lit 0)), (nI (nat_lit 0) (nat_lit 0)), (nI (nat_lit 0) (nat_lit 0)), (nI (nat_lit 3) (nat_lit 0)), (rf (nat_lit 70)), (.bool true), (nI (nat_lit 386) (nat_lit 0)), (rf (nat_lit 71)), .none, (rf (nat_lit 72)), (rf (nat_lit 73)), (rf (nat_lit 74)), (nI (nat_lit 435) (nat_lit 0)), (nI (nat_lit 13) (nat_lit 0)), (vS "/claim/cut.py" (nat_lit 436))]), #[]⟩),
  (nat_lit 76, ⟨(.type "function"), none, (.func (fnOf "_pull" "_pull" dPull.1 dPull.2.1 dPull.2.2 .none .none .none (vS "itertools" (nat_lit 419)) none (rf (nat_lit 75)) .none)), #[]⟩),
  (nat_lit 82, ⟨(.type "code"), none, (.fields #[(vS "_same" (nat_lit 438)), (vS "_same" (nat_lit 439)), (vS "/claim/cut.py" (nat_lit 440)), (nI (nat_lit 18) (nat_lit 0)), (nI (nat_lit 2) (nat_lit 0)), (nI (nat_lit 0) (nat_lit 0)), (nI (nat_lit 0) (nat_lit 0)), (nI (nat_lit 3) (nat_lit 0)), (rf (nat_lit 77)), (.bool true), (nI (nat_lit 386) (nat_lit 0)), (rf (nat_lit 78)), .none, (rf (nat_lit 79)), (rf (nat_lit 80)), (rf (nat_lit 81)), (nI (nat_lit 443) (nat_lit 0)), (nI (nat_lit 18) (nat_lit 0)), (vS "/claim/cut.py" (nat_lit 444))]), #[]⟩),
  (nat_lit 83, ⟨(.type "function"), none, (.func (fnOf "_same" "_same" dSame.1 dSame.2.1 dSame.2.2 .none .none .none (vS "itertools" (nat_lit 419)) none (rf (nat_lit 82)) .none)), #[]⟩),
  (nat_lit 92, ⟨(.type "tuple"), none, (.seq #[.none] 0), #[]⟩),
  (nat_lit 98, ⟨(.type "code"), none, (.fields #[(vS "__init__" (nat_lit 469)), (vS "groupby.__init__" (nat_lit 470)), (vS "/claim/cut.py" (nat_lit 471)), (nI (nat_lit 27) (nat_lit 0)), (nI (nat_lit 3) (nat_lit 0)), (nI (nat_lit 0) (nat_lit 0)), (nI (nat_lit 0) (nat_lit 0)), (nI (nat_lit 3) (nat_lit 0)), (rf (nat_lit 93)), (.bool true), (nI (nat_lit 386) (nat_lit 0)), (rf (nat_lit 94)), .none, (rf (nat_lit 95)), (rf (nat_lit 96)), (rf (nat_lit 97)), (nI (nat_lit 475) (nat_lit 0)), (nI (nat_lit 27) (nat_lit 0)), (vS "/claim/cut.py" (nat_lit 476))]), #[]⟩),
  (nat_lit 99, ⟨(.type "function"), none, (.func (fnOf "__init__" "groupby.__init__" dGbInit.1 dGbInit.2.1 dGbInit.2.2 (rf (nat_lit 92)) .none .none (vS "itertools" (nat_lit 419)) none (rf (nat_lit 98)) .none)), #[]⟩),
  (nat_lit 105, ⟨(.type "code"), none, (.fields #[(vS "__iter__" (nat_lit 478)), (vS "groupby.__iter__" (nat_lit 479)), (vS "/claim/cut.py" (nat_lit 480)), (nI (nat_lit 39) (nat_lit 0)), (nI (nat_lit 1) (nat_lit 0)), (nI (nat_lit 0) (nat_lit 0)), (nI (nat_lit 0) (nat_lit 0)), (nI (nat_lit 3) (nat_lit 0)), (rf (nat_lit 100)), (.bool true), (nI (nat_lit 386) (nat_lit 0)), (rf (nat_lit 101)), .none, (rf (nat_lit 102)), (rf (nat_lit 103)), (rf (nat_lit 104)), (nI (nat_lit 482) (nat_lit 0)), (nI (nat_lit 39) (nat_lit 0)), (vS "/claim/cut.py" (nat_lit 483))]), #[]⟩),
  (nat_lit 106, ⟨(.type "function"), none, (.func (fnOf "__iter__" "groupby.__iter__" dGbIter.1 dGbIter.2.1 dGbIter.2.2 .none .none .none (vS "itertools" (nat_lit 419)) none (rf (nat_lit 105)) .none)), #[]⟩),
  (nat_lit 112, ⟨(.type "code"), none, (.fields #[(vS "_step" (nat_lit 485)), (vS "groupby._step" (nat_lit 486)), (vS "/claim/cut.py" (nat_lit 487)), (nI (nat_lit 42) (nat_lit 0)), (nI (nat_lit 1) (nat_lit 0)), (nI (nat_lit 0) (nat_lit 0)), (nI (nat_lit 0) (nat_lit 0)), (nI (nat_lit 3) (nat_lit 0)), (rf (nat_lit 107)), (.bool true), (nI (nat_lit 386) (nat_lit 0)), (rf (nat_lit 108)), .none, (rf (nat_lit 109)), (rf (nat_lit 110)), (rf (nat_lit 111)), (nI (nat_lit 492) (nat_lit 0)), (nI (nat_lit 42) (nat_lit 0)), (vS "/claim/cut.py" (nat_lit 493))]), #[]⟩),
  (nat_lit 113, ⟨(.type "function"), none, (.func (fnOf "_step" "groupby._step" dGbStep.1 dGbStep.2.1 dGbStep.2.2 .none .none .none (vS "itertools" (nat_lit 419)) none (rf (nat_lit 112)) .none)), #[]⟩),
  (nat_lit 119, ⟨(.type "code"), none, (.fields #[(vS "__next__" (nat_lit 495)), (vS "groupby.__next__" (nat_lit 496)), (vS "/claim/cut.py" (nat_lit 497)), (nI (nat_lit 55) (nat_lit 0)), (nI (nat_lit 1) (nat_lit 0)), (nI (nat_lit 0) (nat_lit 0)), (nI (nat_lit 0) (nat_lit 0)), (nI (nat_lit 3) (nat_lit 0)), (rf (nat_lit 114)), (.bool true), (nI (nat_lit 386) (nat_lit 0)), (rf (nat_lit 115)), .none, (rf (nat_lit 116)), (rf (nat_lit 117)), (rf (nat_lit 118)), (nI (nat_lit 500) (nat_lit 0)), (nI (nat_lit 55) (nat_lit 0)), (vS "/claim/cut.py" (nat_lit 501))]), #[]⟩),
  (nat_lit 120, ⟨(.type "function"), none, (.func (fnOf "__next__" "groupby.__next__" dGbNext.1 dGbNext.2.1 dGbNext.2.2 .none .none .none (vS "itertools" (nat_lit 419)) none (rf (nat_lit 119)) .none)), #[]⟩),
  (nat_lit 123, ⟨(.type "dict"), none, (.dict (dE P [("__module__", nat_lit 453, (vS "itertools" (nat_lit 419))), ("__firstlineno__", nat_lit 457, (nI (nat_lit 24) (nat_lit 456))), ("__slots__", nat_lit 468, (rf (nat_lit 91))), ("__init__", nat_lit 477, (rf (nat_lit 99))), ("__iter__", nat_lit 484, (rf (nat_lit 106))), ("_step", nat_lit 494, (rf (nat_lit 113))), ("__next__", nat_lit 502, (rf (nat_lit 120))), ("__static_attributes__", nat_lit 513, (rf (nat_lit 121))), ("_currgrouper", nat_lit 515, (rf (nat_lit 125))), ("_currkey", nat_lit 517, (rf (nat_lit 126))), ("_currvalue", nat_lit 519, (rf (nat_lit 127))), ("_has_currkey", nat_lit 521, (rf (nat_lit 128))), ("_has_currvalue", nat_lit 523, (rf (nat_lit 129))), ("_has_tgtkey", nat_lit 525, (rf (nat_lit 130))), ("_it", nat_lit 527, (rf (nat_lit 131))), ("_keyfunc", nat_lit 529, (rf (nat_lit 132))), ("_serial", nat_lit 531, (rf (nat_lit 133))), ("_tgtkey", nat_lit 533, (rf (nat_lit 134))), ("__doc__", nat_lit 534, .none)]) 12), #[]⟩),
  (nat_lit 124, ⟨(.type "type"), none, (.cls { name := "groupby", bases := [(.type "object")], mro := [(rf (nat_lit 124)), (.type "object")], ns := 123, qualname := "groupby", hasDict := false, slotNames := ["_currgrouper", "_currkey", "_currvalue", "_has_currkey", "_has_currvalue", "_has_tgtkey", "_it", "_keyfunc", "_serial", "_tgtkey"], subclasses := [], abstract := false, collection := none, hasDel := false }), #[none, none, (some (vS "groupby" (nat_lit 446))), (some (vS "groupby" (nat_lit 454))), (some (.builtin "object.__new__")), (some (.bool false))]⟩),
  (nat_lit 125, ⟨(.type "member_descriptor"), none, (.fields #[(vS "_currgrouper" (nat_lit 514)), (rf (nat_lit 124)), (.builtin "proto.slot"), (.builtin "proto.slot#set"), (nI (nat_lit 9) (nat_lit 0))]), #[]⟩),
  (nat_lit 126, ⟨(.type "member_descriptor"), none, (.fields #[(vS "_currkey" (nat_lit 516)), (rf (nat_lit 124)), (.builtin "proto.slot"), (.builtin "proto.slot#set"), (nI (nat_lit 8) (nat_lit 0))]), #[]⟩),
  (nat_lit 127, ⟨(.type "member_descriptor"), none, (.fields #[(vS "_currvalue" (nat_lit 518)), (rf (nat_lit 124)), (.builtin "proto.slot"), (.builtin "proto.slot#set"), (nI (nat_lit 7) (nat_lit 0))]), #[]⟩),
  (nat_lit 128, ⟨(.type "member_descriptor"), none, (.fields #[(vS "_has_currkey" (nat_lit 520)), (rf (nat_lit 124)), (.builtin "proto.slot"), (.builtin "proto.slot#set"), (nI (nat_lit 6) (nat_lit 0))]), #[]⟩),
  (nat_lit 129, ⟨(.type "member_descriptor"), none, (.fields #[(vS "_has_currvalue" (nat_lit 522)), (rf (nat_lit 124)), (.builtin "proto.slot"), (.builtin "proto.slot#set"), (nI (nat_lit 5) (nat_lit 0))]), #[]⟩),
  (nat_lit 130, ⟨(.type "member_descriptor"), none, (.fields #[(vS "_has_tgtkey" (nat_lit 524)), (rf (nat_lit 124)), (.builtin "proto.slot"), (.builtin "proto.slot#set"), (nI (nat_lit 4) (nat_lit 0))]), #[]⟩),
  (nat_lit 131, ⟨(.type "member_descriptor"), none, (.fields #[(vS "_it" (nat_lit 526)), (rf (nat_lit 124)), (.builtin "proto.slot"), (.builtin "proto.slot#set"), (nI (nat_lit 3) (nat_lit 0))]), #[]⟩),
  (nat_lit 132, ⟨(.type "member_descriptor"), none, (.fields #[(vS "_keyfunc" (nat_lit 528)), (rf (nat_lit 124)), (.builtin "proto.slot"), (.builtin "proto.slot#set"), (nI (nat_lit 2) (nat_lit 0))]), #[]⟩),
  (nat_lit 133, ⟨(.type "member_descriptor"), none, (.fields #[(vS "_serial" (nat_lit 530)), (rf (nat_lit 124)), (.builtin "proto.slot"), (.builtin "proto.slot#set"), (nI (nat_lit 1) (nat_lit 0))]), #[]⟩),
  (nat_lit 134, ⟨(.type "member_descriptor"), none, (.fields #[(vS "_tgtkey" (nat_lit 532)), (rf (nat_lit 124)), (.builtin "proto.slot"), (.builtin "proto.slot#set"), (nI (nat_lit 0) (nat_lit 0))]), #[]⟩),
  (nat_lit 150, ⟨(.type "code"), none, (.fields #[(vS "__init__" (nat_lit 553)), (vS "_grouper.__init__" (nat_lit 554)), (vS "/claim/cut.py" (nat_lit 555)), (nI (nat_lit 71) (nat_lit 0)), (nI (nat_lit 3) (nat_lit 0)), (nI (nat_lit 3) (nat_lit 0)), (nI (nat_lit 0) (nat_lit 0)), (nI (nat_lit 3) (nat_lit 0)), (rf (nat_lit 145)), (.bool true), (nI (nat_lit 386) (nat_lit 0)), (rf (nat_lit 146)), .none, (rf (nat_lit 147)), (rf (nat_lit 148)), (rf (nat_lit 149)), (nI (nat_lit 559) (nat_lit 0)), (nI (nat_lit 71) (nat_lit 0)), (vS "/claim/cut.py" (nat_lit 560))]), #[]⟩),
  (nat_lit 151, ⟨(.type "function"), none, (.func (fnOf "__init__" "_grouper.__init__" dGrInit.1 dGrInit.2.1 dGrInit.2.2 .none .none .none (vS "itertools" (nat_lit 419)) none (rf (nat_lit 150)) .none)), #[]⟩),
  (nat_lit 157, ⟨(.type "code"), none, (.fields #[(vS "__iter__" (nat_lit 562)), (vS "_grouper.__iter__" (nat_lit 563)), (vS "/claim/cut.py" (nat_lit 564)), (nI (nat_lit 80) (nat_lit 0)), (nI (nat_lit 1) (nat_lit 0)), (nI (nat_lit 0) (nat_lit 0)), (nI (nat_lit 0) (nat_lit 0)), (nI (nat_lit 3) (nat_lit 0)), (rf (nat_lit 152)), (.bool true), (nI (nat_lit 386) (nat_lit 0)), (rf (nat_lit 153)), .none, (rf (nat_lit 154)), (rf (nat_lit 155)), (rf (nat_lit 156)), (nI (nat_lit 566) (nat_lit 0)), (nI (nat_lit 80) (nat_lit 0)), (vS "/claim/cut.py" (nat_lit 567))]), #[]⟩),
  (nat_lit 158, ⟨(.type "function"), none, (.func (fnOf "__iter__" "_grouper.__iter__" dGrIter.1 dGrIter.2.1 dGrIter.2.2 .none .none .none (vS "itertools" (nat_lit 419)) none (rf (nat_lit 157)) .none)), #[]⟩),
  (nat_lit 164, ⟨(.type "code"), none, (.fields #[(vS "__next__" (nat_lit 569)), (vS "_grouper.__next__" (nat_lit 570)), (vS "/claim/cut.py" (nat_lit 571)), (nI (nat_lit 83) (nat_lit 0)), (nI (nat_lit 1) (nat_lit 0)), (nI (nat_lit 0) (nat_lit 0)), (nI (nat_lit 0) (nat_lit 0)), (nI (nat_lit 3) (nat_lit 0)), (rf (nat_lit 159)), (.bool true), (nI (nat_lit 386) (nat_lit 0)), (rf (nat_lit 160)), .none, (rf (nat_lit 161)), (rf (nat_lit 162)), (rf (nat_lit 163)), (nI (nat_lit 575) (nat_lit 0)), (nI (nat_lit 83) (nat_lit 0)), (vS "/claim/cut.py" (nat_lit 576))]), #[]⟩),
  (nat_lit 165, ⟨(.type "function"), none, (.func (fnOf "__next__" "_grouper.__next__" dGrNext.1 dGrNext.2.1 dGrNext.2.2 .none .none .none (vS "itertools" (nat_lit 419)) none (rf (nat_lit 164)) .none)), #[]⟩),
  (nat_lit 168, ⟨(.type "dict"), none, (.dict (dE P [("__module__", nat_lit 544, (vS "itertools" (nat_lit 419))), ("__firstlineno__", nat_lit 548, (nI (nat_lit 68) (nat_lit 547))), ("__slots__", nat_lit 552, (rf (nat_lit 144))), ("__init__", nat_lit 561, (rf (nat_lit 151))), ("__iter__", nat_lit 568, (rf (nat_lit 158))), ("__next__", nat_lit 577, (rf (nat_lit 165))), ("__static_attributes__", nat_lit 581, (rf (nat_lit 166))), ("_number", nat_lit 583, (rf (nat_lit 170))), ("_parent", nat_lit 585, (rf (nat_lit 171))), ("_tgtkey", nat_lit 587, (rf (nat_lit 172))), ("__doc__", nat_lit 588, .none)]) 5), #[]⟩),
  (nat_lit 169, ⟨(.type "type"), none, (.cls { name := "_grouper", bases := [(.type "object")], mro := [(rf (nat_lit 169)), (.type "object")], ns := 168, qualname := "_grouper", hasDict := false, slotNames := ["_number", "_parent", "_tgtkey"], subclasses := [], abstract := false, collection := none, hasDel := false }), #[none, none, (some (vS "_grouper" (nat_lit 537))), (some (vS "_grouper" (nat_lit 545))), (some (.builtin "object.__new__")), (some (.bool false))]⟩),
  (nat_lit 170, ⟨(.type "member_descriptor"), none, (.fields #[(vS "_number" (nat_lit 582)), (rf (nat_lit 169)), (.builtin "proto.slot"), (.builtin "proto.slot#set"), (nI (nat_lit 2) (nat_lit 0))]), #[]⟩),
  (nat_lit 171, ⟨(.type "member_descriptor"), none, (.fields #[(vS "_parent" (nat_lit 584)), (rf (nat_lit 169)), (.builtin "proto.slot"), (.builtin "proto.slot#set"), (nI (nat_lit 1) (nat_lit 0))]), #[]⟩),
  (nat_lit 172, ⟨(.type "member_descriptor"), none, (.fields #[(vS "_tgtkey" (nat_lit 586)), (rf (nat_lit 169)), (.builtin "proto.slot"), (.builtin "proto.slot#set"), (nI (nat_lit 0) (nat_lit 0))]), #[]⟩),
  (nat_lit 180, ⟨(.type "code"), none, (.fields #[(vS "_count_kind" (nat_lit 591)), (vS "_count_kind" (nat_lit 592)), (vS "/claim/cut.py" (nat_lit 593)), (nI (nat_lit 97) (nat_lit 0)), (nI (nat_lit 1) (nat_lit 0)), (nI (nat_lit 0) (nat_lit 0)), (nI (nat_lit 0) (nat_lit 0)), (nI (nat_lit 3) (nat_lit 0)), (rf (nat_lit 175)), (.bool true), (nI (nat_lit 386) (nat_lit 0)), (rf (nat_lit 176)), .none, (rf (nat_lit 177)), (rf (nat_lit 178)), (rf (nat_lit 179)), (nI (nat_lit 596) (nat_lit 0)), (nI (nat_lit 97) (nat_lit 0)), (vS "/claim/cut.py" (nat_lit 597))]), #[]⟩),
  (nat_lit 181, ⟨(.type "function"), none, (.func (fnOf "_count_kind" "_count_kind" dKind.1 dKind.2.1 dKind.2.2 .none .none .none (vS "itertools" (nat_lit 419)) none (rf (nat_lit 180)) .none)), #[]⟩),
  (nat_lit 190, ⟨(.type "tuple"), none, (.seq #[(nI (nat_lit 0) (nat_lit 615)), (nI (nat_lit 1) (nat_lit 616))] 0), #[]⟩),
  (nat_lit 196, ⟨(.type "code"), none, (.fields #[(vS "__init__" (nat_lit 617)), (vS "count.__init__" (nat_lit 618)), (vS "/claim/cut.py" (nat_lit 619)), (nI (nat_lit 109) (nat_lit 0)), (nI (nat_lit 3) (nat_lit 0)), (nI (nat_lit 0) (nat_lit 0)), (nI (nat_lit 0) (nat_lit 0)), (nI (nat_lit 3) (nat_lit 0)), (rf (nat_lit 191)), (.bool true), (nI (nat_lit 386) (nat_lit 0)), (rf (nat_lit 192)), .none, (rf (nat_lit 193)), (rf (nat_lit 194)), (rf (nat_lit 195)), (nI (nat_lit 626) (nat_lit 0)), (nI (nat_lit 109) (nat_lit 0)), (vS "/claim/cut.py" (nat_lit 627))]), #[]⟩),
  (nat_lit 197, ⟨(.type "function"), none, (.func (fnOf "__init__" "count.__init__" dCtInit.1 dCtInit.2.1 dCtInit.2.2 (rf (nat_lit 190)) .none .none (vS "itertools" (nat_lit 419)) none (rf (nat_lit 196)) .none)), #[]⟩),
  (nat_lit 203, ⟨(.type "code"), none, (.fields #[(vS "__iter__" (nat_lit 629)), (vS "count.__iter__" (nat_lit 630)), (vS "/claim/cut.py" (nat_lit 631)), (nI (nat_lit 121) (nat_lit 0)), (nI (nat_lit 1) (nat_lit 0)), (nI (nat_lit 0) (nat_lit 0)), (nI (nat_lit 0) (nat_lit 0)), (nI (nat_lit 3) (nat_lit 0)), (rf (nat_lit 198)), (.bool true), (nI (nat_lit 386) (nat_lit 0)), (rf (nat_lit 199)), .none, (rf (nat_lit 200)), (rf (nat_lit 201)), (rf (nat_lit 202)), (nI (nat_lit 633) (nat_lit 0)), (nI (nat_lit 121) (nat_lit 0)), (vS "/claim/cut.py" (nat_lit 634))]), #[]⟩),
  (nat_lit 204, ⟨(.type "function"), none, (.func (fnOf "__iter__" "count.__iter__" dCtIter.1 dCtIter.2.1 dCtIter.2.2 .none .none .none (vS "itertools" (nat_lit 419)) none (rf (nat_lit 203)) .none)), #[]⟩),
  (nat_lit 210, ⟨(.type "code"), none, (.fields #[(vS "__next__" (nat_lit 636)), (vS "count.__next__" (nat_lit 637)), (vS "/claim/cut.py" (nat_lit 638)), (nI (nat_lit 124) (nat_lit 0)), (nI (nat_lit 1) (nat_lit 0)), (nI (nat_lit 0) (nat_lit 0)), (nI (nat_lit 0) (nat_lit 0)), (nI (nat_lit 3) (nat_lit 0)), (rf (nat_lit 205)), (.bool true), (nI (nat_lit 386) (nat_lit 0)), (rf (nat_lit 206)), .none, (rf (nat_lit 207)), (rf (nat_lit 208)), (rf (nat_lit 209)), (nI (nat_lit 641) (nat_lit 0)), (nI (nat_lit 124) (nat_lit 0)), (vS "/claim/cut.py" (nat_lit 642))]), #[]⟩),
  (nat_lit 211, ⟨(.type "function"), none, (.func (fnOf "__next__" "count.__next__" dCtNext.1 dCtNext.2.1 dCtNext.2.2 .none .none .none (vS "itertools" (nat_lit 419)) none (rf (nat_lit 210)) .none)), #[]⟩),
  (nat_lit 221, ⟨(.type "dict"), none, (.dict (dE P [("__module__", nat_lit 606, (vS "itertools" (nat_lit 419))), ("__firstlineno__", nat_lit 610, (nI (nat_lit 106) (nat_lit 609))), ("__slots__", nat_lit 614, (rf (nat_lit 189))), ("__init__", nat_lit 628, (rf (nat_lit 197))), ("__iter__", nat_lit 635, (rf (nat_lit 204))), ("__next__", nat_lit 643, (rf (nat_lit 211))), ("__repr__", nat_lit 650, (rf (nat_lit 218))), ("__static_attributes__", nat_lit 654, (rf (nat_lit 219))), ("_cnt", nat_lit 656, (rf (nat_lit 223))), ("_fast", nat_lit 658, (rf (nat_lit 224))), ("_step", nat_lit 660, (rf (nat_lit 225))), ("__doc__", nat_lit 661, .none)]) 5), #[]⟩),
  (nat_lit 222, ⟨(.type "type"), none, (.cls { name := "count", bases := [(.type "object")], mro := [(rf (nat_lit 222)), (.type "object")], ns := 221, qualname := "count", hasDict := false, slotNames := ["_cnt", "_fast", "_step"], subclasses := [], abstract := false, collection := none, hasDel := false }), #[none, none, (some (vS "count" (nat_lit 599))), (some (vS "count" (nat_lit 607))), (some (.builtin "object.__new__")), (some (.bool false))]⟩),
  (nat_lit 223, ⟨(.type "member_descriptor"), none, (.fields #[(vS "_cnt" (nat_lit 655)), (rf (nat_lit 222)), (.builtin "proto.slot"), (.builtin "proto.slot#set"), (nI (nat_lit 2) (nat_lit 0))]), #[]⟩),
  (nat_lit 224, ⟨(.type "member_descriptor"), none, (.fields #[(vS "_fast" (nat_lit 657)), (rf (nat_lit 222)), (.builtin "proto.slot"), (.builtin "proto.slot#set"), (nI (nat_lit 1) (nat_lit 0))]), #[]⟩),
  (nat_lit 225, ⟨(.type "member_descriptor"), none, (.fields #[(vS "_step" (nat_lit 659)), (rf (nat_lit 222)), (.builtin "proto.slot"), (.builtin "proto.slot#set"), (nI (nat_lit 0) (nat_lit 0))]), #[]⟩),
  (nat_lit 241, ⟨(.type "code"), none, (.fields #[(vS "__init__" (nat_lit 680)), (vS "itemgetter.__init__" (nat_lit 681)), (vS "/claim/cut.py" (nat_lit 682)), (nI (nat_lit 137) (nat_lit 0)), (nI (nat_lit 2) (nat_lit 0)), (nI (nat_lit 2) (nat_lit 0)), (nI (nat_lit 0) (nat_lit 0)), (nI (nat_lit 7) (nat_lit 0)), (rf (nat_lit 236)), (.bool true), (nI (nat_lit 386) (nat_lit 0)), (rf (nat_lit 237)), .none, (rf (nat_lit 238)), (rf (nat_lit 239)), (rf (nat_lit 240)), (nI (nat_lit 686) (nat_lit 0)), (nI (nat_lit 137) (nat_lit 0)), (vS "/claim/cut.py" (nat_lit 687))]), #[]⟩),
  (nat_lit 242, ⟨(.type "function"), none, (.func (fnOf "__init__" "itemgetter.__init__" dIgInit.1 dIgInit.2.1 dIgInit.2.2 .none .none .none (vS "operator" (nat_lit 664)) none (rf (nat_lit 241)) .none)), #[]⟩),
  (nat_lit 248, ⟨(.type "code"), none, (.fields #[(vS "__call__" (nat_lit 689)), (vS "itemgetter.__call__" (nat_lit 690)), (vS "/claim/cut.py" (nat_lit 691)), (nI (nat_lit 140) (nat_lit 0)), (nI (nat_lit 2) (nat_lit 0)), (nI (nat_lit 2) (nat_lit 0)), (nI (nat_lit 0) (nat_lit 0)), (nI (nat_lit 3) (nat_lit 0)), (rf (nat_lit 243)), (.bool true), (nI (nat_lit 386) (nat_lit 0)), (rf (nat_lit 244)), .none, (rf (nat_lit 245)), (rf (nat_lit 246)), (rf (nat_lit 247)), (nI (nat_lit 697) (nat_lit 0)), (nI (nat_lit 140) (nat_lit 0)), (vS "/claim/cut.py" (nat_lit 698))]), #[]⟩),
  (nat_lit 249, ⟨(.type "function"), none, (.func (fnOf "__call__" "itemgetter.__call__" dIgCall.1 dIgCall.2.1 dIgCall.2.2 .none .none .none (vS "operator" (nat_lit 664)) none (rf (nat_lit 248)) .none)), #[]⟩),
  (nat_lit 266, ⟨(.type "dict"), none, (.dict (dE P [("__module__", nat_lit 673, (vS "operator" (nat_lit 664))), ("__firstlineno__", nat_lit 677, (nI (nat_lit 134) (nat_lit 676))), ("__slots__", nat_lit 679, (rf (nat_lit 235))), ("__init__", nat_lit 688, (rf (nat_lit 242))), ("__call__", nat_lit 699, (rf (nat_lit 249))), ("__repr__", nat_lit 707, (rf (nat_lit 256))), ("__reduce__", nat_lit 714, (rf (nat_lit 263))), ("__static_attributes__", nat_lit 716, (rf (nat_lit 264))), ("_items", nat_lit 718, (rf (nat_lit 268))), ("__doc__", nat_lit 719, .none)]) 3), #[]⟩),
  (nat_lit 267, ⟨(.type "type"), none, (.cls { name := "itemgetter", bases := [(.type "object")], mro := [(rf (nat_lit 267)), (.type "object")], ns := 266, qualname := "itemgetter", hasDict := false, slotNames := ["_items"], subclasses := [], abstract := false, collection := none, hasDel := false }), #[none, none, (some (vS "itemgetter" (nat_lit 666))), (some (vS "itemgetter" (nat_lit 674))), (some (.builtin "object.__new__")), (some (.bool false))]⟩),
  (nat_lit 268, ⟨(.type "member_descriptor"), none, (.fields #[(vS "_items" (nat_lit 717)), (rf (nat_lit 267)), (.builtin "proto.slot"), (.builtin "proto.slot#set"), (nI (nat_lit 0) (nat_lit 0))]), #[]⟩),
  (nat_lit 271, ⟨(.type "dict"), none, (.dict (dE P [("key", nat_lit 726, .none), ("reverse", nat_lit 727, (.bool false)), ("ties", nat_lit 728, (vS "average" (nat_lit 724))), ("start", nat_lit 729, (nI (nat_lit 1) (nat_lit 725)))]) 4), #[]⟩),
  (nat_lit 277, ⟨(.type "code"), none, (.fields #[(vS "_rank" (nat_lit 730)), (vS "_rank" (nat_lit 731)), (vS "/claim/cut.py" (nat_lit 732)), (nI (nat_lit 160) (nat_lit 0)), (nI (nat_lit 1) (nat_lit 0)), (nI (nat_lit 1) (nat_lit 0)), (nI (nat_lit 4) (nat_lit 0)), (nI (nat_lit 3) (nat_lit 0)), (rf (nat_lit 272)), (.bool true), (nI (nat_lit 386) (nat_lit 0)), (rf (nat_lit 273)), .none, (rf (nat_lit 274)), (rf (nat_lit 275)), (rf (nat_lit 276)), (nI (nat_lit 748) (nat_lit 0)), (nI (nat_lit 160) (nat_lit 0)), (vS "/claim/cut.py" (nat_lit 749))]), #[]⟩),
  (nat_lit 278, ⟨(.type "function"), none, (.func (fnOf "_rank" "_rank" dRank.1 dRank.2.1 dRank.2.2 .none (rf (nat_lit 271)) .none (vS "cpy313.statistics" (nat_lit 722)) none (rf (nat_lit 277)) .none)), #[]⟩),
  (nat_lit 284, ⟨(.type "code"), none, (.fields #[(vS "_sqrtprod" (nat_lit 751)), (vS "_sqrtprod" (nat_lit 752)), (vS "/claim/cut.py" (nat_lit 753)), (nI (nat_lit 176) (nat_lit 0)), (nI (nat_lit 2) (nat_lit 0)), (nI (nat_lit 0) (nat_lit 0)), (nI (nat_lit 0) (nat_lit 0)), (nI (nat_lit 3) (nat_lit 0)), (rf (nat_lit 279)), (.bool true), (nI (nat_lit 386) (nat_lit 0)), (rf (nat_lit 280)), .none, (rf (nat_lit 281)), (rf (nat_lit 282)), (rf (nat_lit 283)), (nI (nat_lit 759) (nat_lit 0)), (nI (nat_lit 176) (nat_lit 0)), (vS "/claim/cut.py" (nat_lit 760))]), #[]⟩),
  (nat_lit 285, ⟨(.type "function"), none, (.func (fnOf "_sqrtprod" "_sqrtprod" dSqrt.1 dSqrt.2.1 dSqrt.2.2 .none .none .none (vS "cpy313.statistics" (nat_lit 722)) none (rf (nat_lit 284)) .none)), #[]⟩),
  (nat_lit 286, ⟨(.type "dict"), none, (.dict (dE P [("method", nat_lit 763, (vS "linear" (nat_lit 762)))]) 1), #[]⟩),
  (nat_lit 290, ⟨(.type "code"), none, (.fields #[(vS "correlation" (nat_lit 764)), (vS "correlation" (nat_lit 765)), (vS "/claim/cut.py" (nat_lit 766)), (nI (nat_lit 190) (nat_lit 0)), (nI (nat_lit 2) (nat_lit 0)), (nI (nat_lit 2) (nat_lit 0)), (nI (nat_lit 1) (nat_lit 0)), (nI (nat_lit 3) (nat_lit 0)), (rf (nat_lit 287)), (.bool true), (nI (nat_lit 386) (nat_lit 0)), (rf (nat_lit 288)), .none, .none, .none, (rf (nat_lit 289)), (nI (nat_lit 767) (nat_lit 0)), (nI (nat_lit 190) (nat_lit 0)), (vS "/claim/cut.py" (nat_lit 768))]), #[]⟩),
  (nat_lit 291, ⟨(.type "function"), none, (.func (fnOf "correlation" "correlation" dCorr.1 dCorr.2.1 dCorr.2.2 .none (rf (nat_lit 286)) .none (vS "cpy313.statistics" (nat_lit 722)) none (rf (nat_lit 290)) .none)), #[]⟩),
  (nat_lit 297, ⟨(.type "code"), none, (.fields #[(vS "_law_is_nearest" (nat_lit 772)), (vS "_law_is_nearest" (nat_lit 773)), (vS "/claim/cut.py" (nat_lit 774)), (nI (nat_lit 215) (nat_lit 0)), (nI (nat_lit 3) (nat_lit 0)), (nI (nat_lit 0) (nat_lit 0)), (nI (nat_lit 0) (nat_lit 0)), (nI (nat_lit 3) (nat_lit 0)), (rf (nat_lit 292)), (.bool true), (nI (nat_lit 386) (nat_lit 0)), (rf (nat_lit 293)), .none, (rf (nat_lit 294)), (rf (nat_lit 295)), (rf (nat_lit 296)), (nI (nat_lit 780) (nat_lit 0)), (nI (nat_lit 215) (nat_lit 0)), (vS "/claim/cut.py" (nat_lit 781))]), #[]⟩),
  (nat_lit 298, ⟨(.type "function"), none, (.func (fnOf "_law_is_nearest" "_law_is_nearest" dNear.1 dNear.2.1 dNear.2.2 .none .none .none (vS "law_kq0026_02" (nat_lit 770)) none (rf (nat_lit 297)) .none)), #[]⟩),
  (nat_lit 302, ⟨(.type "code"), none, (.fields #[(vS "_law_places" (nat_lit 783)), (vS "_law_places" (nat_lit 784)), (vS "/claim/cut.py" (nat_lit 785)), (nI (nat_lit 218) (nat_lit 0)), (nI (nat_lit 1) (nat_lit 0)), (nI (nat_lit 0) (nat_lit 0)), (nI (nat_lit 0) (nat_lit 0)), (nI (nat_lit 3) (nat_lit 0)), (rf (nat_lit 299)), (.bool true), (nI (nat_lit 386) (nat_lit 0)), (rf (nat_lit 300)), .none, .none, .none, (rf (nat_lit 301)), (nI (nat_lit 786) (nat_lit 0)), (nI (nat_lit 218) (nat_lit 0)), (vS "/claim/cut.py" (nat_lit 787))]), #[]⟩),
  (nat_lit 303, ⟨(.type "function"), none, (.func (fnOf "_law_places" "_law_places" dPlac.1 dPlac.2.1 dPlac.2.2 .none .none .none (vS "law_kq0026_02" (nat_lit 770)) none (rf (nat_lit 302)) .none)), #[]⟩),
  (nat_lit 309, ⟨(.type "code"), none, (.fields #[(vS "_law_told" (nat_lit 789)), (vS "_law_told" (nat_lit 790)), (vS "/claim/cut.py" (nat_lit 791)), (nI (nat_lit 220) (nat_lit 0)), (nI (nat_lit 3) (nat_lit 0)), (nI (nat_lit 0) (nat_lit 0)), (nI (nat_lit 0) (nat_lit 0)), (nI (nat_lit 3) (nat_lit 0)), (rf (nat_lit 304)), (.bool true), (nI (nat_lit 386) (nat_lit 0)), (rf (nat_lit 305)), .none, (rf (nat_lit 306)), (rf (nat_lit 307)), (rf (nat_lit 308)), (nI (nat_lit 796) (nat_lit 0)), (nI (nat_lit 220) (nat_lit 0)), (vS "/claim/cut.py" (nat_lit 797))]), #[]⟩),
  (nat_lit 310, ⟨(.type "function"), none, (.func (fnOf "_law_told" "_law_told" dTold.1 dTold.2.1 dTold.2.2 .none .none .none (vS "law_kq0026_02" (nat_lit 770)) none (rf (nat_lit 309)) .none)), #[]⟩),
  (nat_lit 314, ⟨(.type "code"), none, (.fields #[(vS "_law_holds" (nat_lit 799)), (vS "_law_holds" (nat_lit 800)), (vS "/claim/cut.py" (nat_lit 801)), (nI (nat_lit 225) (nat_lit 0)), (nI (nat_lit 2) (nat_lit 0)), (nI (nat_lit 0) (nat_lit 0)), (nI (nat_lit 0) (nat_lit 0)), (nI (nat_lit 3) (nat_lit 0)), (rf (nat_lit 311)), (.bool true), (nI (nat_lit 386) (nat_lit 0)), (rf (nat_lit 312)), .none, .none, .none, (rf (nat_lit 313)), (nI (nat_lit 802) (nat_lit 0)), (nI (nat_lit 225) (nat_lit 0)), (vS "/claim/cut.py" (nat_lit 803))]), #[]⟩),
  (nat_lit 315, ⟨(.type "function"), none, (.func (fnOf "_law_holds" "_law_holds" dHold.1 dHold.2.1 dHold.2.2 .none .none .none (vS "law_kq0026_02" (nat_lit 770)) none (rf (nat_lit 314)) .none)), #[]⟩),
  (nat_lit 319, ⟨(.type "code"), none, (.fields #[(vS "law" (nat_lit 805)), (vS "law" (nat_lit 806)), (vS "/claim/cut.py" (nat_lit 807)), (nI (nat_lit 250) (nat_lit 0)), (nI (nat_lit 1) (nat_lit 0)), (nI (nat_lit 0) (nat_lit 0)), (nI (nat_lit 0) (nat_lit 0)), (nI (nat_lit 3) (nat_lit 0)), (rf (nat_lit 316)), (.bool true), (nI (nat_lit 386) (nat_lit 0)), (rf (nat_lit 317)), .none, .none, .none, (rf (nat_lit 318)), (nI (nat_lit 808) (nat_lit 0)), (nI (nat_lit 250) (nat_lit 0)), (vS "/claim/cut.py" (nat_lit 809))]), #[]⟩),
  (nat_lit 320, ⟨(.type "function"), none, (.func (fnOf "law" "law" dLaw.1 dLaw.2.1 dLaw.2.2 .none .none .none (vS "law_kq0026_02" (nat_lit 770)) none (rf (nat_lit 319)) .none)), #[]⟩)]
noncomputable def aH : List Addr := [2, 3, 58, 59, 75, 76, 82, 83, 92, 98, 99, 105, 106, 112, 113, 119, 120, 123, 124, 125, 126, 127, 128, 129, 130, 131, 132, 133, 134, 150, 151, 157, 158, 164, 165, 168, 169, 170, 171, 172, 180, 181, 190, 196, 197, 203, 204, 210, 211, 221, 222, 223, 224, 225, 241, 242, 248, 249, 266, 267, 268, 271, 277, 278, 284, 285, 286, 290, 291, 297, 298, 302, 303, 309, 310, 314, 315, 319, 320]
noncomputable def vw : Program := { PW with main := { PW.main with body := [stAt 24] } }
noncomputable def lsH : List Str := ["fsum", "isfinite", "isinf", "sqrt", "sumprod", "_wall", "StatisticsError", "_MAXSIZE", "_is_int", "_pull", "_same", "groupby", "_grouper", "_count_kind", "count", "itemgetter", "_rank", "_sqrtprod", "correlation", "_law_is_nearest", "_law_places", "_law_told", "_law_holds"]
theorem left : LeftO PW vw lsH (fun s => xlAt vw [] s && recOk PySem.Challenge.rw_kq0026_02.row.records s) (obsZ aH) (valZ kH 321 811) 4384 := left_of_T fun w => by kernel_rfl
end Mine
end
section
set_option maxRecDepth 100000
set_option autoImplicit false
set_option genInjectivity false
set_option genSizeOf false
namespace Mine
open PySem PySem.W PySem.Calls PyProof.Rows PySem.Spec

structure Gl (K : Frag) (H0 : Heap) (mg mb : Str → Option Value) : Prop where
  X : K.In H0
  g : H0.Ns mainGlobals mg
  b : H0.Ns builtinsNs mb
  boot : ∀ x : Str, x ≠ "__name__" → mb x = bootBuiltins x
  lim : H0.NoLimit
  nob : NoneBooked H0

structure FnK (K : Frag) (f : Addr) (qual : Str) (d : Arguments × List Stmt × Scope) (dV kV : Value) : Prop where
  ex : ∃ name doc pm an cdv ct oc od osl, K.lookup f = some ⟨oc, od, .func (fnOf name qual d.1 d.2.1 d.2.2 dV kV doc pm an cdv ct), osl⟩ ∧ codeIn K cdv qual = true

section
variable {K : Frag} {H0 : Heap} {mg mb : Str → Option Value} {A : Around} {l : List Env} {M : List Addr} {sE : Shared} {L : Addr} {m : Str → Option Value} {led : List (Addr × Obj)} {s : Shared} {prog : Program} {w : World} {E : Value → Shared → Prop}
theorem St.X (S : St H0 A l s) (G : Gl K H0 mg mb) : K.In s.heap := fun a o e => S.glob a o (G.X a o e)
theorem St.lim (S : St H0 A l s) (G : Gl K H0 mg mb) : s.heap.NoLimit := G.lim.keeps S.glob
theorem St.nob (S : St H0 A l s) (G : Gl K H0 mg mb) : NoneBooked s.heap := let ⟨mc, a, b⟩ := G.nob; ⟨mc, a.keeps S.glob, b⟩

theorem enterF {R : Result → Shared → Prop} {f : Addr} {qual : Str} {d : Arguments × List Stmt × Scope} {dV kV : Value} {args : Args} {binds : List (Str × Value)} (G : Gl K H0 mg mb) (S : St H0 A l s) (fk : FnK K f qual d dV kV) (M : List Addr) (led : List (Addr × Obj)) (hled : ∀ p ∈ led, Okk s.heap p) (hnod : (led.map (·.1)).Nodup)
    (hroom : A.depth < recursionLimit) (hbind : ∀ name doc pm an cdv ct, BindsTo s (fnOf name qual d.1 d.2.1 d.2.2 dV kV doc pm an cdv ct) args binds)
    (hcell : ∀ x ∈ d.2.2.names, x.2 ≠ .cell) (hloc : ∀ x ∈ binds, d.2.2.names.lookup x.1 = some .local)
    (h : ∀ L cdv s', L = s.heap.objs.size → Cx H0 (A.deeper (envOf qual d.2.2 L f cdv)) (envOf qual d.2.2 L f cdv :: l) M s L (fun x => binds.reverse.lookup x) led s' →
      wpAny (model prog w) (A.deeper (envOf qual d.2.2 L f cdv)) (execs d.2.1 (envOf qual d.2.2 L f cdv)) (qRet R)
        (eOut prog w (A.deeper (envOf qual d.2.2 L f cdv)) (envOf qual d.2.2 L f cdv) R) s')
    (hco : d.2.2.isCoroutine = false := by rfl) (hgen : d.2.2.isGenerator = false := by rfl) (hk : d.2.2.kind = .function := by rfl) :
    codeAny (model prog w) A (.call (.ref f) args) R s := by
  obtain ⟨name, doc, pm, an, cdv, ct, oc, od, osl, ho, hcd⟩ := fk.ex
  exact enter (fd := fnOf name qual d.1 d.2.1 d.2.2 dV kV doc pm an cdv ct) S M led hled hnod hroom (S.X G _ _ ho) rfl (S.lim G) (codeRec_of (S.X G) hcd) rfl (hbind _ _ _ _ _ _) hcell hloc (fun L s' e C => h L cdv s' e C) hco hgen hk

variable {cn : Str} {cs : Scope} {a : Addr} {cdv : Value}
theorem Cx.global (C : Cx H0 A l M sE L m led s) (G : Gl K H0 mg mb) {x : Str} {pos : Pos} {v : Value} {Q : Value → Shared → Prop} (e : nsIn K mainGlobals x = some (some v)) (h : Q v s)
    (hk : cs.kind = .function := by rfl) (hx : cs.names.lookup x = some .globalImplicit := by rfl) (hd : (x == ("__debug__" : Str)) = false := by decide) : wpAny (model prog w) A (eval (.Name x pos) (envOf cn cs L a cdv)) Q E s :=
  Name_function_global hk hx (loadGlobal_global (env := envOf cn cs L a cdv) (G.g.keeps C.st.glob) (mg_of G.X G.g e) h) hd
theorem Cx.boot (C : Cx H0 A l M sE L m led s) (G : Gl K H0 mg mb) {x : Str} {pos : Pos} {v : Value} {Q : Value → Shared → Prop} (e : nsIn K mainGlobals x = some none) (hv : bootBuiltins x = some v) (h : Q v s) (hn : x ≠ "__name__" := by decide)
    (hk : cs.kind = .function := by rfl) (hx : cs.names.lookup x = some .globalImplicit := by rfl) (hd : (x == ("__debug__" : Str)) = false := by decide) : wpAny (model prog w) A (eval (.Name x pos) (envOf cn cs L a cdv)) Q E s :=
  Name_function_global hk hx (loadGlobal_builtin (env := envOf cn cs L a cdv) (G.g.keeps C.st.glob) (mg_none_of G.X G.g e) (G.b.keeps C.st.glob) ((G.boot x hn).trans hv) h) hd
theorem Cx.name (C : Cx H0 A l M sE L m led s) {x : Str} {pos : Pos} {v : Value} {Q : Value → Shared → Prop} (hv : m x = some v) (h : Q v s)
    (hk : cs.kind = .function := by rfl) (hl : cs.names.lookup x = some .local := by rfl) (hd : (x == ("__debug__" : Str)) = false := by decide) : wpAny (model prog w) A (eval (.Name x pos) (envOf cn cs L a cdv)) Q E s :=
  wpAny_Name (C.ld (env := envOf cn cs L a cdv) rfl hv h hk hl) hd
theorem Cx.set (C : Cx H0 A l M sE L m led s) {x : Str} {v : Value} {Q : Unit → Shared → Prop} (h : ∀ s', Cx H0 A l M sE L (updM m x v) led s' → Q () s')
    (hl : cs.names.lookup x = some .local := by rfl) (hp : (cs.kind == .class || (cs.kind == .module && L != mainGlobals)) = false := by rfl) : wpAny (model prog w) A (storeName (envOf cn cs L a cdv) x v) Q E s :=
  C.store (env := envOf cn cs L a cdv) rfl h hl hp
end

noncomputable def tokOf : Value → Tok
  | .int _ t | .float _ t | .str _ t | .bytes _ t => t
  | _ => 0

structure KeyOps where
  P : Value → Prop
  lt : Value → Value → Bool
  eq : Value → Value → Bool
  ty : Value
  eq_iff : ∀ x y, P x → P y → (eq x y = true ↔ (lt x y = false ∧ lt y x = false))
  irrefl : ∀ x, P x → lt x x = false
  trans : ∀ x y z, P x → P y → P z → lt x y = true → lt y z = true → lt x z = true
  neg : ∀ x y z, P x → P y → P z → lt x z = true → lt x y = true ∨ lt y z = true
  hty : ∀ (M : Model) (h : Heap) x, P x → Looks M h (typeOf x) ty
  nty : ty ≠ .type "tuple"
  hd : ∀ x, P x → handedIn x = true
  eqR : ∀ (prog : Program) (w : World) (A : Around) (E : Value → Shared → Prop) (s : Shared) (x y : Value) (Q : Bool → Shared → Prop), NoneBooked s.heap → P x → P y → tokOf x ≠ 0 → tokOf y ≠ 0 → (tokOf x = tokOf y → eq x y = true) → Q (eq x y) s → wpAny (model prog w) A (eqBool x y) Q E s
  ltR : ∀ (prog : Program) (w : World) (A : Around) (E : Value → Shared → Prop) (s : Shared) (b : Bool) (x y : Value) (Q : Bool → Shared → Prop), P x → P y → Q (lt x y) s → wpAny (model prog w) A (oneLt' b x y) Q E s
  cmpR : ∀ (prog : Program) (w : World) (A : Around) (E : Value → Shared → Prop) (s : Shared) (x y : Value) (Q : Value → Shared → Prop), P x → P y → Q (.bool (eq x y)) s → wpAny (model prog w) A (compareOp .Eq x y) Q E s
  isR : ∀ (prog : Program) (w : World) (A : Around) (E : Value → Shared → Prop) (s : Shared) (x y : Value) (Q : Value → Shared → Prop), NoneBooked s.heap → P x → P y → tokOf x ≠ 0 → tokOf y ≠ 0 → (tokOf x = tokOf y → eq x y = true) →
    (∀ r, (r = true → eq x y = true) → Q (.bool r) s) → wpAny (model prog w) A (compareOp .Is x y) Q E s

structure KeyL (κ : KeyOps) (ks : List Value) : Prop where
  all : ∀ x ∈ ks, κ.P x ∧ tokOf x ≠ 0
  tok : ∀ x ∈ ks, ∀ y ∈ ks, tokOf x = tokOf y → κ.eq x y = true

section
variable {prog : Program} {w : World} {A : Around} {E : Value → Shared → Prop} {s : Shared}
theorem created_any {M : Model} {e : Bool} {t u : Tok} {Q : Bool → Shared → Prop} (hb : NoneBooked s.heap) (ht : t ≠ 0) (hu : u ≠ 0) (h : ∀ r, (r = true → t = u ∨ e = true) → Q r s) : wpAny M A (isSame.created e t u) Q E s := by
  unfold isSame.created
  refine wpAny_ite ?_
  first | refine ite_no' (by simp [ht, hu]) ?_ | refine ite_no (by simp [ht, hu]) ?_ | rw [if_neg (by simp [ht, hu])]
  refine wpAny_ite ?_
  split
  · rename_i q
    exact wpAny_pure (h true fun _ => .inl (by simpa using q))
  refine wpAny_ite ?_
  split
  · exact wpAny_pure (h false fun q => by cases q)
  rename_i q
  have he : e = true := by simpa using q
  refine wpAny_bind (wpAny_sharingNotTold_none hb ?_)
  (try simp only [Bool.false_eq_true, if_false])
  refine wpAny_bind (wpAny_sharingNotTold_none hb ?_)
  (try simp only [Bool.false_eq_true, if_false])
  refine wpAny_bind (wpAny_rule (wpAny_bind (wpAny_askSetting (wpAny_pure (h _ fun _ => .inr he)))))

theorem is_int {x y : Int} {t u : Tok} {Q : Value → Shared → Prop} (hb : NoneBooked s.heap) (ht : t ≠ 0) (hu : u ≠ 0) (hq : t = u → x = y) (h : ∀ r, (r = true → x = y) → Q (.bool r) s) : wpAny (model prog w) A (compareOp .Is (.int x t) (.int y u)) Q E s := by
  show wpAny (model prog w) A (do return Value.bool (← isSame (.int x t) (.int y u))) Q E s
  refine wpAny_bind ?_
  show wpAny _ _ (if (x == y && smallInt x) = true then isSame.cachedInt t u else isSame.created (x == y) t u) _ _ _
  split
  · rename_i q
    have hxy : x = y := by simp at q; exact q.1
    unfold isSame.cachedInt
    first | refine ite_no' (by simp [ht, hu]) ?_ | refine ite_no (by simp [ht, hu]) ?_ | rw [if_neg (by simp [ht, hu])]
    exact wpAny_bind (wpAny_rule (wpAny_pure (wpAny_pure (h true fun _ => hxy))))
  · exact created_any hb ht hu fun r hr => wpAny_pure (h r fun e => (hr e).elim hq fun q => by simpa using q)
end

noncomputable def intLt : Value → Value → Bool
  | .int a _, .int b _ => decide (a < b)
  | _, _ => false
noncomputable def intEq : Value → Value → Bool
  | .int a _, .int b _ => a == b
  | _, _ => false
noncomputable def intKey : KeyOps where
  P := fun v => ∃ n t, v = .int n t
  lt := intLt
  eq := intEq
  ty := .type "int"
  eq_iff := by rintro _ _ ⟨a, t, rfl⟩ ⟨b, u, rfl⟩; simp [intLt, intEq]; omega
  irrefl := by rintro _ ⟨a, t, rfl⟩; simp [intLt]
  trans := by rintro _ _ _ ⟨a, t, rfl⟩ ⟨b, u, rfl⟩ ⟨c, v, rfl⟩; simp [intLt]; lia
  neg := by rintro _ _ _ ⟨a, t, rfl⟩ ⟨b, u, rfl⟩ ⟨c, v, rfl⟩; simp [intLt]; lia
  hty := by rintro M h _ ⟨a, t, rfl⟩; exact Looks.of_pure rfl
  nty := by decide
  hd := by rintro _ ⟨a, t, rfl⟩; rfl
  eqR := by rintro prog w A E s _ _ Q _ ⟨a, t, rfl⟩ ⟨b, u, rfl⟩ _ _ _ h; exact wpAny_eqBool_int h
  ltR := by
    rintro prog w A E s b _ _ Q ⟨x, t, rfl⟩ ⟨y, u, rfl⟩ h
    cases b with
    | true => exact oneLt_int h
    | false => exact kat_one _ _ (lt_int h)
  cmpR := by rintro prog w A E s _ _ Q ⟨a, t, rfl⟩ ⟨b, u, rfl⟩ h; exact eq_int h
  isR := by
    rintro prog w A E s _ _ Q hb ⟨a, t, rfl⟩ ⟨b, u, rfl⟩ ht hu hq h
    exact is_int hb ht hu (fun e => by simpa [intEq] using hq e) fun r hr => h r fun e => by simpa [intEq] using hr e
end Mine
end
section
set_option maxRecDepth 100000
set_option autoImplicit false
namespace Mine
open PySem PySem.W PySem.Calls PyProof.Rows PySem.Spec
section
variable {K : Frag} {H0 : Heap} {mg mb : Str → Option Value} {A : Around} {l : List Env} {s : Shared} {prog : Program} {w : World} {E : Value → Shared → Prop}

theorem same_spec (G : Gl K H0 mg mb) (S : St H0 A l s) {f : Addr} (fk : FnK K f "_same" dSame .none .none) (κ : KeyOps) {x y : Value} (hx : κ.P x) (hy : κ.P y) (tx : tokOf x ≠ 0) (ty : tokOf y ≠ 0) (ht : tokOf x = tokOf y → κ.eq x y = true)
    (hroom : A.depth < recursionLimit) {Q : Value → Shared → Prop} (k : ∀ s', Go H0 [] s s' → Q (.bool (κ.eq x y)) s') : wpAny (model prog w) A (call (.ref f) [x, y]) Q E s := by
  refine wpAny_call (enterF (binds := [(Str.ofString "a", x), (Str.ofString "b", y)]) G S fk [] [] (fun _ h => nomatch h) List.nodup_nil hroom (fun _ _ _ _ _ _ => BindsTo.of_eq rfl) (by decide) (locs rfl) fun L cdv s1 _ C => ?_)
  refine wpAny_execs_cons (wpAny_If (wpAny_isTrue_Compare1 (C.name rfl (C.name rfl (κ.isR _ _ _ _ _ _ _ _ (C.st.nob G) hx hy tx ty ht fun r hr => wpAny_truthy_bool ?_)))))
  have fin : wpAny (model prog w) (A.deeper (envOf "_same" dSame.2.2 L f cdv)) (execs (dSame.2.1.drop 1) (envOf "_same" dSame.2.2 L f cdv))
      (qRet (rCall Q E)) (eOut prog w (A.deeper (envOf "_same" dSame.2.2 L f cdv)) (envOf "_same" dSame.2.2 L f cdv) (rCall Q E)) s1 := by
    refine wpAny_execs_cons (wpAny_If (wpAny_isTrue_Compare1 (C.name rfl (C.name rfl (κ.cmpR _ _ _ _ _ _ _ _ hx hy (wpAny_truthy_bool ?_))))))
    cases he : κ.eq x y with
    | true =>
      (try simp only [if_true])
      exact wpAny_execs_cons (wpAny_Return_some (wpAny_Constant_bool (by show Q _ _; rw [← he]; exact k _ C.go)))
    | false =>
      (try simp only [Bool.false_eq_true, if_false])
      exact wpAny_execs_nil (wpAny_execs_cons (wpAny_Return_some (wpAny_Constant_bool (by show Q _ _; rw [← he]; exact k _ C.go))))
  cases r with
  | true =>
    (try simp only [if_true])
    exact wpAny_execs_cons (wpAny_Return_some (wpAny_Constant_bool (by show Q _ _; rw [← hr rfl]; exact k _ C.go)))
  | false =>
    (try simp only [Bool.false_eq_true, if_false])
    exact wpAny_execs_nil fin
end
end Mine
end
section
set_option maxRecDepth 100000
set_option autoImplicit false
namespace Mine
open PySem PySem.W PySem.Calls PyProof.Rows PySem.Spec Builtin Builtin.ObjectAttr Builtin.Getset_descriptor

structure ClsK (K : Frag) (c : Addr) : Prop where
  mkk : makesIn K c = true
  ga : findIn K (.ref c) "__getattribute__" = some (some (.builtin "object.__getattribute__"))
  gt : findIn K (.ref c) "__getattr__" = some none
  sa : findIn K (.ref c) "__setattr__" = some (some (.builtin "object.__setattr__"))
  po : plainOver K c = true
  ic : isClsIn K c = true
structure SlotK (K : Frag) (c : Addr) (name : Str) (i : Nat) : Prop where
  ex : ∃ p, findIn K (.ref c) name = some (some (.ref p)) ∧ specialIn K (.ref p) "__get__" = some (some (.builtin "member_descriptor.__get__")) ∧ takesIn K (.ref p) = some true ∧
    takerIn K c name = some (some (.ref p)) ∧ typeIn K (.ref p) = some (.type "member_descriptor") ∧ slotIn K p c = some i
  lt : i < 1000
structure MethK (K : Frag) (c : Addr) (name : Str) (f : Addr) : Prop where
  fi : findIn K (.ref c) name = some (some (.ref f))
  ft : typeIn K (.ref f) = some (.type "function")
  kp : keepIn K (.ref f) = true
  fn : fnIn K f = true

noncomputable abbrev io (c dx : Addr) (sl : List (Option Value)) : Obj := { cls := .ref c, dict := some dx, data := .plain, slots := sl.toArray }
noncomputable def putS (sl : List (Option Value)) (i : Nat) (v : Value) : List (Option Value) := (sl ++ List.replicate (i + 1 - sl.length) none).set i (some v)
theorem putS_eq (sl : List (Option Value)) (i : Nat) (v : Value) : (sl.toArray ++ Array.replicate (i + 1 - sl.toArray.size) none).setIfInBounds i (some v) = (putS sl i v).toArray := by
  apply Array.toList_inj.mp
  simp [putS]

theorem instAt {h : Heap} {x c dx : Addr} {sl : List (Option Value)} (O : Okk h (x, io c dx sl)) : ∃ od, InstAt h x (io c dx sl) c (some od) ∧ od.data = .dict #[] := by
  obtain ⟨o, a, b⟩ := O.dx dx rfl
  exact ⟨o, ⟨O.at_, rfl, rfl, a⟩, b⟩
theorem noShadow {od : Obj} (e : od.data = .dict #[]) (name : Str) : shadowIn (some od) name = some false := by
  obtain ⟨_, _, d, _⟩ := od
  cases e; rfl

section
variable {K : Frag} {H0 : Heap} {mg mb : Str → Option Value} {A : Around} {l : List Env} {M : List Addr} {sE : Shared} {L : Addr} {m : Str → Option Value} {led : List (Addr × Obj)} {s : Shared} {prog : Program} {w : World} {E : Value → Shared → Prop}

theorem Cx.getS (C : Cx H0 A l M sE L m led s) (G : Gl K H0 mg mb) {x c dx : Addr} {sl : List (Option Value)} {name : Str} {i : Nat} {v : Value} {expr : Bool} {Q : Value → Shared → Prop} (j : Nat) (hj : led[j]? = some (x, io c dx sl))
    (ck : ClsK K c) (sk : SlotK K c name i) (hv : sl[i]? = some (some v)) (hh : handedIn v = true) (h : ∀ s', Cx H0 A l M sE L m led s' → Q v s') : wpAny (model prog w) A (getAttr (.ref x) name expr) Q E s := by
  obtain ⟨od, I, hod⟩ := instAt (C.ok j hj)
  obtain ⟨p, h1, h2, h3, h4, h5, h6⟩ := sk.ex
  exact get_bind (C.st.X G) I ck.ga (findObj_data ck.ic h1 h2 h3) ck.gt (wpAny_call (slot_get (s := { s with toks := s.toks + 1 }) (C.st.X G) I h6 (by show (sl.toArray[i]?).join = some v; rw [List.getElem?_toArray, hv]; rfl) (handed_on hh (h _ (C.tok 1)))))

theorem slot_store {R : Result → Shared → Prop} {x c p i : Nat} {ox : Obj} {od : Option Obj} {v : Value} (X : K.In s.heap) (I : InstAt s.heap x ox c od)
    (hp : slotIn K p c = some i) (hi : i < 1000) (h : R (.ok (.ret .none)) { s with heap := s.heap.update x (fun o => { o with slots := (o.slots ++ Array.replicate (i + 1 - o.slots.size) none).setIfInBounds i (some v) }) }) :
    codeAny (model prog w) A (.call (.builtin "member_descriptor.__set__") ⟨[.ref p, .ref x, v], []⟩) R s := by
  obtain ⟨n, tn, owner, behind, tb, d, sl, cd, ho, hc, hm, hb, rfl⟩ := slot_of X hp
  obtain ⟨hh, g, dr, t, os⟩ := s
  have L0 := I.type (M := model prog w)
  have L1 := looks_mroIn (M := model prog w) X hm
  have L2 : Looks (model prog w) hh (Slots.slotNamesOf (.ref c)) cd.slotNames := (looks_clsIn X hc).andThen .now
  have hx := I.at_
  dsimp only at ho hx L0 L1
  have f0 := looks_field (M := model prog w) ho 0 (v := .str n tn) rfl
  have f1 := looks_field (M := model prog w) ho 1 (v := owner) rfl
  have f3 := looks_field (M := model prog w) ho 3 (v := .builtin "proto.slot#set") rfl
  have f4 := looks_field (M := model prog w) ho 4 (v := .int behind tb) rfl
  refine codeAny_call_builtin KF.slot_mset.plain KF.entry_mset (KF.slot_mset.check _ _ _ _ _ _ _ _ ⟨_, ho, rfl⟩ (KF.args_mset _ _ _) ?_)
  unfold Builtin.«member_descriptor.__set__» descrSet descrStoreThrough descrCheckInstance descrNameAndClass isInstance
  have f5 : Looks (model prog w) hh (descrItself (.ref p)) [.ref p] := ((Looks.ld (part := none) ho).andThen .now).andThen (Looks.of_pure (by kernel_rfl))
  repeat lk
  refine ⟨Code.quiet_builtin _ (by decide +kernel), codeAny_builtin KF.entry_slotset ?_⟩
  unfold Builtin.«proto.slot#set» Slots.target
  repeat lk
  first | refine ite_no' hb ?_ | refine ite_no hb ?_ | rw [if_neg hb]
  refine wpAny_pure (wpAny_bind ?_)
  unfold setSlotAt
  dsimp only
  first | refine ite_no' (by rw [sizeLine_eq]; lia  ) ?_ | refine ite_no (by rw [sizeLine_eq]; lia  ) ?_ | rw [if_neg (by rw [sizeLine_eq]; lia  )]
  exact wpAny_updatePart hx (wpAny_pure h)

theorem Cx.setS (C : Cx H0 A l M sE L m led s) (G : Gl K H0 mg mb) {x c dx : Addr} {sl sl' : List (Option Value)} {name : Str} {i : Nat} {v : Value} {Q : Unit → Shared → Prop} (j : Nat) (hj : led[j]? = some (x, io c dx sl))
    (ck : ClsK K c) (sk : SlotK K c name i) (hM : x ∈ M ∨ sE.heap.get? x = none) (hH : H0.get? x = none) (h : ∀ s', Cx H0 A l M sE L m (led.set j (x, io c dx sl')) s' → Q () s') (he : putS sl i v = sl' := by rfl) : wpAny (model prog w) A (setAttr (.ref x) name v) Q E s := by
  obtain ⟨od, I, hod⟩ := instAt (C.ok j hj)
  obtain ⟨p, h1, h2, h3, h4, h5, h6⟩ := sk.ex
  refine set_plain (C.st.X G) I ck.sa (osa_descr (s := { s with toks := s.toks + 1 }) KF.slot_mset (C.st.X G) I ck.po h4 h5 (slot_store (s := { s with toks := s.toks + 1 }) (C.st.X G) I h6 sk.lt ?_))
  refine h _ ?_
  have := (C.tok 1).upd j (f := fun o => { o with slots := (o.slots ++ Array.replicate (i + 1 - o.slots.size) none).setIfInBounds i (some v) }) hj rfl nd_plain rfl hM hH
  dsimp only at this
  rw [putS_eq, he] at this
  exact this

variable {env : Env}
theorem callWith_any {M : Model} {pos : Pos} {f : Value} {first : List Value} {args : List (Bool × Sem Value)} {keywords : List (Option Str × Sem Value)} {Q : Value → Shared → Prop}
    (h : wpAny M A (evalArgs f true args keywords) (fun a s₁ => (∃ k, Looks M s₁.heap (keeperOf f) k) ∧ wpAny M A (call f (first ++ a.pos) a.kw) Q E s₁) E s) : wpAny M A (callWith pos f first args keywords) Q E s := by
  unfold callWith
  refine wpAny_bind (wpAny_holding (wpAny_mono h (fun a s₁ h₁ => wpAny_bind (wpAny_standAt ?_)) fun _ _ x => x))
  obtain ⟨k, L⟩ := h₁.1
  refine wpAny_bind (L.here ?_)
  have tail : ∀ {t : Sem Value}, wpAny M A t Q E s₁ → wpAny M A (t >>= fun r => holding [r] point >>= fun _ => pure r) Q E s₁ :=
    fun ht => wpAny_bind (wpAny_mono ht (fun r s₂ hr => wpAny_bind (wpAny_holding (wpAny_point (wpAny_pure hr)))) fun _ _ x => x)
  have marked (mk : Value) : wpAny M A (callMarked mk f (first ++ a.pos) a.kw) Q E s₁ := by unfold callMarked; exact Calls.wpAny_keep h₁.2
  cases (args.any (·.1) || keywords.any (·.1.isNone)) <;> cases k <;> dsimp only <;> first | exact tail h₁.2 | exact tail (marked _) | exact tail (wpAny_operate' h₁.2) | (split <;> first | exact tail h₁.2 | exact tail (marked _))
end
end Mine
end
section
set_option maxRecDepth 100000
set_option autoImplicit false
namespace Mine
open PySem PySem.W PySem.Calls PyProof.Rows PySem.Spec

structure Fly (H0 : Heap) (M : List Addr) (s : Shared) (l : List Env) (e : Addr) (cls a0 : Value) (led : List (Addr × Obj)) (s' : Shared) : Prop where
  ex : ∃ B, Heap.FlyingW B l e cls a0 s'.heap ∧ H0.StaysIn B ∧ (∀ b o, s.heap.get? b = some o → b ∉ M → nd o → B.get? b = some o) ∧ (∀ b o, s.heap.get? b = some o → nd o → ∃ o', B.get? b = some o' ∧ nd o') ∧ ∀ p ∈ led, B.get? p.1 = some p.2
  has : ∀ p ∈ led, Okk s'.heap p
  up : ∀ b o es n, s.heap.get? b = some o → o.data = .dict es n → ∃ sl, s'.heap.get? b = some { o with slots := sl }
  toks : s.toks ≤ s'.toks
  gens : AllBare s.gens → AllBare s'.gens
  os : s'.os = s.os
structure Held (H0 : Heap) (M : List Addr) (s : Shared) (l : List Env) (e : Addr) (cls a0 : Value) (L : Addr) (led : List (Addr × Obj)) (s' : Shared) : Prop where
  ex : ∃ B, Heap.HeldW B l e cls a0 L s'.heap ∧ H0.StaysIn B ∧ (∀ b o, s.heap.get? b = some o → b ∉ M → nd o → B.get? b = some o) ∧ (∀ b o, s.heap.get? b = some o → nd o → ∃ o', B.get? b = some o' ∧ nd o') ∧ ∀ p ∈ led, B.get? p.1 = some p.2
  has : ∀ p ∈ led, Okk s'.heap p
  up : ∀ b o es n, s.heap.get? b = some o → o.data = .dict es n → ∃ sl, s'.heap.get? b = some { o with slots := sl }
  toks : s.toks ≤ s'.toks
  gens : AllBare s.gens → AllBare s'.gens
  os : s'.os = s.os

theorem DictAt.slots {h h' : Heap} {dx : Addr} (D : DictAt h dx) (k : h.UpToSlots h') : DictAt h' dx := by
  obtain ⟨o, h1, h2⟩ := D
  obtain ⟨sl, h3⟩ := k dx o h1 (fun vs q => by rw [h2] at q; cases q)
  exact ⟨_, h3, h2⟩
theorem upSlots {h h' : Heap} (k : h.UpToSlots h') {b : Addr} {o : Obj} {es : Array DictEntry} {n : Nat} (e : h.get? b = some o) (hd : o.data = .dict es n) : ∃ sl, h'.get? b = some { o with slots := sl } :=
  k b o e (fun vs q => by rw [hd] at q; cases q)

section
variable {H0 : Heap} {M M' : List Addr} {s sE s' : Shared} {l : List Env} {e : Addr} {cls a0 : Value} {led : List (Addr × Obj)}
theorem Fly.go (F : Fly H0 M s l e cls a0 led s') : Go H0 M s s' := by
  obtain ⟨B, hB, h0, h1, hp, h2⟩ := F.ex
  exact ⟨fun _ b o q => hB.1 _ _ (h0 b o q), fun b o q hm hn => hB.1 _ _ (h1 b o q hm hn), F.up, fun b o q hn => (hp b o q hn).elim fun o' z => ⟨o', hB.1 _ _ z.1, z.2⟩, F.toks, F.gens, F.os⟩
theorem Fly.lift (F : Fly H0 M' s l e cls a0 led s') (G : Go H0 M sE s) (hM : ∀ p ∈ M', p ∈ M ∨ sE.heap.get? p = none) : Fly H0 M sE l e cls a0 led s' := by
  obtain ⟨B, hB, h0, h1, hp, h2⟩ := F.ex
  refine ⟨⟨B, hB, h0, fun b o q hm hn => h1 b o (G.nd b o q hm hn) (fun hp => (hM b hp).elim hm fun z => by rw [z] at q; cases q) hn, fun b o q hn => ?_, h2⟩, F.has, fun b o es n q hd => ?_, Nat.le_trans G.toks F.toks, fun z => F.gens (G.gens z), F.os.trans G.os⟩
  · obtain ⟨o', z, hz⟩ := G.pres b o q hn
    exact hp b o' z hz
  · obtain ⟨sl, h3⟩ := G.up b o es n q hd
    obtain ⟨sl', h4⟩ := F.up b _ es n h3 hd
    exact ⟨sl', h4⟩
theorem Fly.with (F : Fly H0 M s l e cls a0 led s') (led' : List (Addr × Obj)) (h : ∀ p ∈ led', p ∈ led ∨ (Okk s.heap p ∧ p.1 ∉ M)) : Fly H0 M s l e cls a0 led' s' := by
  obtain ⟨B, hB, h0, h1, hp, h2⟩ := F.ex
  refine ⟨⟨B, hB, h0, h1, hp, fun p hp => (h p hp).elim (h2 p) fun ⟨q, r⟩ => h1 _ _ q.at_ r q.nd⟩, fun p hp => (h p hp).elim (F.has p) fun ⟨q, r⟩ => q.go F.go r, F.up, F.toks, F.gens, F.os⟩
end

section
variable {H0 : Heap} {M : List Addr} {s sE s' : Shared} {l : List Env} {env : Env} {e L : Addr} {cls a0 : Value} {led : List (Addr × Obj)} {MM : Model} {A : Around} {E : Value → Shared → Prop} {Q : Unit → Shared → Prop} {m : Str → Option Value}
theorem Fly.leave (F : Fly H0 M s (env :: l) e cls a0 led s') (hfr : A.frames = some (env :: l)) (hf : env.frame = some L) (hQ : ∀ s'', Fly H0 M s l e cls a0 led s'' → Q () s'') : wpAny MM A (leaving env (.ref e)) Q E s' := by
  obtain ⟨B, hB, h0, h1, hp, h2⟩ := F.ex
  refine wpAny_leaves_onW hfr hf hB fun h' x1 x2 => hQ _ ⟨⟨B, x1, h0, h1, hp, h2⟩, fun p hp' => ⟨x1.1 _ _ (h2 p hp'), (F.has p hp').nd, fun dx q => ((F.has p hp').dx dx q).slots x2⟩, fun b o es n q hd => ?_, F.toks, F.gens, F.os⟩
  obtain ⟨sl, h3⟩ := F.up b o es n q hd
  obtain ⟨sl', h4⟩ := upSlots x2 h3 hd
  exact ⟨sl', h4⟩
theorem Held.lands (F : Held H0 M s l e cls a0 L led s') (hQ : ∀ s'', Fly H0 M s l e cls a0 led s'' → Q () s'') : wpAny MM A (setFlight (.ref e) none) Q E s' := by
  obtain ⟨B, hB, h0, h1, hp, h2⟩ := F.ex
  refine wpAny_landsW hB fun h' x1 x2 => hQ _ ⟨⟨B, x1, h0, h1, hp, h2⟩, fun p hp' => ⟨x1.1 _ _ (h2 p hp'), (F.has p hp').nd, fun dx q => ((F.has p hp').dx dx q).slots x2⟩, fun b o es n q hd => ?_, F.toks, F.gens, F.os⟩
  obtain ⟨sl, h3⟩ := F.up b o es n q hd
  obtain ⟨sl', h4⟩ := upSlots x2 h3 hd
  exact ⟨sl', h4⟩

theorem funFrames_of {h B : Heap} : ∀ {l : List Env}, (∀ env ∈ l, env.scope.kind ≠ .module ∧ ∃ L o es n, env.frame = some L ∧ B.get? L = none ∧ h.get? L = some o ∧ o.data = .dict es n) → h.FunFrames B l
  | [], _ => trivial
  | env :: l, hl => by
    obtain ⟨hk, L, o, es, n, h1, h2, h3, h4⟩ := hl env (.head _)
    exact ⟨hk, ⟨L, o, h1, h2, h3, fun vs q => by rw [h4] at q; cases q⟩, funFrames_of fun e he => hl e (.tail _ he)⟩
noncomputable def framesOf (l : List Env) : List Addr := l.filterMap (·.frame)
theorem Cx.base (C : Cx H0 A l M s L m led s') : H0.StaysIn (hideAll s'.heap (framesOf l)) ∧ (∀ b o, s'.heap.get? b = some o → nd o → (hideAll s'.heap (framesOf l)).get? b = some o) ∧ s'.heap.FunFrames (hideAll s'.heap (framesOf l)) l := by
  have fr : ∀ a ∈ framesOf l, H0.get? a = none ∧ ∃ o es n, s'.heap.get? a = some o ∧ o.data = .dict es n := by
    intro a ha
    obtain ⟨env, he, hf⟩ := List.mem_filterMap.mp ha
    obtain ⟨_, L', o, es, n, h1, h2, h3, h4⟩ := C.st.fr env he
    rw [h1] at hf; cases hf
    exact ⟨h2, o, es, n, h3, h4⟩
  refine ⟨fun b o e => hideAll_get _ (C.st.glob b o e) fun hm => ?_, fun b o e hn => hideAll_get _ e fun hm => ?_, funFrames_of fun env he => ?_⟩
  · have := (fr b hm).1; rw [this] at e; cases e
  · obtain ⟨_, o', es, n, h1, h2⟩ := fr b hm
    rw [h1] at e; cases e; exact hn es n h2
  · obtain ⟨hk, L', o, es, n, h1, h2, h3, h4⟩ := C.st.fr env he
    exact ⟨hk, L', o, es, n, h1, hideAll_none _ (List.mem_filterMap.mpr ⟨env, he, h1⟩), h3, h4⟩

theorem Cx.raised (C : Cx H0 A (env :: l) M s L m led s') {h' : Heap} {args : List Value} (hx : Heap.MadeExcOf s'.heap h' e cls args) (hf : env.frame = some L)
    (hQ : ∀ t s'', Fly H0 M s l e cls (.ref t) led s'' → s''.heap.TupAt t args → Q () s'') : wpAny MM A (leaving env (.ref e)) Q E { s' with heap := h' } := by
  obtain ⟨b1, b2, b3⟩ := C.base
  refine wpAny_leaves_madeW (s := { s' with heap := h' }) C.st.frames hf (fun b o q => of_hideAll _ q) b3 hx fun h'' t x1 x2 x3 x4 => hQ t _ ⟨⟨_, x1, b1, fun b o q hm hn => b2 b o (C.go.nd b o q hm hn) hn, fun b o q hn => ?_, fun p hp => b2 _ _ (C.has p hp).at_ (C.has p hp).nd⟩, fun p hp => ⟨x1.1 _ _ (b2 _ _ (C.has p hp).at_ (C.has p hp).nd), (C.has p hp).nd, fun dx q => ?_⟩, fun b o es n q hd => ?_, C.go.toks, C.go.gens, C.go.os⟩ x2
  · obtain ⟨o', z, hz⟩ := C.go.pres b o q hn
    exact ⟨o', b2 _ _ z hz, hz⟩
  · obtain ⟨o, h1, h2⟩ := (C.has p hp).dx dx q
    exact DictAt.slots ⟨o, hx.keeps _ _ h1, h2⟩ x4
  · obtain ⟨sl, h3⟩ := C.go.up b o es n q hd
    obtain ⟨sl', h4⟩ := upSlots x4 (hx.keeps _ _ h3) hd
    exact ⟨sl', h4⟩

theorem Fly.again (F : Fly H0 M s l e cls a0 led s') (hQ : ∀ s'', Fly H0 M s l e cls a0 led s'' → Q () s'') : wpAny MM A (setFlight (.ref e) none) Q E s' := by
  obtain ⟨B, hB, h0, h1, hp, h2⟩ := F.ex
  refine lands_againW hB fun h' x1 x2 => hQ _ ⟨⟨B, x1, h0, h1, hp, h2⟩, fun p hp' => ⟨x1.1 _ _ (h2 p hp'), (F.has p hp').nd, fun dx q => ((F.has p hp').dx dx q).slots x2⟩, fun b o es n q hd => ?_, F.toks, F.gens, F.os⟩
  obtain ⟨sl, h3⟩ := F.up b o es n q hd
  obtain ⟨sl', h4⟩ := upSlots x2 h3 hd
  exact ⟨sl', h4⟩
theorem Fly.typ {X : String} (F : Fly H0 M s l e (.type X) a0 led s') : s'.TypeIs (.ref e) X := by
  obtain ⟨B, hB, _⟩ := F.ex
  obtain ⟨ob, h1, h2⟩ := hB.there
  exact ⟨ob, h1, h2⟩
theorem Cx.around {A' : Around} (C : Cx H0 A l M s L m led s') (h : A'.frames = A.frames) : Cx H0 A' l M s L m led s' := { C with st := C.st.around h }
theorem Cx.noteMade (C : Cx H0 A (env :: l) M s L m led s') {h' : Heap} {args : List Value} (hx : Heap.MadeExcOf s'.heap h' e cls args) (hf : env.frame = some L)
    (hQ : ∀ t s'', Held H0 [] s' (env :: l) e cls (.ref t) L [] s'' → Q () s'') : wpAny MM A (noteFrame (.ref e) env) Q E { s' with heap := h' } := by
  obtain ⟨b1, b2, b3⟩ := C.base
  obtain ⟨t, ht1, ht2, ht3⟩ := hx.there
  have hen : (hideAll s'.heap (framesOf (env :: l))).get? e = none := by
    cases q : (hideAll s'.heap (framesOf (env :: l))).get? e with
    | none => rfl
    | some o => have := of_hideAll _ q; rw [hx.new] at this; cases this
  have hst : (hideAll s'.heap (framesOf (env :: l))).StaysIn h' := fun b o q => hx.keeps b o (of_hideAll _ q)
  unfold noteFrame
  simp only [hf]
  refine wpAny_bind (wpAny_field (s := { s' with heap := h' }) ht1 rfl (x := .none) rfl ?_)
  first | refine ite_no' (by decide) ?_ | refine ite_no (by decide) ?_ | rw [if_neg (by decide)]
  refine wpAny_entryW (s := { s' with heap := h' }) (a0 := .ref t) C.st.frames (b3.of_keeps fun b o hb _ => ⟨o, hx.keeps b o hb, rfl⟩) hf ht1 hst hen rfl (by show 1 < 6; decide) rfl fun h'' hN => ?_
  obtain ⟨k1, k2, k3, k4⟩ := hN
  refine hQ t _ ⟨⟨_, ⟨k1, hen, k2, k3⟩, b1, fun b o q _ hn => b2 b o q hn, fun b o q hn => ⟨o, b2 b o q hn, hn⟩, fun p hp => nomatch hp⟩, fun p hp => (nomatch hp), fun b o es n q hd => ?_, Nat.le_refl _, fun h => h, rfl⟩
  exact k4 b o (hx.keeps _ _ q) (fun vs z => by rw [hd] at z; cases z)
end
end Mine
end
section
set_option maxRecDepth 100000
set_option autoImplicit false
namespace Mine
open PySem PySem.W PySem.Calls PyProof.Rows PySem.Spec

noncomputable abbrev itO (l : Addr) (i : Nat) : Obj := { cls := .type "list_iterator", data := .fields #[.ref l, .int i 0] }
noncomputable abbrev itE (i : Nat) : Obj := { cls := .type "list_iterator", data := .fields #[.none, .int i 0] }

theorem entry_next : entryFor table "next" = some Builtin.«next» := entryFor_of_fast (by kernel_rfl)
theorem args_next (v : Value) : argsOk "next" ⟨[v], []⟩ := by unfold argsOk; kernel_rfl

section
variable {prog : Program} {w : World} {A : Around} {E : Value → Shared → Prop} {s : Shared}
theorem next_item {it l : Addr} {i : Nat} {ol : Obj} {vs : List Value} {n : Nat} {x : Value} {Q : Value → Shared → Prop} (hit : s.heap.get? it = some (itO l i)) (hl : s.heap.get? l = some ol) (hd : ol.data = .seq vs.toArray n) (hx : vs[i]? = some x)
    (hQ : Q x { s with heap := s.heap.update it (Obj.mapFields (·.setIfInBounds 1 (rawInt ((i : Int) + 1)))) }) : wpAny (model prog w) A (call (.builtin "next") [.ref it]) Q E s := by
  have hT : s.TypeIs (.ref it) "list_iterator" := ⟨_, hit, rfl⟩
  refine call_function_entry (by decide +kernel) (by decide +kernel) entry_next (args_next _) ?_
  unfold Builtin.«next»
  refine wpAny_bind (m := someArgs "next" 1 2 _) (wpAny_of_eq (a := [Value.ref it]) (by first | rfl | kernel_rfl!) ?_)
  dsimp only
  refine wpAny_bind (wpAny_specialOf (name := Str.ofString "__next__") hT slot_listiter_next.lookup ?_)
  refine wpAny_ite_split (fun hab => absurd hab (by decide)) (fun _ => ?_)
  refine wpAny_bind (wpAny_callSpecial?_slot (name := Str.ofString "__next__") hT slot_listiter_next (wpAny_call_entry slot_listiter_next hT entry_listiter_next ?_ (args_listiter_next _)))
  show wpAny _ _ (field (.ref it) 0 >>= _) _ _ s
  refine wpAny_bind (wpAny_field hit rfl (x := .ref l) rfl ?_)
  show wpAny _ _ (if (Value.ref l == Value.none) = true then _ else _) _ _ s
  first | refine ite_no' rfl ?_ | refine ite_no (show ¬ ((Value.ref l == Value.none) = true) from Bool.false_ne_true) ?_ | rw [if_neg (show ¬ ((Value.ref l == Value.none) = true) from Bool.false_ne_true)]
  show wpAny _ _ (field (.ref it) 1 >>= _) _ _ s
  refine wpAny_bind (wpAny_field hit rfl (x := .int i 0) rfl ?_)
  show wpAny _ _ (seqItems? (.ref l) >>= _) _ _ s
  refine wpAny_bind (wpAny_seqItems hl hd ?_)
  simp only [Int.toNat_natCast, List.getElem?_toArray, hx]
  refine wpAny_bind (wpAny_setField hit rfl (by simp) (wpAny_pure ⟨x, rfl, wpAny_pure ⟨_, rfl, hQ⟩⟩))

theorem newExc_stop {M : Model} {Q : Value → Shared → Prop} (h : ∀ h' e, Heap.MadeExc s.heap h' e "StopIteration" [] → Q (.ref e) { s with heap := h' }) : wpAny M A (newExc (.type "StopIteration") []) Q E s := by
  unfold newExc newTuple
  refine wpAny_bind (wpAny_newObj_type ?_ (by size_fits))
  refine wpAny_bind (m := firstArgMember _ _) (wpAny_of_eq (a := Value.none) (by first | rfl | (simp only [firstArgMember]; rfl)) ?_)
  refine wpAny_newObj_type (h _ _ ⟨fun b o hb => Heap.get?_push_of_some _ (Heap.get?_push_of_some _ hb), Heap.get?_none_of_le (by simp), s.heap.objs.size, ?_, Heap.get?_none_of_le (Nat.le_refl _), ?_⟩) (by size_fits)
  · exact Heap.get?_push_size _ rfl
  · exact Heap.get?_push_of_some _ (Heap.get?_push_size _ rfl)
theorem next_end {it l : Addr} {i : Nat} {ol : Obj} {vs : List Value} {n : Nat} {Q : Value → Shared → Prop} (hh : A.handled = none) (hit : s.heap.get? it = some (itO l i)) (hl : s.heap.get? l = some ol) (hd : ol.data = .seq vs.toArray n) (hx : vs[i]? = none)
    (hE : ∀ h' e, Heap.MadeExc (s.heap.update it (Obj.mapFields (·.setIfInBounds 0 .none))) h' e "StopIteration" [] → E (.ref e) { s with heap := h' }) : wpAny (model prog w) A (call (.builtin "next") [.ref it]) Q E s := by
  have hT : s.TypeIs (.ref it) "list_iterator" := ⟨_, hit, rfl⟩
  refine call_function_entry (by decide +kernel) (by decide +kernel) entry_next (args_next _) ?_
  unfold Builtin.«next»
  refine wpAny_bind (m := someArgs "next" 1 2 _) (wpAny_of_eq (a := [Value.ref it]) (by first | rfl | kernel_rfl!) ?_)
  dsimp only
  refine wpAny_bind (wpAny_specialOf (name := Str.ofString "__next__") hT slot_listiter_next.lookup ?_)
  refine wpAny_ite_split (fun hab => absurd hab (by decide)) (fun _ => ?_)
  refine wpAny_bind (wpAny_callSpecial?_slot (name := Str.ofString "__next__") hT slot_listiter_next (wpAny_call_entry slot_listiter_next hT entry_listiter_next ?_ (args_listiter_next _)))
  show wpAny _ _ (field (.ref it) 0 >>= _) _ _ s
  refine wpAny_bind (wpAny_field hit rfl (x := .ref l) rfl ?_)
  show wpAny _ _ (if (Value.ref l == Value.none) = true then _ else _) _ _ s
  first | refine ite_no' rfl ?_ | refine ite_no (show ¬ ((Value.ref l == Value.none) = true) from Bool.false_ne_true) ?_ | rw [if_neg (show ¬ ((Value.ref l == Value.none) = true) from Bool.false_ne_true)]
  show wpAny _ _ (field (.ref it) 1 >>= _) _ _ s
  refine wpAny_bind (wpAny_field hit rfl (x := .int i 0) rfl ?_)
  show wpAny _ _ (seqItems? (.ref l) >>= _) _ _ s
  refine wpAny_bind (wpAny_seqItems hl hd ?_)
  simp only [Int.toNat_natCast, List.getElem?_toArray, hx]
  refine wpAny_bind (wpAny_rule (wpAny_bind (wpAny_setField hit rfl (by simp) ?_)))
  show wpAny _ _ (newExc (.type "StopIteration") [] >>= _) _ _ _
  refine wpAny_bind (newExc_stop (fun h' e hm => ?_))
  simp only [raiseNew]
  refine wpAny_bind (wpAny_handled ?_)
  rw [show A.in1.in1.handled = none from hh]
  exact wpAny_bind (wpAny_pure (wpAny_throw (hE _ _ hm)))
end
end Mine
end
section
set_option maxRecDepth 100000
set_option autoImplicit false
set_option genInjectivity false
set_option genSizeOf false
namespace Mine
open PySem PySem.W PySem.Calls PyProof.Rows PySem.Spec

structure Adr where
  pull : Addr
  same : Addr
  gb : Addr
  gbInit : Addr
  gbIter : Addr
  gbStep : Addr
  gbNext : Addr
  gr : Addr
  grInit : Addr
  grIter : Addr
  grNext : Addr
  kind : Addr
  ct : Addr
  ctInit : Addr
  ctIter : Addr
  ctNext : Addr
  ig : Addr
  igInit : Addr
  igCall : Addr
  rank : Addr
  gbD : Addr
  ctD : Addr
  rankK : Addr

noncomputable def DfK (K : Frag) (d : Addr) (vs : List Value) : Prop := ∃ o n, K.lookup d = some o ∧ o.data = .seq vs.toArray n

structure KF (K : Frag) (a : Adr) : Prop where
  pull : FnK K a.pull "_pull" dPull .none .none
  same : FnK K a.same "_same" dSame .none .none
  kind : FnK K a.kind "_count_kind" dKind .none .none
  gbInit : FnK K a.gbInit "groupby.__init__" dGbInit (.ref a.gbD) .none
  gbIter : FnK K a.gbIter "groupby.__iter__" dGbIter .none .none
  gbStep : FnK K a.gbStep "groupby._step" dGbStep .none .none
  gbNext : FnK K a.gbNext "groupby.__next__" dGbNext .none .none
  grInit : FnK K a.grInit "_grouper.__init__" dGrInit .none .none
  grIter : FnK K a.grIter "_grouper.__iter__" dGrIter .none .none
  grNext : FnK K a.grNext "_grouper.__next__" dGrNext .none .none
  ctInit : FnK K a.ctInit "count.__init__" dCtInit (.ref a.ctD) .none
  ctIter : FnK K a.ctIter "count.__iter__" dCtIter .none .none
  ctNext : FnK K a.ctNext "count.__next__" dCtNext .none .none
  igInit : FnK K a.igInit "itemgetter.__init__" dIgInit .none .none
  igCall : FnK K a.igCall "itemgetter.__call__" dIgCall .none .none
  rank : FnK K a.rank "_rank" dRank .none (.ref a.rankK)
  gbD : DfK K a.gbD [.none]
  ctD : ∃ t u, DfK K a.ctD [.int 0 t, .int 1 u]
  gb : ClsK K a.gb
  gr : ClsK K a.gr
  ct : ClsK K a.ct
  ig : ClsK K a.ig
  gb0 : SlotK K a.gb "_currgrouper" 0
  gb1 : SlotK K a.gb "_currkey" 1
  gb2 : SlotK K a.gb "_currvalue" 2
  gb3 : SlotK K a.gb "_has_currkey" 3
  gb4 : SlotK K a.gb "_has_currvalue" 4
  gb5 : SlotK K a.gb "_has_tgtkey" 5
  gb6 : SlotK K a.gb "_it" 6
  gb7 : SlotK K a.gb "_keyfunc" 7
  gb8 : SlotK K a.gb "_serial" 8
  gb9 : SlotK K a.gb "_tgtkey" 9
  gr0 : SlotK K a.gr "_number" 0
  gr1 : SlotK K a.gr "_parent" 1
  gr2 : SlotK K a.gr "_tgtkey" 2
  ct0 : SlotK K a.ct "_cnt" 0
  ct1 : SlotK K a.ct "_fast" 1
  ct2 : SlotK K a.ct "_step" 2
  ig0 : SlotK K a.ig "_items" 0
  mgbI : MethK K a.gb "__init__" a.gbInit
  mgbT : MethK K a.gb "__iter__" a.gbIter
  mgbS : MethK K a.gb "_step" a.gbStep
  mgbN : MethK K a.gb "__next__" a.gbNext
  mgrI : MethK K a.gr "__init__" a.grInit
  mgrT : MethK K a.gr "__iter__" a.grIter
  mgrN : MethK K a.gr "__next__" a.grNext
  mctI : MethK K a.ct "__init__" a.ctInit
  mctT : MethK K a.ct "__iter__" a.ctIter
  mctN : MethK K a.ct "__next__" a.ctNext
  migI : MethK K a.ig "__init__" a.igInit
  migC : MethK K a.ig "__call__" a.igCall
  npull : nsIn K mainGlobals "_pull" = some (some (.ref a.pull))
  nsame : nsIn K mainGlobals "_same" = some (some (.ref a.same))
  nkind : nsIn K mainGlobals "_count_kind" = some (some (.ref a.kind))
  ngb : nsIn K mainGlobals "groupby" = some (some (.ref a.gb))
  ngr : nsIn K mainGlobals "_grouper" = some (some (.ref a.gr))
  nct : nsIn K mainGlobals "count" = some (some (.ref a.ct))
  nig : nsIn K mainGlobals "itemgetter" = some (some (.ref a.ig))
  nmax : ∃ t, nsIn K mainGlobals "_MAXSIZE" = some (some (.int 9223372036854775807 t))
  kpull : keepIn K (.ref a.pull) = true
  ksame : keepIn K (.ref a.same) = true
  kkind : keepIn K (.ref a.kind) = true
  kgb : keepIn K (.ref a.gb) = true
  kgr : keepIn K (.ref a.gr) = true
  kct : keepIn K (.ref a.ct) = true
  kig : keepIn K (.ref a.ig) = true
  nnext : nsIn K mainGlobals "next" = some none
  nstop : nsIn K mainGlobals "StopIteration" = some none
  niter : nsIn K mainGlobals "iter" = some none
  ntype : nsIn K mainGlobals "type" = some none
  nlen : nsIn K mainGlobals "len" = some none
  nint : nsIn K mainGlobals "int" = some none
  nbool : nsIn K mainGlobals "bool" = some none
  nfloat : nsIn K mainGlobals "float" = some none
  nsorted : nsIn K mainGlobals "sorted" = some none
  nzip : nsIn K mainGlobals "zip" = some none
  nmap : nsIn K mainGlobals "map" = some none
  nlist : nsIn K mainGlobals "list" = some none
  nve : nsIn K mainGlobals "ValueError" = some none
  dkey : nsIn K a.rankK "key" = some (some .none)
  drev : nsIn K a.rankK "reverse" = some (some (.bool false))
  dties : ∃ t, nsIn K a.rankK "ties" = some (some (.str "average" t))
  dstart : ∃ t, nsIn K a.rankK "start" = some (some (.int 1 t))
  grLen : findIn K (.ref a.gr) "__len__" = some none
  grHint : findIn K (.ref a.gr) "__length_hint__" = some none

section
variable {K : Frag} {a : Adr} {H0 : Heap} {mg mb : Str → Option Value} {A : Around} {l : List Env} {M : List Addr} {sE : Shared} {L f : Addr} {m : Str → Option Value} {led : List (Addr × Obj)} {s : Shared} {prog : Program} {w : World} {E : Value → Shared → Prop}
variable {cn : Str} {cs : Scope} {cdv : Value}

inductive MadeP (o : Obj) (n : Nat) (Q : Value → Shared → Prop) (s' : Shared) : Prop
  | mk (H0 : Heap) (A : Around) (l : List Env) (M : List Addr) (sE : Shared) (L : Addr) (m : Str → Option Value) (led : List (Addr × Obj)) (C : Cx H0 A l M sE L m led s') (hz : n ≤ sizeLine)
    (h : ∀ t s'', Cx H0 A l M sE L m ((t, o) :: led) s'' → Nw H0 sE t → s'.heap.get? t = none → Q (.ref t) s'') : MadeP o n Q s'
noncomputable abbrev qTup (Q : Value → Shared → Prop) : List Value → Shared → Prop := fun vs s' => MadeP (tupO vs) vs.length Q s'
noncomputable abbrev qLst (Q : Value → Shared → Prop) : List Value → Shared → Prop := fun vs s' => MadeP (lstO vs) vs.length Q s'
theorem tup_made {k : Nat} {pos : Pos} {elts : List Expr} {env : Env} {Q : Value → Shared → Prop} (h : wpAny (model prog w) A (spliced (backTo pos (starEach elts env))) (qTup Q) E s) : wpAny (model prog w) A (eval (.Tuple elts k pos) env) Q E s :=
  wpAny_Tuple (wpAny_mono h (fun vs s' h => by obtain ⟨H0, A, l, M, sE, L, m, led, C, hz, h⟩ := h; exact ⟨hz, h _ _ (C.push _ rfl nd_seq rfl) (C.noE not_at) not_at⟩) fun _ _ z => z)
theorem lst_made {pos : Pos} {elts : List Expr} {env : Env} {Q : Value → Shared → Prop} (h : wpAny (model prog w) A (spliced (backTo pos (starEach elts env))) (qLst Q) E s) : wpAny (model prog w) A (eval (.List elts pos) env) Q E s :=
  wpAny_List (wpAny_mono h (fun vs s' h => by obtain ⟨H0, A, l, M, sE, L, m, led, C, hz, h⟩ := h; exact ⟨hz, h _ _ (C.push _ rfl nd_seq rfl) (C.noE not_at) not_at⟩) fun _ _ z => z)

theorem Cx.unpack2 (C : Cx H0 A l M sE L m led s) {x y : Str} {p1 p2 pos : Pos} {k : Nat} {t : Addr} {u v : Value} {Q : Unit → Shared → Prop} (j : Nat) (hj : led[j]? = some (t, tupO [u, v])) (hh : A.handled = none)
    (h : ∀ s', Cx H0 A l M sE L (updM (updM m x u) y v) led s' → Q () s')
    (hx : cs.names.lookup x = some .local := by rfl) (hy : cs.names.lookup y = some .local := by rfl)
    (hp : (cs.kind == .class || (cs.kind == .module && L != mainGlobals)) = false := by rfl) :
    wpAny (model prog w) A (assign (.Tuple [.Name x p1, .Name y p2] k pos) (envOf cn cs L f cdv) (.ref t)) Q E s := by
  refine assign_Tuple_tuple hh ⟨_, C.at j hj, rfl, 0, rfl⟩ rfl rfl fun h' he => ?_
  have C1 := C.ext (s' := { s with heap := h' }) (fun b o e => he b o (fun q => by rw [q, not_at] at e; cases e) e) (Nat.le_refl _) rfl rfl
  have one : ∀ {x : Str} {p : Pos} {v : Value} {Q : Unit → Shared → Prop} {s : Shared}, wpAny (model prog w) A (storeName (envOf cn cs L f cdv) x v) Q E s → wpAny (model prog w) A (assign (.Name x p) (envOf cn cs L f cdv) v) Q E s := fun h => PyProof.Rows.assign_Name h
  show wpAny _ _ (assignInOrder [assign (.Name x p1) (envOf cn cs L f cdv), assign (.Name y p2) (envOf cn cs L f cdv)] [u, v]) _ _ _
  refine wpAny_assignInOrder_more (one (C1.set (fun s1 C2 => ?_) hx hp))
  refine wpAny_assignInOrder_more (one (C2.set (fun s2 C3 => ?_) hy hp))
  exact wpAny_assignInOrder_none (h _ C3)

theorem Cx.attr (C : Cx H0 A l M sE L m led s) (G : Gl K H0 mg mb) {nm name : Str} {np pos : Pos} {x c dx : Addr} {sl : List (Option Value)} {i : Nat} {v : Value} {Q : Value → Shared → Prop} (j : Nat) (hj : led[j]? = some (x, io c dx sl))
    (hm : m nm = some (.ref x)) (ck : ClsK K c) (sk : SlotK K c name i) (hv : sl[i]? = some (some v)) (hd : handedIn v = true) (h : ∀ s', Cx H0 A l M sE L m led s' → Q v s')
    (hk : cs.kind = .function := by rfl) (hl : cs.names.lookup nm = some .local := by rfl) (hdb : (nm == ("__debug__" : Str)) = false := by decide) :
    wpAny (model prog w) A (eval (.Attribute (.Name nm np) name pos) (envOf cn cs L f cdv)) Q E s :=
  Attribute_Name_ (C.name hm (C.getS G j hj ck sk hv hd h) hk hl hdb)
theorem Cx.setA (C : Cx H0 A l M sE L m led s) (G : Gl K H0 mg mb) {nm name : Str} {np : Pos} {x c dx : Addr} {sl sl' : List (Option Value)} {i : Nat} {v : Value} {Q : Unit → Shared → Prop} (j : Nat) (hj : led[j]? = some (x, io c dx sl))
    (hm : m nm = some (.ref x)) (ck : ClsK K c) (sk : SlotK K c name i) (hM : x ∈ M ∨ sE.heap.get? x = none) (hH : H0.get? x = none) (h : ∀ s', Cx H0 A l M sE L m (led.set j (x, io c dx sl')) s' → Q () s') (he : putS sl i v = sl' := by rfl)
    (hk : cs.kind = .function := by rfl) (hl : cs.names.lookup nm = some .local := by rfl) (hdb : (nm == ("__debug__" : Str)) = false := by decide) :
    wpAny (model prog w) A (eval (.Name nm np) (envOf cn cs L f cdv)) (fun ov s2 => wpAny (model prog w) A (setAttr ov name v) Q E s2) E s :=
  C.name hm (C.setS G j hj ck sk hM hH h he) hk hl hdb
theorem Cx.meth (C : Cx H0 A l M sE L m led s) (G : Gl K H0 mg mb) {name : Str} {x c dx g : Addr} {sl : List (Option Value)} {pl : Sem Bool} {Q : Value × List Value → Shared → Prop} (j : Nat) (hj : led[j]? = some (x, io c dx sl))
    (ck : ClsK K c) (mk : MethK K c name g) (h : Q (.ref g, [.ref x]) s) : wpAny (model prog w) A (getMethod (.ref x) name pl) Q E s := by
  obtain ⟨od, I, hod⟩ := instAt (C.ok j hj)
  exact method_fn (C.st.X G) I ck.ga ck.gt mk.fi mk.ft (noShadow hod _) h
end
end Mine
end
section
set_option maxRecDepth 100000
set_option autoImplicit false
namespace Mine
open PySem PySem.W PySem.Calls PyProof.Rows PySem.Spec
section
variable {K : Frag} {a : Adr} {H0 : Heap} {mg mb : Str → Option Value} {A : Around} {l : List Env} {s : Shared} {prog : Program} {w : World} {E : Value → Shared → Prop}

theorem okk_it {h : Heap} {it lst : Addr} {i : Nat} (e : h.get? it = some (itO lst i)) : Okk h (it, itO lst i) := .of e nd_fields rfl
theorem okk_lst {h : Heap} {x : Addr} {vs : List Value} {ep : Nat} (e : h.get? x = some (lstO vs ep)) : Okk h (x, lstO vs ep) := .of e nd_seq rfl
theorem okk_tup {h : Heap} {x : Addr} {vs : List Value} (e : h.get? x = some (tupO vs)) : Okk h (x, tupO vs) := .of e nd_seq rfl

theorem ne_cls {h : Heap} {x y : Addr} {o o' : Obj} (e : h.get? x = some o) (e' : h.get? y = some o') (hc : o.cls ≠ o'.cls) : x ≠ y := fun q => hc (by rw [q, e'] at e; cases e; rfl)
theorem ne_nd {h : Heap} {x y : Addr} {o : Obj} (e : h.get? x = some o) (e' : h.get? y = none) : x ≠ y := fun q => by rw [q, e'] at e; cases e

theorem pull_more (G : Gl K H0 mg mb) (F : KF K a) (S : St H0 A l s) {it lst : Addr} {i : Nat} {vs : List Value} {ep : Nat} {x : Value} (hit : s.heap.get? it = some (itO lst i)) (hH : H0.get? it = none) (hl : s.heap.get? lst = some (lstO vs ep)) (hx : vs[i]? = some x)
    (hroom : A.depth < recursionLimit) (hh : A.handled = none) {Q : Value → Shared → Prop}
    (k : ∀ t s', Go H0 [it] s s' → s'.heap.get? it = some (itO lst (i + 1)) → s'.heap.get? t = some (tupO [.bool true, x]) → s.heap.get? t = none → Q (.ref t) s') : wpAny (model prog w) A (call (.ref a.pull) [.ref it]) Q E s := by
  have hne : it ≠ lst := ne_cls hit hl (by show Value.type "list_iterator" ≠ .type "list"; decide)
  refine wpAny_call (enterF (binds := [(Str.ofString "it", .ref it)]) G S F.pull [it] [(it, itO lst i), (lst, lstO vs ep)] (fun p hp => ?_) (by simp [hne]) hroom (fun _ _ _ _ _ _ => BindsTo.of_eq rfl) (by decide) (locs rfl) fun L cdv s1 _ C => ?_)
  · rcases List.mem_cons.mp hp with rfl | hp
    · exact okk_it hit
    · rw [List.mem_singleton.mp hp]; exact okk_lst hl
  refine wpAny_execs_cons (wpAny_Try_except (wpAny_execs_cons (wpAny_Return_some (tup_made (args_cons (wpAny_Constant_bool (args_cons ?_)))))))
  refine Call_ (C.boot G F.nnext Boot.«next» ?_)
  refine callWith_builtin1 (args_cons (C.name rfl (args_nil ?_)))
  refine next_item (C.at 0 rfl) (C.at 1 rfl) rfl hx ?_
  have C2 := C.upd 0 (f := Obj.mapFields (·.setIfInBounds 1 (rawInt ((i : Int) + 1)))) rfl rfl nd_fields rfl (.inl (.head _)) hH
  refine args_nil ⟨_, _, _, _, _, _, _, _, C2, by simp [sizeLine_eq], fun t s2 C3 n1 n2 => ?_⟩
  refine k t _ C3.go ?_ (C3.at 0 rfl) n1.e
  exact C3.at 1 rfl

theorem pull_end (G : Gl K H0 mg mb) (F : KF K a) (S : St H0 A l s) {it lst : Addr} {i : Nat} {vs : List Value} {ep : Nat} (hit : s.heap.get? it = some (itO lst i)) (hH : H0.get? it = none) (hl : s.heap.get? lst = some (lstO vs ep)) (hx : vs[i]? = none)
    (hroom : A.depth < recursionLimit) (hh : A.handled = none) {Q : Value → Shared → Prop}
    (k : ∀ t s', Go H0 [it] s s' → s'.heap.get? it = some (itE i) → s'.heap.get? t = some (tupO [.bool false, .none]) → s.heap.get? t = none → Q (.ref t) s') : wpAny (model prog w) A (call (.ref a.pull) [.ref it]) Q E s := by
  have hne : it ≠ lst := ne_cls hit hl (by show Value.type "list_iterator" ≠ .type "list"; decide)
  refine wpAny_call (enterF (binds := [(Str.ofString "it", .ref it)]) G S F.pull [it] [(it, itO lst i), (lst, lstO vs ep)] (fun p hp => ?_) (by simp [hne]) hroom (fun _ _ _ _ _ _ => BindsTo.of_eq rfl) (by decide) (locs rfl) fun L cdv s1 _ C => ?_)
  · rcases List.mem_cons.mp hp with rfl | hp
    · exact okk_it hit
    · rw [List.mem_singleton.mp hp]; exact okk_lst hl
  refine wpAny_execs_cons (wpAny_Try_except (wpAny_execs_cons (wpAny_Return_some (tup_made (args_cons (wpAny_Constant_bool (args_cons ?_)))))))
  refine Call_ (C.boot G F.nnext Boot.«next» ?_)
  refine callWith_builtin1 (args_cons (C.name rfl (args_nil ?_)))
  refine next_end hh (C.at 0 rfl) (C.at 1 rfl) rfl hx fun h' e hm => ?_
  have C2 := C.upd 0 (f := Obj.mapFields (·.setIfInBounds 0 .none)) rfl rfl nd_fields rfl (.inl (.head _)) hH
  refine C2.noteMade (cls := .type "StopIteration") ⟨hm.keeps, hm.new, hm.there⟩ rfl fun t s2 hd => ?_
  refine hd.lands fun s3 F3 => ?_
  have C3 := (C2.call F3.go).around (A' := (A.deeper (envOf "_pull" dPull.2.2 L a.pull cdv)).mark (some (.ref e))) rfl
  refine wpAny_handleBy_builtin (X := "StopIteration") (T := "StopIteration") (b := true) owsi_raise.isExc (by rw [isSubtype_type]; kernel_rfl) owsi_facts.sub ?_
  refine C3.boot G F.nstop Boot.«StopIteration» ⟨rfl, F3.typ, ?_⟩
  first | refine ite_yes' rfl ?_ | refine ite_yes rfl ?_ | rw [if_pos rfl]
  refine F3.again fun s4 F4 => ?_
  have C4 := (C2.call F4.go).around (A' := (A.deeper (envOf "_pull" dPull.2.2 L a.pull cdv)).mark (some (.ref e))) rfl
  refine wpAny_execs_cons (wpAny_Return_some (tup_made (args_cons (wpAny_Constant_bool (args_cons (wpAny_Constant_none (args_nil ⟨_, _, _, _, _, _, _, _, C4, by simp [sizeLine_eq], fun t s2 C5 n1 n2 => ?_⟩)))))))
  refine k t _ C5.go ?_ (C5.at 0 rfl) n1.e
  exact C5.at 1 rfl
end
end Mine
end
section
set_option maxRecDepth 100000
set_option autoImplicit false
namespace Mine
open PySem PySem.W PySem.Calls PyProof.Rows PySem.Spec

section
variable {H0 : Heap} {A : Around} {l : List Env} {s : Shared} {prog : Program} {w : World}
theorem enterX {R : Result → Shared → Prop} {f : Addr} {o : Obj} {fd : FuncData} {body : List Stmt} {args : Args} (S : St H0 A l s) (M : List Addr)
    (hroom : A.depth < recursionLimit) (ho : s.heap.get? f = some o) (hdata : o.data = .func fd) (hlim : s.heap.NoLimit) (hcd : s.heap.CodeRec fd.code fd.qualname)
    (hbody : fd.body = .stmts body) (hcell : ∀ x ∈ fd.scope.names, x.2 ≠ .cell)
    (hbind : ∀ E', wpAny (model prog w) A.in1 (bindArgs fd args) (fun binds s₁ => (∀ b o, s.heap.get? b = some o → s₁.heap.get? b = some o) ∧ s.toks ≤ s₁.toks ∧ s₁.gens = s.gens ∧ s₁.os = s.os ∧
      (∀ x ∈ binds, fd.scope.names.lookup x.1 = some .local) ∧ ∃ led, (∀ p ∈ led, Okk s₁.heap p) ∧ (led.map (·.1)).Nodup ∧
      ∀ L s', Cx H0 (A.deeper (callEnv fd L f)) (callEnv fd L f :: l) M s L (fun x => binds.reverse.lookup x) led s' →
      wpAny (model prog w) (A.deeper (callEnv fd L f)) (execs body (callEnv fd L f)) (qRet R)
        (eOut prog w (A.deeper (callEnv fd L f)) (callEnv fd L f) R) s') E' s)
    (hco : fd.scope.isCoroutine = false := by rfl) (hgen : fd.scope.isGenerator = false := by rfl) (hk : fd.scope.kind = .function := by rfl) :
    codeAny (model prog w) A (.call (.ref f) args) R s := by
  refine codeAny_call_function hroom ho hdata hco hgen hbody hcd (wpAny_mono (hbind _) (fun binds s₁ ⟨k1, k2, k3, k4, hloc, led, hled, hnod, h⟩ => ?_) fun _ _ z => z)
  refine wpAny_newFunctionEnv hcell hloc (fun h₀ hns hsb₀ => ⟨(hlim.keeps k1).fresh _ hsb₀, codeAny_func ?_⟩) hk
  have hk₀ : ∀ b o, s₁.heap.get? b = some o → h₀.get? b = some o := fun b o e => hsb₀.extBut b o (Nat.ne_of_lt (Heap.lt_size e)) (Heap.get?_push_of_some _ e)
  have hH : H0.get? s₁.heap.objs.size = none := by
    cases q : H0.get? s₁.heap.objs.size with
    | none => rfl
    | some o => exact absurd (Heap.lt_size (k1 _ _ (S.glob _ _ q))) (Nat.lt_irrefl _)
  have hE : s.heap.get? s₁.heap.objs.size = none := by
    cases q : s.heap.get? s₁.heap.objs.size with
    | none => rfl
    | some o => exact absurd (Heap.lt_size (k1 _ _ q)) (Nat.lt_irrefl _)
  refine h _ _ ⟨⟨fun b o e => hk₀ b o (k1 _ _ (S.glob b o e)), by show (Around.deeper A _).frames = _; unfold Around.deeper; rw [S.frames]; rfl, fun env he => ?_, Nat.lt_of_lt_of_le S.toks (Nat.le_trans k2 (Nat.le_add_right _ _))⟩,
    Go.ext (s := s) (s' := { s₁ with heap := h₀, toks := s₁.toks + binds.length }) (fun b o e => hk₀ _ _ (k1 _ _ e)) (Nat.le_trans k2 (Nat.le_add_right _ _)) k3 k4 _, hns, hE, hH, fun p hp => ⟨hk₀ _ _ (hled p hp).at_, (hled p hp).nd, fun dx e => ?_⟩, fun p hp q => ?_, hnod⟩
  · rcases List.mem_cons.mp he with rfl | he
    · obtain ⟨oL, es, n, h1, h2⟩ := ns_dict hns
      exact ⟨by show fd.scope.kind ≠ _; rw [hk]; decide, _, oL, es, n, rfl, hH, h1, h2⟩
    · obtain ⟨hk', L', o', es, n, h1, h2, h3, h4⟩ := S.fr env he
      exact ⟨hk', L', o', es, n, h1, h2, hk₀ _ _ (k1 _ _ h3), h4⟩
  · obtain ⟨o, h1, h2⟩ := (hled p hp).dx dx e
    exact ⟨o, hk₀ _ _ h1, h2⟩
  · obtain ⟨o, h1, h2⟩ := (hled p hp).dx _ q
    rw [not_at] at h1; cases h1
end

section
variable {K : Frag} {a : Adr} {H0 : Heap} {mg mb : Str → Option Value} {A : Around} {l : List Env} {M : List Addr} {sE : Shared} {L f : Addr} {m : Str → Option Value} {led : List (Addr × Obj)} {s : Shared} {prog : Program} {w : World} {E : Value → Shared → Prop}

theorem enterFX {R : Result → Shared → Prop} {f : Addr} {qual : Str} {d : Arguments × List Stmt × Scope} {dV kV : Value} {args : Args} (G : Gl K H0 mg mb) (S : St H0 A l s) (fk : FnK K f qual d dV kV) (M : List Addr)
    (hroom : A.depth < recursionLimit) (hcell : ∀ x ∈ d.2.2.names, x.2 ≠ .cell)
    (hbind : ∀ name doc pm an cdv ct E', wpAny (model prog w) A.in1 (bindArgs (fnOf name qual d.1 d.2.1 d.2.2 dV kV doc pm an cdv ct) args) (fun binds s₁ => (∀ b o, s.heap.get? b = some o → s₁.heap.get? b = some o) ∧ s.toks ≤ s₁.toks ∧ s₁.gens = s.gens ∧ s₁.os = s.os ∧
      (∀ x ∈ binds, d.2.2.names.lookup x.1 = some .local) ∧ ∃ led, (∀ p ∈ led, Okk s₁.heap p) ∧ (led.map (·.1)).Nodup ∧
      ∀ L cdv s', Cx H0 (A.deeper (envOf qual d.2.2 L f cdv)) (envOf qual d.2.2 L f cdv :: l) M s L (fun x => binds.reverse.lookup x) led s' →
      wpAny (model prog w) (A.deeper (envOf qual d.2.2 L f cdv)) (execs d.2.1 (envOf qual d.2.2 L f cdv)) (qRet R)
        (eOut prog w (A.deeper (envOf qual d.2.2 L f cdv)) (envOf qual d.2.2 L f cdv) R) s') E' s)
    (hco : d.2.2.isCoroutine = false := by rfl) (hgen : d.2.2.isGenerator = false := by rfl) (hk : d.2.2.kind = .function := by rfl) :
    codeAny (model prog w) A (.call (.ref f) args) R s := by
  obtain ⟨name, doc, pm, an, cdv, ct, oc, od, osl, ho, hcd⟩ := fk.ex
  exact enterX (fd := fnOf name qual d.1 d.2.1 d.2.2 dV kV doc pm an cdv ct) S M hroom (S.X G _ _ ho) rfl (S.lim G) (codeRec_of (S.X G) hcd) rfl hcell
    (fun E' => wpAny_mono (hbind _ _ _ _ _ _ E') (fun binds s₁ ⟨k1, k2, k3, k4, hloc, led, hled, hnod, h⟩ => ⟨k1, k2, k3, k4, hloc, led, hled, hnod, fun L s' C => h L cdv s' C⟩) fun _ _ z => z) hco hgen hk

theorem St.make (S : St H0 A l s) (G : Gl K H0 mg mb) {c g : Addr} (ck : ClsK K c) (mk : MethK K c "__init__" g) {args : List Value} {kw : List (Str × Value)} {R : Result → Shared → Prop}
    (h : ∀ x dx s1, Go H0 [] s s1 → Okk s1.heap (x, io c dx []) → s.heap.get? x = none → s.heap.get? dx = none →
      codeAny (model prog w) (A.under (.builtin "type.__call__" ⟨.ref c :: args, kw⟩)) (.call (.ref g) ⟨.ref x :: args, kw⟩) (InitBack x R) s1) : codeAny (model prog w) A (.call (.ref c) ⟨args, kw⟩) R s := by
  have nx : s.heap.get? (s.heap.objs.size + 1) = none := by
    cases q : s.heap.get? (s.heap.objs.size + 1) with
    | none => rfl
    | some o => exact absurd (Heap.lt_size q) (Nat.not_lt.mpr (Nat.le_succ _))
  obtain ⟨hh, gg, d, t, os⟩ := s
  have k : ∀ b o, hh.get? b = some o → ((hh.push emptyDict).push (instObj c hh.objs.size)).get? b = some o := fun b o e => Heap.get?_push_of_some _ (Heap.get?_push_of_some _ e)
  refine make_core (makes_of (S.X G) ck.mkk) (looks_findIn (S.X G) mk.fi) (fun self => bind_fn (S.X G) self mk.ft) (.inl rfl) (h _ hh.objs.size _ (Go.ext (s := ⟨hh, gg, d, t, os⟩) (s' := ⟨(hh.push emptyDict).push (instObj c hh.objs.size), gg, d, t, os⟩) k (Nat.le_refl _) rfl rfl _) ⟨?_, nd_plain, fun dx e => ?_⟩ nx not_at)
  · have := Heap.get?_push_size (h := hh.push emptyDict) (o := instObj c hh.objs.size) rfl
    rwa [Heap.size_push] at this
  · cases e
    exact ⟨emptyDict, Heap.get?_push_of_some _ (Heap.get?_push_size _ rfl), rfl⟩
end
end Mine
end
section
set_option maxRecDepth 100000
set_option autoImplicit false
namespace Mine
open PySem PySem.W PySem.Calls PyProof.Rows PySem.Spec
section
variable {K : Frag} {a : Adr} {H0 : Heap} {mg mb : Str → Option Value} {A : Around} {l : List Env} {s : Shared} {prog : Program} {w : World} {E : Value → Shared → Prop}

theorem Go.push {M : List Addr} (o : Obj) : Go H0 M s { s with heap := s.heap.push o } := Go.ext (s' := { s with heap := s.heap.push o }) (fun _ _ q => Heap.get?_push_of_some _ q) (Nat.le_refl _) rfl rfl _
theorem add_tuple0 {t b : Addr} {v : Value} {vs : List Value} {Q : Value → Shared → Prop} (ht : s.heap.get? t = some (tupO (v :: vs))) (hb : s.heap.get? b = some (tupO [])) (h : Q (.ref t) s) : wpAny (model prog w) A (binaryOp .Add (.ref t) (.ref b)) Q E s :=
  concat_meets ⟨_, ht, rfl⟩ ⟨_, hb, rfl⟩ noFill_tuple_add seq_tuple_add PySem.F.slot_tuple_add PySem.F.entry_tuple_add (PySem.F.args_tuple_add_2 _ _)
    (tuple_addW1 t b (v :: vs).toArray ([] : List Value).toArray 0 0 none none #[] #[] (by simp) (by simp)) ⟨ht, hb, h⟩

theorem igInit_spec (G : Gl K H0 mg mb) (F : KF K a) (S : St H0 A l s) {x dx : Addr} {v : Value} (hx : Okk s.heap (x, io a.ig dx [])) (hH : H0.get? x = none) (hroom : A.depth < recursionLimit) {R : Result → Shared → Prop}
    (k : ∀ tp s', Go H0 [x] s s' → Okk s'.heap (x, io a.ig dx [some (.ref tp)]) → s'.heap.get? tp = some (tupO [v]) → s.heap.get? tp = none → R (.ok (.ret .none)) s') :
    codeAny (model prog w) A (.call (.ref a.igInit) ⟨[.ref x, v], []⟩) R s := by
  refine enterFX G S F.igInit [x] hroom (by decide) fun name doc pm an cdv ct E' => ?_
  have e : ∀ M, wpAny M A.in1 (bindArgs (fnOf name "itemgetter.__init__" dIgInit.1 dIgInit.2.1 dIgInit.2.2 .none .none doc pm an cdv ct) ⟨[.ref x, v], []⟩) = wpAny M A.in1 (newTuple [] >>= fun t => pure [(Str.ofString "self", .ref x), (Str.ofString "item", v), (Str.ofString "items", t)]) := fun _ => rfl
  rw [e]
  refine wpAny_bind (wpAny_newObj_type (wpAny_pure ?_) (by size_fits))
  have hne : x ≠ s.heap.objs.size := ne_nd hx.at_ not_at
  refine ⟨fun b o q => Heap.get?_push_of_some _ q, Nat.le_refl _, rfl, rfl, locs rfl, [(x, io a.ig dx []), (s.heap.objs.size, tupO [])], fun p hp => ?_, by simp [hne], fun L cdv s1 C => ?_⟩
  · rcases List.mem_cons.mp hp with rfl | hp
    · exact hx.go (H0 := H0) (M := []) (s := s) (s' := { s with heap := s.heap.push (tupO []) }) (Go.push _) (fun h => by cases h)
    · rw [List.mem_singleton.mp hp]; exact okk_tup (Heap.get?_push_size _ rfl)
  refine wpAny_execs_cons (plainObj_wpAny_Assign_Attribute (wpAny_BinOp (tup_made (args_cons (C.name rfl (args_nil ⟨_, _, _, _, _, _, _, _, C, by simp [sizeLine_eq], fun t s2 C2 n1 n2 => ?_⟩))))))
  refine C2.name rfl (add_tuple0 (C2.at 0 rfl) (C2.at 2 rfl) ?_)
  refine C2.setA G 1 rfl rfl F.ig F.ig0 (.inl (.head _)) hH fun s3 C3 => ?_
  exact wpAny_execs_nil (k t s3 C3.go (C3.ok 1 rfl) (C3.at 0 rfl) n1.e)

theorem ig_make (G : Gl K H0 mg mb) (F : KF K a) (S : St H0 A l s) {v : Value} (hroom : A.depth + 1 < recursionLimit) {R : Result → Shared → Prop}
    (k : ∀ x dx tp s', Go H0 [] s s' → Okk s'.heap (x, io a.ig dx [some (.ref tp)]) → s'.heap.get? tp = some (tupO [v]) → s.heap.get? x = none → s.heap.get? dx = none → s.heap.get? tp = none → x ≠ tp → R (.ok (.ret (.ref x))) s') :
    codeAny (model prog w) A (.call (.ref a.ig) ⟨[v], []⟩) R s := by
  refine S.make G F.ig F.migI fun x dx s1 g1 ox nx ndx => ?_
  have hH : H0.get? x = none := by
    cases q : H0.get? x with
    | none => rfl
    | some o => have := S.glob _ _ q; rw [nx] at this; cases this
  refine igInit_spec G F ((S.go g1).around (A' := A.under (.builtin "type.__call__" ⟨[.ref a.ig, v], []⟩)) rfl) ox hH hroom fun tp s2 g2 ox2 ht nt => ⟨rfl, ?_⟩
  have ntp : s.heap.get? tp = none := by
    cases q : s.heap.get? tp with
    | none => rfl
    | some o => obtain ⟨o', z⟩ := g1.there _ _ q; rw [nt] at z; cases z
  exact k x dx tp s2 (g1.step g2 fun p hp => .inr (by rw [List.mem_singleton.mp hp]; exact nx)) ox2 ht nx ndx ntp (fun q => by have := ox.at_; rw [q] at this; dsimp only at this; rw [nt] at this; cases this)

theorem igCall_spec (G : Gl K H0 mg mb) (F : KF K a) (S : St H0 A l s) {x dx tp r : Addr} {u : Tok} {v : Value} {vs : List Value} (hx : Okk s.heap (x, io a.ig dx [some (.ref tp)])) (ht : s.heap.get? tp = some (tupO [.int 0 u])) (hr : s.heap.get? r = some (tupO (v :: vs)))
    (hne : tp ≠ r) (hroom : A.depth < recursionLimit) {R : Result → Shared → Prop}
    (k : ∀ s', Go H0 [] s s' → R (.ok (.ret v)) s') :
    codeAny (model prog w) A (.call (.ref a.igCall) ⟨[.ref x, .ref r], []⟩) R s := by
  have h1 : x ≠ tp := fun q => by have := hx.at_; rw [q] at this; dsimp only at this; rw [ht] at this; cases this
  have h2 : x ≠ r := fun q => by have := hx.at_; rw [q] at this; dsimp only at this; rw [hr] at this; cases this
  refine enterF (binds := [(Str.ofString "self", .ref x), (Str.ofString "obj", .ref r)]) G S F.igCall [] [(x, io a.ig dx [some (.ref tp)]), (tp, tupO [.int 0 u]), (r, tupO (v :: vs))] (fun p hp => ?_) (by simp [h1, h2, hne]) hroom (fun _ _ _ _ _ _ => BindsTo.of_eq rfl) (by decide) (locs rfl) fun L cdv s1 _ C => ?_
  · rcases List.mem_cons.mp hp with rfl | hp
    · exact hx
    rcases List.mem_cons.mp hp with rfl | hp
    · exact okk_tup ht
    · rw [List.mem_singleton.mp hp]; exact okk_tup hr
  refine wpAny_execs_cons (wpAny_Assign_Name (C.attr G 0 rfl rfl F.ig F.ig0 rfl rfl fun s2 C2 => C2.set fun s3 C3 => ?_))
  refine wpAny_execs_cons (wpAny_If (wpAny_isTrue_Compare1 (Call_ (C3.boot G F.nlen Boot.«len» (callWith_builtin1 (args_cons (C3.name rfl (args_nil (len_tuple ⟨_, C3.at 1 rfl, rfl, 0, rfl⟩ (by simp) ?_)))))))))
  refine wpAny_Constant_int (eq_int (wpAny_truthy_bool ?_))
  have C4 := C3.tok 3
  simp only [List.size_toArray, List.length_cons, List.length_nil]
  refine ite_yes' (by rfl) ?_
  refine wpAny_execs_cons (wpAny_Return_some (Subscript_ (C4.name rfl ?_)))
  refine Subscript_ (C4.name rfl (wpAny_Constant_int ?_))
  have C5 := C4.tok 1
  refine item_tupleL ⟨_, C5.at 1 rfl, rfl, 0, rfl⟩ (by decide) (by decide) rfl rfl ?_
  refine item_tupleL ⟨_, C5.at 2 rfl, rfl, 0, rfl⟩ (by decide) (by decide) (j := 0) (by simp [seqIndex?]) rfl ?_
  exact k _ C5.go
end
end Mine
end
section
set_option maxRecDepth 100000
set_option autoImplicit false
namespace Mine
open PySem PySem.W PySem.Calls PyProof.Rows PySem.Spec

theorem entry_iter' : entryFor table "iter" = some Builtin.«iter» := entryFor_of_fast (by kernel_rfl)
theorem args_iter' (v : Value) : argsOk "iter" ⟨[v], []⟩ := by unfold argsOk; kernel_rfl

section
variable {H0 : Heap} {A : Around} {l : List Env} {M : List Addr} {sE : Shared} {L : Addr} {m : Str → Option Value} {led : List (Addr × Obj)} {s s' : Shared}
theorem Cx.callAt2 (C : Cx H0 A l M sE L m led s) (i j : Nat) {x y : Addr} {ox oy ox' oy' : Obj} (hi : led[i]? = some (x, ox)) (hj : led[j]? = some (y, oy)) (hij : i ≠ j) (G : Go H0 [x, y] s s') (hox : Okk s'.heap (x, ox')) (hoy : Okk s'.heap (y, oy'))
    (hM : ∀ p ∈ [x, y], p ∈ M ∨ sE.heap.get? p = none) (hx : ox'.dict = ox.dict) (hy : oy'.dict = oy.dict) : Cx H0 A l M sE L m ((led.set i (x, ox')).set j (y, oy')) s' := by
  have dx : ox'.dict ≠ some L := by rw [hx]; exact C.dn _ (List.mem_of_getElem? hi)
  have dy : oy'.dict ≠ some L := by rw [hy]; exact C.dn _ (List.mem_of_getElem? hj)
  have hj' : (led.set i (x, ox'))[j]? = some (y, oy) := by rw [List.getElem?_set_ne hij]; exact hj
  refine C.turn G hM _ (by rw [set_map_fst hj', set_map_fst hi]) fun p hp => ?_
  obtain ⟨k, hk, e⟩ := List.mem_iff_getElem.mp hp
  have hk' : ((led.set i (x, ox')).set j (y, oy'))[k]? = some p := by rw [List.getElem?_eq_getElem hk, e]
  rw [List.getElem?_set] at hk'
  split at hk'
  · split at hk'
    · cases hk'; exact .inr ⟨hoy, dy⟩
    · cases hk'
  · rename_i hjk
    rw [List.getElem?_set] at hk'
    split at hk'
    · split at hk'
      · cases hk'; exact .inr ⟨hox, dx⟩
      · cases hk'
    · rename_i hik
      obtain ⟨u, v⟩ := p
      refine .inl ⟨List.mem_of_getElem? hk', fun q => ?_⟩
      rcases List.mem_cons.mp q with q | q
      · exact nodup_ne C.nodup hi hk' hik q.symm
      · exact nodup_ne C.nodup hj hk' hjk (List.mem_singleton.mp q).symm
theorem Cx.notL (C : Cx H0 A l M sE L m led s) {o : Obj} (h : ∀ dx, o.dict = some dx → s.heap.get? dx = none) : o.dict ≠ some L := fun q => by
  obtain ⟨oL, es, ep, h1, _⟩ := ns_dict C.ns
  rw [h L q] at h1; cases h1
theorem Cx.neN (C : Cx H0 A l M sE L m led s) {t : Addr} (nt : s.heap.get? t = none) : ∀ p ∈ led, p.1 ≠ t := fun p hp => ne_nd (C.has p hp).at_ nt
theorem Cx.callN (C : Cx H0 A l M sE L m led s) (G : Go H0 [] s s') {t : Addr} {o : Obj} (ht : Okk s'.heap (t, o)) (nt : s.heap.get? t = none) (hd : ∀ dx, o.dict = some dx → s.heap.get? dx = none := by intro _ q; cases q) :
    Cx H0 A l M sE L m ((t, o) :: led) s' := (C.call G).add ht (C.neN nt) (C.notL hd)
theorem Cx.callAtN (C : Cx H0 A l M sE L m led s) (i : Nat) {x : Addr} {ox ox' : Obj} (hi : led[i]? = some (x, ox)) (G : Go H0 [x] s s') (hox : Okk s'.heap (x, ox')) (hM : x ∈ M ∨ sE.heap.get? x = none)
    {t : Addr} {o : Obj} (ht : Okk s'.heap (t, o)) (nt : s.heap.get? t = none) (hx : ox'.dict = ox.dict := by rfl) (hd : ∀ dx, o.dict = some dx → s.heap.get? dx = none := by intro _ q; cases q) :
    Cx H0 A l M sE L m ((t, o) :: led.set i (x, ox')) s' := by
  refine (C.callAt i hi G hox hM (by rw [hx]; exact C.dn _ (List.mem_of_getElem? hi))).add ht (fun p hp => ?_) (C.notL hd)
  have hm : p.1 ∈ (led.set i (x, ox')).map (·.1) := List.mem_map_of_mem hp
  rw [set_map_fst hi] at hm
  obtain ⟨q, hq, e⟩ := List.mem_map.mp hm
  rw [← e]; exact C.neN nt q hq
end

section
variable {K : Frag} {a : Adr} {H0 : Heap} {mg mb : Str → Option Value} {A : Around} {l : List Env} {s : Shared} {prog : Program} {w : World} {E : Value → Shared → Prop}

theorem iter_list {lst : Addr} {ol : Obj} {vs : List Value} {n : Nat} {Q : Value → Shared → Prop} (hl : s.heap.get? lst = some ol) (hc : ol.cls = .type "list") (hd : ol.data = .seq vs.toArray n)
    (hQ : Q (.ref s.heap.objs.size) { s with heap := s.heap.push (itO lst 0) }) : wpAny (model prog w) A (call (.builtin "iter") [.ref lst]) Q E s := by
  refine call_function_entry (by decide +kernel) (by decide +kernel) entry_iter' (args_iter' _) ?_
  unfold Builtin.«iter»
  refine wpAny_bind (m := someArgs "iter" 1 2 _) (wpAny_of_eq (a := [Value.ref lst]) (by first | rfl | kernel_rfl!) ?_)
  dsimp only
  exact wpAny_bind (wpAny_pyIter_list ⟨_, hl, hc, n, hd⟩ (wpAny_pure ⟨_, rfl, hQ⟩))

noncomputable def gbS (cg ck cv : Value) (hk hv ht : Bool) (it kf se tk : Value) : List (Option Value) := [some cg, some ck, some cv, some (.bool hk), some (.bool hv), some (.bool ht), some it, some kf, some se, some tk]

theorem gbInit_slots (kf it : Value) (t u : Tok): putS (putS (putS (putS (putS (putS (putS (putS (putS (putS [] 7 kf) 6 it) 5 (.bool false)) 9 .none) 3 (.bool false)) 1 .none) 4 (.bool false)) 2 .none) 0 (.int 0 t)) 8 (.int 0 u) = gbS (.int 0 t) .none .none false false false it kf (.int 0 u) .none := by
  simp [putS, gbS, List.replicate]
theorem gbInit_spec (G : Gl K H0 mg mb) (F : KF K a) (S : St H0 A l s) {x dx lst : Addr} {vs : List Value} {ep : Nat} {kf : Value} (hx : Okk s.heap (x, io a.gb dx [])) (hH : H0.get? x = none) (hl : s.heap.get? lst = some (lstO vs ep)) (hroom : A.depth < recursionLimit) {R : Result → Shared → Prop}
    (k : ∀ it t u s', Go H0 [x] s s' → Okk s'.heap (x, io a.gb dx (gbS (.int 0 t) .none .none false false false (.ref it) kf (.int 0 u) .none)) → s'.heap.get? it = some (itO lst 0) → s.heap.get? it = none → R (.ok (.ret .none)) s') :
    codeAny (model prog w) A (.call (.ref a.gbInit) ⟨[.ref x, .ref lst], [("key", kf)]⟩) R s := by
  obtain ⟨o, n, ho, hs⟩ := F.gbD
  have hne : x ≠ lst := ne_cls hx.at_ hl (by show Value.ref a.gb ≠ .type "list"; intro q; cases q)
  refine enterF (binds := [(Str.ofString "self", .ref x), (Str.ofString "iterable", .ref lst), (Str.ofString "key", kf)]) G S F.gbInit [x] [(x, io a.gb dx []), (lst, lstO vs ep)] (fun p hp => ?_) (by simp [hne]) hroom (fun _ _ _ _ _ _ => binds_K (S.X G) rfl ho hs rfl rfl) (by decide) (locs rfl) fun L cdv s1 _ C => ?_
  · rcases List.mem_cons.mp hp with rfl | hp
    · exact hx
    · rw [List.mem_singleton.mp hp]; exact okk_lst hl
  refine wpAny_execs_cons (plainObj_wpAny_Assign_Attribute (C.name rfl (C.setA G 0 rfl rfl F.gb F.gb7 (.inl (.head _)) hH fun s2 C2 => ?_)))
  refine wpAny_execs_cons (plainObj_wpAny_Assign_Attribute (Call_ (C2.boot G F.niter Boot.«iter» (callWith_builtin1 (args_cons (C2.name rfl (args_nil (iter_list (C2.at 1 rfl) rfl rfl ?_))))))))
  have nit : s2.heap.get? s2.heap.objs.size = none := not_at
  generalize hit : s2.heap.objs.size = it at nit
  have C3 := C2.push (itO lst 0) rfl nd_fields rfl
  rw [hit] at C3
  refine C3.setA G 1 rfl rfl F.gb F.gb6 (.inl (.head _)) hH fun s4 C4 => ?_
  refine wpAny_execs_cons (plainObj_wpAny_Assign_Attribute (wpAny_Constant_bool (C4.setA G 1 rfl rfl F.gb F.gb5 (.inl (.head _)) hH fun s4 C4 => ?_)))
  refine wpAny_execs_cons (plainObj_wpAny_Assign_Attribute (wpAny_Constant_none (C4.setA G 1 rfl rfl F.gb F.gb9 (.inl (.head _)) hH fun s4 C4 => ?_)))
  refine wpAny_execs_cons (plainObj_wpAny_Assign_Attribute (wpAny_Constant_bool (C4.setA G 1 rfl rfl F.gb F.gb3 (.inl (.head _)) hH fun s4 C4 => ?_)))
  refine wpAny_execs_cons (plainObj_wpAny_Assign_Attribute (wpAny_Constant_none (C4.setA G 1 rfl rfl F.gb F.gb1 (.inl (.head _)) hH fun s4 C4 => ?_)))
  refine wpAny_execs_cons (plainObj_wpAny_Assign_Attribute (wpAny_Constant_bool (C4.setA G 1 rfl rfl F.gb F.gb4 (.inl (.head _)) hH fun s4 C4 => ?_)))
  refine wpAny_execs_cons (plainObj_wpAny_Assign_Attribute (wpAny_Constant_none (C4.setA G 1 rfl rfl F.gb F.gb2 (.inl (.head _)) hH fun s4 C4 => ?_)))
  refine wpAny_execs_cons (plainObj_wpAny_Assign_Attribute (wpAny_Constant_int ((C4.tok 1).setA G 1 rfl rfl F.gb F.gb0 (.inl (.head _)) hH fun s5 C5 => ?_)))
  refine wpAny_execs_cons (plainObj_wpAny_Assign_Attribute (wpAny_Constant_int ((C5.tok 1).setA G 1 rfl rfl F.gb F.gb8 (.inl (.head _)) hH (fun s6 C6 => ?_) (he := gbInit_slots _ _ _ _))))
  refine wpAny_execs_nil (k it _ _ s6 C6.go (C6.ok 1 rfl) (C6.at 0 rfl) ?_)
  exact (C2.noE nit).e

theorem gb_make (G : Gl K H0 mg mb) (F : KF K a) (S : St H0 A l s) {lst : Addr} {vs : List Value} {ep : Nat} {kf : Value} (hl : s.heap.get? lst = some (lstO vs ep)) (hroom : A.depth + 1 < recursionLimit) {R : Result → Shared → Prop}
    (k : ∀ x dx it t u s', Go H0 [] s s' → Okk s'.heap (x, io a.gb dx (gbS (.int 0 t) .none .none false false false (.ref it) kf (.int 0 u) .none)) → s'.heap.get? it = some (itO lst 0) → s.heap.get? x = none → s.heap.get? dx = none → s.heap.get? it = none → x ≠ it → R (.ok (.ret (.ref x))) s') :
    codeAny (model prog w) A (.call (.ref a.gb) ⟨[.ref lst], [("key", kf)]⟩) R s := by
  refine S.make G F.gb F.mgbI fun x dx s1 g1 ox nx ndx => ?_
  have hH : H0.get? x = none := by
    cases q : H0.get? x with
    | none => rfl
    | some o => have := S.glob _ _ q; rw [nx] at this; cases this
  refine gbInit_spec G F ((S.go g1).around (A' := A.under (.builtin "type.__call__" ⟨[.ref a.gb, .ref lst], [("key", kf)]⟩)) rfl) ox hH (g1.nd _ _ hl (fun h => nomatch h) nd_seq) hroom fun it t u s2 g2 ox2 hit nit => ⟨rfl, ?_⟩
  have nit' : s.heap.get? it = none := by
    cases q : s.heap.get? it with
    | none => rfl
    | some o => obtain ⟨o', z⟩ := g1.there _ _ q; rw [nit] at z; cases z
  exact k x dx it t u s2 (g1.step g2 fun p hp => .inr (by rw [List.mem_singleton.mp hp]; exact nx)) ox2 hit nx ndx nit' (ne_nd ox.at_ nit)
end
end Mine
end
section
set_option maxRecDepth 100000
set_option autoImplicit false
namespace Mine
open PySem PySem.W PySem.Calls PyProof.Rows PySem.Spec
section
variable {K : Frag} {a : Adr} {H0 : Heap} {mg mb : Str → Option Value} {A : Around} {l : List Env} {M : List Addr} {sE : Shared} {L f : Addr} {m : Str → Option Value} {led : List (Addr × Obj)} {s : Shared} {prog : Program} {w : World} {E : Value → Shared → Prop}
variable {cn : Str} {cs : Scope} {cdv : Value}

theorem call_inst (X : K.In s.heap) {x c dx g : Addr} {sl : List (Option Value)} {pos : List Value} {kw : List (Str × Value)} {R : Result → Shared → Prop} (hx : Okk s.heap (x, io c dx sl)) (mk : MethK K c "__call__" g)
    (h : codeAny (model prog w) A (.call (.ref g) ⟨.ref x :: pos, kw⟩) R s) : codeAny (model prog w) A (.call (.ref x) ⟨pos, kw⟩) R s := by
  obtain ⟨od, I, hod⟩ := instAt hx
  refine codeAny_of_tree ?_
  show wpAny _ _ (callAny (.ref x) _) _ _ _
  refine nd_load hx.at_ ?_
  show wpAny _ _ (callAny.viaDunder (.ref x) _) _ _ _
  unfold callAny.viaDunder specialOf
  refine wpAny_bind (wpAny_bind (I.type.here ((looks_findIn X mk.fi).here ?_)))
  refine wpAny_bind ((bind_fn X _ mk.ft).here ?_)
  have hf := mk.fn
  unfold fnIn at hf
  split at hf
  · rename_i e
    refine wpAny_bind ?_
    unfold callAny.plainCallee
    refine wpAny_bind (wpAny_load (X _ _ e) (wpAny_pure ?_))
    first | refine ite_yes' rfl ?_ | refine ite_yes rfl ?_ | rw [if_pos rfl]
    exact wpAny_pure (a := Fin.again (.call (.ref g) ⟨.ref x :: pos, kw⟩)) (And.intro rfl h)
  · cases hf

theorem Cx.callSlot (C : Cx H0 A l M sE L m led s) (G : Gl K H0 mg mb) {nm name : Str} {np ap pos : Pos} {e : Expr} {rest : List Expr} {pl : Sem Bool} {x c dx : Addr} {sl : List (Option Value)} {i : Nat} {v : Value} {Q : Value → Shared → Prop} (j : Nat) (hj : led[j]? = some (x, io c dx sl))
    (hm : m nm = some (.ref x)) (ck : ClsK K c) (sk : SlotK K c name i) (hv : sl[i]? = some (some v)) (hd : handedIn v = true)
    (h : ∀ s', Cx H0 A l M sE L m led s' → wpAny (model prog w) A (spliced (backTo pos (starEach (e :: rest) (envOf cn cs L f cdv)))) (fun vs s₁ => (∃ k, Looks (model prog w) s₁.heap (keeperOf v) k) ∧ wpAny (model prog w) A (PySem.call v vs) Q E s₁) E s')
    (hk : cs.kind = .function := by rfl) (hl : cs.names.lookup nm = some .local := by rfl) (hdb : (nm == ("__debug__" : Str)) = false := by decide)
    (hst : starEach (e :: rest) (envOf cn cs L f cdv) = (false, eval e (envOf cn cs L f cdv)) :: starEach rest (envOf cn cs L f cdv) := by rfl)
    (he : eval (.Call (.Attribute (.Name nm np) name ap) (e :: rest) [] pos) (envOf cn cs L f cdv) = (do
      let ov ← eval (.Name nm np) (envOf cn cs L f cdv)
      standAt ap.atName
      let (f', first) ← holding [ov] (getMethod ov name pl)
      callWith pos f' first (backTo pos (starEach (e :: rest) (envOf cn cs L f cdv))) (backToKw pos (keywordEach [] (envOf cn cs L f cdv)))) := by rfl) :
    wpAny (model prog w) A (eval (.Call (.Attribute (.Name nm np) name ap) (e :: rest) [] pos) (envOf cn cs L f cdv)) Q E s := by
  refine methodCall_KW (C.name hm ?_ hk hl hdb) he
  obtain ⟨od, I, hod⟩ := instAt (C.ok j hj)
  obtain ⟨p, h1, h2, h3, h4, h5, h6⟩ := sk.ex
  refine method_usual (C.st.X G) I ck.ga ck.gt h1 (by simp [h5]) (C.getS G j hj ck sk hv hd fun s' C' => ?_)
  refine callWith_any ?_
  have := h s' C'
  rw [hst] at this ⊢
  exact evalArgs_plain this

theorem Cx.callMeth0 (C : Cx H0 A l M sE L m led s) (G : Gl K H0 mg mb) {nm name : Str} {np ap pos : Pos} {pl : Sem Bool} {x c dx g : Addr} {sl : List (Option Value)} {Q : Value → Shared → Prop} (j : Nat) (hj : led[j]? = some (x, io c dx sl))
    (hm : m nm = some (.ref x)) (ck : ClsK K c) (mk : MethK K c name g) (h : wpAny (model prog w) A (PySem.call (.ref g) [.ref x]) Q E s)
    (hk : cs.kind = .function := by rfl) (hl : cs.names.lookup nm = some .local := by rfl) (hdb : (nm == ("__debug__" : Str)) = false := by decide)
    (he : eval (.Call (.Attribute (.Name nm np) name ap) [] [] pos) (envOf cn cs L f cdv) = (do
      let ov ← eval (.Name nm np) (envOf cn cs L f cdv)
      standAt ap.atName
      let (f', first) ← holding [ov] (getMethod ov name pl)
      callWith pos f' first (backTo pos (starEach [] (envOf cn cs L f cdv))) (backToKw pos (keywordEach [] (envOf cn cs L f cdv)))) := by rfl) :
    wpAny (model prog w) A (eval (.Call (.Attribute (.Name nm np) name ap) [] [] pos) (envOf cn cs L f cdv)) Q E s := by
  refine methodCall_KW (C.name hm ?_ hk hl hdb) he
  refine C.meth G j hj ck mk ?_
  exact callWith_K0 (C.st.X G) mk.kp h

theorem Cx.callFn (C : Cx H0 A l M sE L m led s) (G : Gl K H0 mg mb) {nm : Str} {np pos : Pos} {e : Expr} {rest : List Expr} {g : Addr} {Q : Value → Shared → Prop} (hn : nsIn K mainGlobals nm = some (some (.ref g))) (hkp : keepIn K (.ref g) = true)
    (h : wpAny (model prog w) A (spliced (backTo pos (starEach (e :: rest) (envOf cn cs L f cdv)))) (fun vs s₁ => K.In s₁.heap ∧ wpAny (model prog w) A (PySem.call (.ref g) vs) Q E s₁) E s)
    (hk : cs.kind = .function := by rfl) (hl : cs.names.lookup nm = some .globalImplicit := by rfl) (hdb : (nm == ("__debug__" : Str)) = false := by decide)
    (hst : starEach (e :: rest) (envOf cn cs L f cdv) = (false, eval e (envOf cn cs L f cdv)) :: starEach rest (envOf cn cs L f cdv) := by rfl)
    (hplain : (backTo pos (starEach rest (envOf cn cs L f cdv))).any (·.1) = false := by rfl) :
    wpAny (model prog w) A (eval (.Call (.Name nm np) (e :: rest) [] pos) (envOf cn cs L f cdv)) Q E s :=
  Call_ (C.global G hn (callWith_K (C.st.X G) hkp h hst hplain) hk hl hdb)

theorem keep_inst {x c dx : Addr} {sl : List (Option Value)} (M : Model) (hx : Okk s.heap (x, io c dx sl)) : ∃ k, Looks M s.heap (keeperOf (.ref x)) k := ⟨.caller, (Looks.ld (part := none) hx.at_).andThen .now⟩

structure Step (K : Frag) (a : Adr) (H0 : Heap) (h : Heap) (x dg it lst ig di tp r : Addr) (i : Nat) (vs : List Value) (ep : Nat) (key : Value) (rest : List Value) (u : Tok) (sl : List (Option Value)) : Prop where
  has : ∀ p ∈ [(x, io a.gb dg sl), (it, itO lst i), (lst, lstO vs ep), (ig, io a.ig di [some (.ref tp)]), (tp, tupO [.int 0 u]), (r, tupO (key :: rest))], Okk h p
  nodup : [x, it, lst, ig, tp, r].Nodup
  hx : H0.get? x = none
  hit : H0.get? it = none
  row : vs[i]? = some (.ref r)

set_option maxHeartbeats 1000000 in
theorem step_more (G : Gl K H0 mg mb) (F : KF K a) (S : St H0 A l s) {x dg it lst ig di tp r : Addr} {i : Nat} {vs : List Value} {ep : Nat} {key : Value} {rest : List Value} {u : Tok} {cg ck cv se tk : Value} {hk hv ht : Bool}
    (Z : Step K a H0 s.heap x dg it lst ig di tp r i vs ep key rest u (gbS cg ck cv hk hv ht (.ref it) (.ref ig) se tk)) (hroom : A.depth + 1 < recursionLimit) (hh : A.handled = none) {R : Result → Shared → Prop}
    (k : ∀ s', Go H0 [x, it] s s' → Okk s'.heap (x, io a.gb dg (gbS cg key (.ref r) true true ht (.ref it) (.ref ig) se tk)) → s'.heap.get? it = some (itO lst (i + 1)) → R (.ok (.ret .none)) s') :
    codeAny (model prog w) A (.call (.ref a.gbStep) ⟨[.ref x], []⟩) R s := by
  refine enterF (binds := [(Str.ofString "self", .ref x)]) G S F.gbStep [x, it] _ Z.has Z.nodup (Nat.lt_of_succ_lt hroom) (fun _ _ _ _ _ _ => BindsTo.of_eq rfl) (by decide) (locs rfl) fun L cdv s1 _ C => ?_
  refine wpAny_execs_cons (Assign_Tuple (C.callFn G F.npull F.kpull (args_cons (C.attr G 0 rfl rfl F.gb F.gb6 rfl rfl fun s2 C2 => args_nil ⟨C2.st.X G, ?_⟩))))
  refine pull_more G F C2.st (C2.at 1 rfl) Z.hit (C2.at 2 rfl) Z.row hroom hh fun t s3 g3 hit3 ht3 nt3 => ?_
  have C3 := C2.callAtN 1 rfl g3 (okk_it hit3) (.inl (by simp)) (okk_tup ht3) nt3
  refine C3.unpack2 0 rfl hh fun s4 C4 => ?_
  refine wpAny_execs_cons (wpAny_If (wpAny_isTrue_Not (wpAny_isTrue_value (C4.name rfl (wpAny_truthy_bool ?_)))))
  (try simp only [Bool.not_true, Bool.false_eq_true, if_false])
  refine wpAny_execs_nil ?_
  refine wpAny_execs_cons (wpAny_If (wpAny_isTrue_Compare1 (C4.attr G 1 rfl rfl F.gb F.gb7 rfl rfl fun s5 C5 => wpAny_Constant_none (is_none (wpAny_truthy_bool ?_)))))
  refine ite_no' rfl ?_
  refine wpAny_execs_cons (wpAny_Assign_Name (C5.callSlot G 1 rfl rfl F.gb F.gb7 rfl rfl fun s6 C6 => args_cons (C6.name rfl (args_nil ⟨keep_inst _ (C6.ok 4 rfl), ?_⟩))))
  refine wpAny_call (call_inst (C6.st.X G) (C6.ok 4 rfl) F.migC (igCall_spec G F C6.st (C6.ok 4 rfl) (C6.at 5 rfl) (C6.at 6 rfl) (C6.ne (i := 5) (j := 6) rfl rfl) hroom fun s7 g7 => ?_))
  have C7 := C6.call g7
  refine C7.set fun s8 C8 => wpAny_execs_nil ?_
  refine wpAny_execs_cons (plainObj_wpAny_Assign_Attribute (C8.name rfl (C8.setA G 1 rfl rfl F.gb F.gb2 (.inl (by simp)) Z.hx (fun s9 C9 => ?_) (sl' := gbS cg ck (.ref r) hk hv ht (.ref it) (.ref ig) se tk) (he := by simp [putS, gbS]))))
  refine wpAny_execs_cons (plainObj_wpAny_Assign_Attribute (wpAny_Constant_bool (C9.setA G 1 rfl rfl F.gb F.gb4 (.inl (by simp)) Z.hx (fun s10 C10 => ?_) (sl' := gbS cg ck (.ref r) hk true ht (.ref it) (.ref ig) se tk) (he := by simp [putS, gbS]))))
  refine wpAny_execs_cons (plainObj_wpAny_Assign_Attribute (C10.name rfl (C10.setA G 1 rfl rfl F.gb F.gb1 (.inl (by simp)) Z.hx (fun s11 C11 => ?_) (sl' := gbS cg key (.ref r) hk true ht (.ref it) (.ref ig) se tk) (he := by simp [putS, gbS]))))
  refine wpAny_execs_cons (plainObj_wpAny_Assign_Attribute (wpAny_Constant_bool (C11.setA G 1 rfl rfl F.gb F.gb3 (.inl (by simp)) Z.hx (fun s12 C12 => ?_) (sl' := gbS cg key (.ref r) true true ht (.ref it) (.ref ig) se tk) (he := by simp [putS, gbS]))))
  exact wpAny_execs_nil (k s12 C12.go (C12.ok 1 rfl) (C12.at 2 rfl))
end
end Mine
end
section
set_option maxRecDepth 100000
set_option autoImplicit false
namespace Mine
open PySem PySem.W PySem.Calls PyProof.Rows PySem.Spec
section
variable {K : Frag} {a : Adr} {H0 : Heap} {mg mb : Str → Option Value} {A : Around} {l : List Env} {s : Shared} {prog : Program} {w : World} {E : Value → Shared → Prop}

noncomputable def grS (nb par tk : Value) : List (Option Value) := [some nb, some par, some tk]

theorem isNot_self {x : Addr} {Q : Value → Shared → Prop} (h : Q (.bool false) s) : wpAny (model prog w) A (compareOp .IsNot (.ref x) (.ref x)) Q E s := by
  show wpAny _ A (do return .bool (!(← isSame (.ref x) (.ref x)))) Q E s
  have e : isSame (.ref x) (.ref x) = pure true := by unfold isSame; simp
  rw [e]; exact wpAny_bind (wpAny_pure (wpAny_pure h))
theorem type_ref {x : Addr} {ox : Obj} {Q : Value → Shared → Prop} (he : s.heap.get? x = some ox) (hnb : (ox.cls == .type "builtin_function_or_method") = false) (hq : Q ox.cls s) : wpAny (model prog w) A (call (.type "type") [.ref x]) Q E s := by
  obtain ⟨h, g, d, t, os⟩ := s; exact call_type_obj he hnb hq

set_option maxHeartbeats 1000000 in
theorem grInit_spec (G : Gl K H0 mg mb) (F : KF K a) (S : St H0 A l s) {x dg y dy : Addr} {cg ck cv it kf tk key : Value} {hk hv ht : Bool} {n : Int} {t : Tok}
    (hx : Okk s.heap (x, io a.gb dg (gbS cg ck cv hk hv ht it kf (.int n t) tk))) (hy : Okk s.heap (y, io a.gr dy [])) (hne : x ≠ y) (hHx : H0.get? x = none) (hHy : H0.get? y = none) (hroom : A.depth < recursionLimit) {R : Result → Shared → Prop}
    (k : ∀ u s', Go H0 [x, y] s s' → Okk s'.heap (x, io a.gb dg (gbS (.int (n + 1) u) ck cv hk hv ht it kf (.int (n + 1) u) tk)) → Okk s'.heap (y, io a.gr dy (grS (.int (n + 1) u) (.ref x) key)) → R (.ok (.ret .none)) s') :
    codeAny (model prog w) A (.call (.ref a.grInit) ⟨[.ref y, .ref x, key], []⟩) R s := by
  refine enterF (binds := [(Str.ofString "self", .ref y), (Str.ofString "parent", .ref x), (Str.ofString "tgtkey", key)]) G S F.grInit [x, y] [(x, io a.gb dg (gbS cg ck cv hk hv ht it kf (.int n t) tk)), (y, io a.gr dy [])] (fun p hp => ?_) (by simp [hne]) hroom (fun _ _ _ _ _ _ => BindsTo.of_eq rfl) (by decide) (locs rfl) fun L cdv s1 _ C => ?_
  · rcases List.mem_cons.mp hp with rfl | hp
    · exact hx
    · rw [List.mem_singleton.mp hp]; exact hy
  refine wpAny_execs_cons (wpAny_If (wpAny_isTrue_Compare1 (Call_ (C.boot G F.ntype Boot.«type» (PySem.callWith_type rfl (evalArgs_plain (args_cons (C.name rfl (args_nil (type_ref (C.at 0 rfl) rfl (C.global G F.ngb (isNot_self (wpAny_truthy_bool ?_)))))))))))))
  (try simp only [Bool.false_eq_true, if_false])
  refine wpAny_execs_nil ?_
  refine wpAny_execs_cons (plainObj_wpAny_Assign_Attribute (C.name rfl (C.setA G 1 rfl rfl F.gr F.gr1 (.inl (by simp)) hHy (fun s2 C2 => ?_) (sl' := [none, some (.ref x)]) (he := by simp [putS]))))
  refine wpAny_execs_cons (plainObj_wpAny_Assign_Attribute (C2.name rfl (C2.setA G 1 rfl rfl F.gr F.gr2 (.inl (by simp)) hHy (fun s3 C3 => ?_) (sl' := [none, some (.ref x), some key]) (he := by simp [putS]))))
  refine wpAny_execs_cons (wpAny_AugAssign_AttributeAny (C3.name rfl (C3.getS G 0 rfl F.gb F.gb8 rfl rfl fun s4 C4 => wpAny_Constant_int (iadd_int ?_))))
  have C5 := C4.tok 2
  refine C5.setS G 0 rfl F.gb F.gb8 (.inl (by simp)) hHx (fun s6 C6 => ?_) (sl' := gbS cg ck cv hk hv ht it kf (.int (n + 1) (s4.toks + 1)) tk) (he := by simp [putS, gbS])
  refine wpAny_execs_cons (plainObj_wpAny_Assign_Attribute (C6.attr G 0 rfl rfl F.gb F.gb8 rfl rfl fun s7 C7 => C7.setA G 1 rfl rfl F.gr F.gr0 (.inl (by simp)) hHy (fun s8 C8 => ?_) (sl' := grS (.int (n + 1) (s4.toks + 1)) (.ref x) key) (he := by simp [putS, grS])))
  refine wpAny_execs_cons (plainObj_wpAny_Assign_Attribute (C8.attr G 0 rfl rfl F.gb F.gb8 rfl rfl fun s9 C9 => C9.setA G 0 rfl rfl F.gb F.gb0 (.inl (by simp)) hHx (fun s10 C10 => ?_) (sl' := gbS (.int (n + 1) (s4.toks + 1)) ck cv hk hv ht it kf (.int (n + 1) (s4.toks + 1)) tk) (he := by simp [putS, gbS])))
  exact wpAny_execs_nil (k _ s10 C10.go (C10.ok 0 rfl) (C10.ok 1 rfl))

theorem gr_make (G : Gl K H0 mg mb) (F : KF K a) (S : St H0 A l s) {x dg : Addr} {cg ck cv it kf tk key : Value} {hk hv ht : Bool} {n : Int} {t : Tok}
    (hx : Okk s.heap (x, io a.gb dg (gbS cg ck cv hk hv ht it kf (.int n t) tk))) (hHx : H0.get? x = none) (hroom : A.depth + 1 < recursionLimit) {R : Result → Shared → Prop}
    (k : ∀ y dy u s', Go H0 [x] s s' → Okk s'.heap (x, io a.gb dg (gbS (.int (n + 1) u) ck cv hk hv ht it kf (.int (n + 1) u) tk)) → Okk s'.heap (y, io a.gr dy (grS (.int (n + 1) u) (.ref x) key)) → s.heap.get? y = none → s.heap.get? dy = none → R (.ok (.ret (.ref y))) s') :
    codeAny (model prog w) A (.call (.ref a.gr) ⟨[.ref x, key], []⟩) R s := by
  refine S.make G F.gr F.mgrI fun y dy s1 g1 oy ny ndy => ?_
  have hH : H0.get? y = none := by
    cases q : H0.get? y with
    | none => rfl
    | some o => have := S.glob _ _ q; rw [ny] at this; cases this
  refine grInit_spec G F ((S.go g1).around (A' := A.under (.builtin "type.__call__" ⟨[.ref a.gr, .ref x, key], []⟩)) rfl) (hx.go g1 (fun h => nomatch h)) oy (ne_nd hx.at_ ny) hHx hH hroom fun u s2 g2 ox2 oy2 => ⟨rfl, ?_⟩
  exact k y dy u s2 ((g1.mono (M' := [x]) (fun p h => nomatch h)).step g2 fun p hp => by
    rcases List.mem_cons.mp hp with rfl | hp
    · exact .inl (.head _)
    · rw [List.mem_singleton.mp hp]; exact .inr ny) ox2 oy2 ny ndy

theorem step_end (G : Gl K H0 mg mb) (F : KF K a) (S : St H0 A l s) {x dg it lst : Addr} {i : Nat} {vs : List Value} {ep : Nat} {cg ck cv kf se tk : Value} {hk hv ht : Bool}
    (hx : Okk s.heap (x, io a.gb dg (gbS cg ck cv hk hv ht (.ref it) kf se tk))) (hit : s.heap.get? it = some (itO lst i)) (hl : s.heap.get? lst = some (lstO vs ep)) (hHit : H0.get? it = none) (hi : vs[i]? = none)
    (hroom : A.depth + 1 < recursionLimit) (hh : A.handled = none) {R : Result → Shared → Prop}
    (k : ∀ e t s', Fly H0 [it] s l e (.type "StopIteration") (.ref t) [(x, io a.gb dg (gbS cg ck cv hk hv ht (.ref it) kf se tk)), (it, itE i), (lst, lstO vs ep)] s' → R (.error (.ref e)) s') :
    codeAny (model prog w) A (.call (.ref a.gbStep) ⟨[.ref x], []⟩) R s := by
  have h1 : x ≠ it := ne_cls hx.at_ hit (by show Value.ref a.gb ≠ .type _; intro q; cases q)
  have h2 : x ≠ lst := ne_cls hx.at_ hl (by show Value.ref a.gb ≠ .type _; intro q; cases q)
  have h3 : it ≠ lst := ne_cls hit hl (by show Value.type "list_iterator" ≠ .type "list"; decide)
  refine enterF (binds := [(Str.ofString "self", .ref x)]) G S F.gbStep [it] [(x, io a.gb dg (gbS cg ck cv hk hv ht (.ref it) kf se tk)), (it, itO lst i), (lst, lstO vs ep)] (fun p hp => ?_) (by simp [h1, h2, h3]) (Nat.lt_of_succ_lt hroom) (fun _ _ _ _ _ _ => BindsTo.of_eq rfl) (by decide) (locs rfl) fun L cdv s1 _ C => ?_
  · rcases List.mem_cons.mp hp with rfl | hp
    · exact hx
    rcases List.mem_cons.mp hp with rfl | hp
    · exact okk_it hit
    · rw [List.mem_singleton.mp hp]; exact okk_lst hl
  refine wpAny_execs_cons (Assign_Tuple (C.callFn G F.npull F.kpull (args_cons (C.attr G 0 rfl rfl F.gb F.gb6 rfl rfl fun s2 C2 => args_nil ⟨C2.st.X G, ?_⟩))))
  refine pull_end G F C2.st (C2.at 1 rfl) hHit (C2.at 2 rfl) hi hroom hh fun t s3 g3 hit3 ht3 nt3 => ?_
  have C3 := C2.callAtN 1 rfl g3 (.of hit3 nd_fields rfl) (.inl (by simp)) (okk_tup ht3) nt3
  refine C3.unpack2 0 rfl hh fun s4 C4 => ?_
  refine wpAny_execs_cons (wpAny_If (wpAny_isTrue_Not (wpAny_isTrue_value (C4.name rfl (wpAny_truthy_bool ?_)))))
  (try simp only [Bool.not_false, if_true])
  refine wpAny_execs_cons (owsi_raiseC hh (C4.boot G F.nstop Boot.«StopIteration» ⟨rfl, rfl⟩) fun h' e hm => ?_)
  refine C4.raised (cls := .type "StopIteration") ⟨hm.keeps, hm.new, hm.there⟩ rfl fun t s5 F5 _ => ?_
  exact k e t s5 { F5 with ex := by obtain ⟨B, q1, q2, q3, q4, q5⟩ := F5.ex; exact ⟨B, q1, q2, q3, q4, fun p hp => q5 p (.tail _ hp)⟩, has := fun p hp => F5.has p (.tail _ hp) }
end
end Mine
end
section
set_option maxRecDepth 100000
set_option autoImplicit false
namespace Mine
open PySem PySem.W PySem.Calls PyProof.Rows PySem.Spec
section
variable {K : Frag} {a : Adr} {H0 : Heap} {mg mb : Str → Option Value} {A : Around} {l : List Env} {M : List Addr} {s s1 : Shared} {L : Addr} {m : Str → Option Value} {prog : Program} {w : World} {E : Value → Shared → Prop} {cdv : Value}

theorem gbIter_spec (G : Gl K H0 mg mb) (F : KF K a) (S : St H0 A l s) {x : Addr} (hroom : A.depth < recursionLimit) {Q : Value → Shared → Prop} (k : ∀ s', Go H0 [] s s' → Q (.ref x) s') : wpAny (model prog w) A (call (.ref a.gbIter) [.ref x]) Q E s := by
  refine wpAny_call (enterF (binds := [(Str.ofString "self", .ref x)]) G S F.gbIter [] [] (fun _ h => nomatch h) List.nodup_nil hroom (fun _ _ _ _ _ _ => BindsTo.of_eq rfl) (by decide) (locs rfl) fun L cdv s1 _ C => ?_)
  exact wpAny_execs_cons (wpAny_Return_some (C.name rfl (k _ C.go)))
theorem grIter_spec (G : Gl K H0 mg mb) (F : KF K a) (S : St H0 A l s) {x : Addr} (hroom : A.depth < recursionLimit) {Q : Value → Shared → Prop} (k : ∀ s', Go H0 [] s s' → Q (.ref x) s') : wpAny (model prog w) A (call (.ref a.grIter) [.ref x]) Q E s := by
  refine wpAny_call (enterF (binds := [(Str.ofString "self", .ref x)]) G S F.grIter [] [] (fun _ h => nomatch h) List.nodup_nil hroom (fun _ _ _ _ _ _ => BindsTo.of_eq rfl) (by decide) (locs rfl) fun L cdv s1 _ C => ?_)
  exact wpAny_execs_cons (wpAny_Return_some (C.name rfl (k _ C.go)))
theorem ctIter_spec (G : Gl K H0 mg mb) (F : KF K a) (S : St H0 A l s) {x : Addr} (hroom : A.depth < recursionLimit) {Q : Value → Shared → Prop} (k : ∀ s', Go H0 [] s s' → Q (.ref x) s') : wpAny (model prog w) A (call (.ref a.ctIter) [.ref x]) Q E s := by
  refine wpAny_call (enterF (binds := [(Str.ofString "self", .ref x)]) G S F.ctIter [] [] (fun _ h => nomatch h) List.nodup_nil hroom (fun _ _ _ _ _ _ => BindsTo.of_eq rfl) (by decide) (locs rfl) fun L cdv s1 _ C => ?_)
  exact wpAny_execs_cons (wpAny_Return_some (C.name rfl (k _ C.go)))

set_option maxHeartbeats 1000000 in
theorem gbNext_tail (G : Gl K H0 mg mb) (F : KF K a) {x dg : Addr} {cg ck cv it kf tk : Value} {hv ht : Bool} {n : Int} {t₀ : Tok} {led : List (Addr × Obj)}
    (C : Cx H0 (A.deeper (envOf "groupby.__next__" dGbNext.2.2 L a.gbNext cdv)) (envOf "groupby.__next__" dGbNext.2.2 L a.gbNext cdv :: l) M s L m ((x, io a.gb dg (gbS cg ck cv true hv ht it kf (.int n t₀) tk)) :: led) s1)
    (hm : m "self" = some (.ref x)) (hM : x ∈ M) (hHx : H0.get? x = none) (hck : handedIn ck = true) (hroom : A.depth + 2 < recursionLimit) {Q : Flow → Shared → Prop}
    (k : ∀ y dy t u s', Cx H0 (A.deeper (envOf "groupby.__next__" dGbNext.2.2 L a.gbNext cdv)) (envOf "groupby.__next__" dGbNext.2.2 L a.gbNext cdv :: l) M s L (updM m "grouper" (.ref y))
      ((t, tupO [ck, .ref y]) :: (y, io a.gr dy (grS (.int (n + 1) u) (.ref x) ck)) :: (x, io a.gb dg (gbS (.int (n + 1) u) ck cv true hv true it kf (.int (n + 1) u) ck)) :: led) s' →
      s.heap.get? y = none → s.heap.get? dy = none → s.heap.get? t = none → Q (.ret (.ref t)) s') :
    wpAny (model prog w) (A.deeper (envOf "groupby.__next__" dGbNext.2.2 L a.gbNext cdv)) (execs (dGbNext.2.1.drop 2) (envOf "groupby.__next__" dGbNext.2.2 L a.gbNext cdv)) Q E s1 := by
  refine wpAny_execs_cons (plainObj_wpAny_Assign_Attribute (C.attr G 0 rfl hm F.gb F.gb1 rfl hck fun s2 C2 => C2.setA G 0 rfl hm F.gb F.gb9 (.inl hM) hHx (fun s3 C3 => ?_) (sl' := gbS cg ck cv true hv ht it kf (.int n t₀) ck) (he := by simp [putS, gbS])))
  refine wpAny_execs_cons (plainObj_wpAny_Assign_Attribute (wpAny_Constant_bool (C3.setA G 0 rfl hm F.gb F.gb5 (.inl hM) hHx (fun s4 C4 => ?_) (sl' := gbS cg ck cv true hv true it kf (.int n t₀) ck) (he := by simp [putS, gbS]))))
  refine wpAny_execs_cons (wpAny_Assign_Name (C4.callFn G F.ngr F.kgr (args_cons (C4.name hm (args_cons (C4.attr G 0 rfl hm F.gb F.gb9 rfl hck fun s5 C5 => args_nil ⟨C5.st.X G, ?_⟩))))))
  refine wpAny_call (gr_make G F C5.st (C5.ok 0 rfl) hHx hroom fun y dy u s6 g6 ox6 oy6 ny ndy => ?_)
  have C6 := C5.callAtN 0 rfl g6 ox6 (.inl hM) oy6 ny (hd := fun dx q => by cases q; exact ndy)
  refine C6.set fun s7 C7 => ?_
  refine wpAny_execs_cons (wpAny_Return_some (tup_made (args_cons (C7.attr G 1 rfl ((if_neg (by decide)).trans hm) F.gb F.gb1 rfl hck fun s8 C8 => args_cons (C8.name rfl (args_nil ⟨_, _, _, _, _, _, _, _, C8, by simp [sizeLine_eq], fun t s9 C9 n1 n2 => ?_⟩))))))
  exact k y dy t u s9 C9 (C5.noE ny).e (C5.noE ndy).e n1.e

noncomputable def gbE : Str × List Stmt × Scope := ("groupby.__next__", dGbNext.2.1, dGbNext.2.2)

set_option maxHeartbeats 1000000 in
theorem gbNext_more (G : Gl K H0 mg mb) (F : KF K a) (S : St H0 A l s) (κ : KeyOps) {x dg : Addr} {cg ck cv it kf tk : Value} {hv : Bool} {n : Int} {t₀ : Tok} {led : List (Addr × Obj)}
    (hled : ∀ p ∈ (x, io a.gb dg (gbS cg ck cv true hv true it kf (.int n t₀) tk)) :: led, Okk s.heap p) (hnod : (((x, io a.gb dg (gbS cg ck cv true hv true it kf (.int n t₀) tk)) :: led).map (·.1)).Nodup) (hHx : H0.get? x = none)
    (hpk : κ.P ck) (hpt : κ.P tk) (h1 : tokOf ck ≠ 0) (h2 : tokOf tk ≠ 0) (htok : tokOf tk = tokOf ck → κ.eq tk ck = true) (hne : κ.eq tk ck = false) (hd : handedIn ck = true) (hd' : handedIn tk = true)
    (hroom : A.depth + 2 < recursionLimit) {R : Result → Shared → Prop}
    (k : ∀ y dy t u s', Go H0 [x] s s' → Okk s'.heap (x, io a.gb dg (gbS (.int (n + 1) u) ck cv true hv true it kf (.int (n + 1) u) ck)) → Okk s'.heap (y, io a.gr dy (grS (.int (n + 1) u) (.ref x) ck)) → Okk s'.heap (t, tupO [ck, .ref y]) → (∀ p ∈ led, Okk s'.heap p) →
      s.heap.get? y = none → s.heap.get? dy = none → s.heap.get? t = none → y ≠ t → R (.ok (.ret (.ref t))) s') :
    codeAny (model prog w) A (.call (.ref a.gbNext) ⟨[.ref x], []⟩) R s := by
  refine enterF (binds := [(Str.ofString "self", .ref x)]) G S F.gbNext [x] _ hled hnod (Nat.lt_of_succ_lt (Nat.lt_of_succ_lt hroom)) (fun _ _ _ _ _ _ => BindsTo.of_eq rfl) (by decide) (locs rfl) fun L cdv s1 _ C => ?_
  refine wpAny_execs_cons (plainObj_wpAny_Assign_Attribute (wpAny_Constant_int ((C.tok 1).setA G 0 rfl rfl F.gb F.gb0 (.inl (by simp)) hHx (fun s2 C2 => ?_) (sl' := gbS (.int 0 s1.toks) ck cv true hv true it kf (.int n t₀) tk) (he := by simp [putS, gbS]))))
  refine wpAny_execs_cons (wpAny_While (codeAny_whileLoop (fun n' s' => n' = 0 ∧ s' = s2) (fun n' s' hI => ?_) 0 ⟨rfl, rfl⟩))
  obtain ⟨-, rfl⟩ := hI
  refine wpAny_isTrue_value (wpAny_Constant_bool (wpAny_truthy_bool ?_))
  refine ite_yes' rfl ?_
  refine wpAny_execs_cons (wpAny_If (wpAny_isTrue_value (C2.attr G 0 rfl rfl F.gb F.gb3 rfl rfl fun s3 C3 => wpAny_truthy_bool ?_)))
  refine ite_yes' rfl ?_
  refine wpAny_execs_cons (wpAny_If (wpAny_isTrue_Not (wpAny_isTrue_value (C3.attr G 0 rfl rfl F.gb F.gb5 rfl rfl fun s4 C4 => wpAny_truthy_bool ?_))))
  (try simp only [Bool.not_true, Bool.false_eq_true, if_false])
  refine wpAny_execs_nil ?_
  refine wpAny_execs_cons (wpAny_If (wpAny_isTrue_Not (wpAny_isTrue_value (C4.callFn G F.nsame F.ksame (args_cons (C4.attr G 0 rfl rfl F.gb F.gb9 rfl hd' fun s5 C5 => args_cons (C5.attr G 0 rfl rfl F.gb F.gb1 rfl hd fun s6 C6 => args_nil ⟨C6.st.X G, ?_⟩)))))))
  refine same_spec G C6.st F.same κ hpt hpk h2 h1 htok (Nat.lt_of_succ_lt hroom) fun s7 g7 => wpAny_truthy_bool ?_
  rw [hne]
  (try simp only [Bool.not_false, if_true])
  have C7 := C6.call g7
  refine wpAny_execs_cons (wpAny_Break ?_)
  refine gbNext_tail G F C7 rfl (.head _) hHx hd hroom fun y dy t u s8 C8 ny ndy nt => ?_
  exact k y dy t u s8 C8.go (C8.ok 2 rfl) (C8.ok 1 rfl) (C8.ok 0 rfl) (fun p hp => C8.has p (.tail _ (.tail _ (.tail _ hp)))) ny ndy nt (C8.ne (i := 1) (j := 0) rfl rfl)
end
end Mine
end
section
set_option maxRecDepth 100000
set_option autoImplicit false
namespace Mine
open PySem PySem.W PySem.Calls PyProof.Rows PySem.Spec
section
variable {K : Frag} {a : Adr} {H0 : Heap} {mg mb : Str → Option Value} {A : Around} {l : List Env} {M : List Addr} {s s1 : Shared} {L : Addr} {m : Str → Option Value} {prog : Program} {w : World} {E : Value → Shared → Prop} {cdv : Value}

set_option maxHeartbeats 1000000 in
theorem gbNext_first (G : Gl K H0 mg mb) (F : KF K a) (S : St H0 A l s) {x dg it lst ig di tp r : Addr} {i : Nat} {vs : List Value} {ep : Nat} {key : Value} {rest : List Value} {u : Tok} {cg ck cv tk : Value} {hv : Bool} {n : Int} {t₀ : Tok}
    (Z : Step K a H0 s.heap x dg it lst ig di tp r i vs ep key rest u (gbS cg ck cv false hv false (.ref it) (.ref ig) (.int n t₀) tk)) (hd : handedIn key = true)
    (hroom : A.depth + 3 < recursionLimit) (hh : A.handled = none) {R : Result → Shared → Prop}
    (k : ∀ y dy t u' s', Go H0 [x, it] s s' → Okk s'.heap (x, io a.gb dg (gbS (.int (n + 1) u') key (.ref r) true true true (.ref it) (.ref ig) (.int (n + 1) u') key)) → s'.heap.get? it = some (itO lst (i + 1)) →
      Okk s'.heap (y, io a.gr dy (grS (.int (n + 1) u') (.ref x) key)) → Okk s'.heap (t, tupO [key, .ref y]) →
      s.heap.get? y = none → s.heap.get? dy = none → s.heap.get? t = none → y ≠ t → R (.ok (.ret (.ref t))) s') :
    codeAny (model prog w) A (.call (.ref a.gbNext) ⟨[.ref x], []⟩) R s := by
  refine enterF (binds := [(Str.ofString "self", .ref x)]) G S F.gbNext [x, it] _ Z.has Z.nodup (Nat.lt_of_succ_lt (Nat.lt_of_succ_lt (Nat.lt_of_succ_lt hroom))) (fun _ _ _ _ _ _ => BindsTo.of_eq rfl) (by decide) (locs rfl) fun L cdv s1 _ C => ?_
  refine wpAny_execs_cons (plainObj_wpAny_Assign_Attribute (wpAny_Constant_int ((C.tok 1).setA G 0 rfl rfl F.gb F.gb0 (.inl (by simp)) Z.hx (fun s2 C2 => ?_) (sl' := gbS (.int 0 s1.toks) ck cv false hv false (.ref it) (.ref ig) (.int n t₀) tk) (he := by simp [putS, gbS]))))
  refine wpAny_execs_cons (wpAny_While (codeAny_whileLoop (fun n' s' => (n' = 1 ∧ s' = s2) ∨ (n' = 0 ∧ Cx H0 (A.deeper (envOf "groupby.__next__" dGbNext.2.2 L a.gbNext cdv)) (envOf "groupby.__next__" dGbNext.2.2 L a.gbNext cdv :: l) [x, it] s L (fun z => ([(Str.ofString "self", Value.ref x)] : List (Str × Value)).reverse.lookup z)
    [(x, io a.gb dg (gbS (.int 0 s1.toks) key (.ref r) true true false (.ref it) (.ref ig) (.int n t₀) tk)), (it, itO lst (i + 1)), (lst, lstO vs ep), (ig, io a.ig di [some (.ref tp)]), (tp, tupO [.int 0 u]), (r, tupO (key :: rest))] s')) (fun n' s' hI => ?_) 1 (.inl ⟨rfl, rfl⟩)))
  rcases hI with ⟨rfl, rfl⟩ | ⟨rfl, C2⟩
  · refine wpAny_isTrue_value (wpAny_Constant_bool (wpAny_truthy_bool ?_))
    refine ite_yes' rfl ?_
    refine wpAny_execs_cons (wpAny_If (wpAny_isTrue_value (C2.attr G 0 rfl rfl F.gb F.gb3 rfl rfl fun s3 C3 => wpAny_truthy_bool ?_)))
    refine ite_no' (by decide) ?_
    refine wpAny_execs_nil ?_
    refine wpAny_execs_cons (wpAny_Expr (C3.callMeth0 G 0 rfl rfl F.gb F.mgbS (wpAny_call ?_)))
    refine step_more G F C3.st (vs := vs) ⟨C3.has, Z.nodup, Z.hx, Z.hit, Z.row⟩ (Nat.lt_of_succ_lt hroom) hh fun s4 g4 ox4 hit4 => ?_
    have C4 := C3.callAt2 0 1 rfl rfl (by decide) g4 ox4 (okk_it hit4) (fun p hp => .inl hp) rfl rfl
    exact wpAny_execs_nil ⟨0, Nat.zero_lt_one, .inr ⟨rfl, C4⟩⟩
  · refine wpAny_isTrue_value (wpAny_Constant_bool (wpAny_truthy_bool ?_))
    first | refine ite_yes' rfl ?_ | refine ite_yes rfl ?_ | rw [if_pos rfl]
    refine wpAny_execs_cons (wpAny_If (wpAny_isTrue_value (C2.attr G 0 rfl rfl F.gb F.gb3 rfl rfl fun s3 C3 => wpAny_truthy_bool ?_)))
    refine ite_yes' rfl ?_
    refine wpAny_execs_cons (wpAny_If (wpAny_isTrue_Not (wpAny_isTrue_value (C3.attr G 0 rfl rfl F.gb F.gb5 rfl rfl fun s4 C4 => wpAny_truthy_bool ?_))))
    (try simp only [Bool.not_false, if_true])
    refine wpAny_execs_cons (wpAny_Break ?_)
    refine gbNext_tail G F C4 rfl (.head _) Z.hx hd (Nat.lt_of_succ_lt hroom) fun y dy t u' s8 C8 ny ndy nt => ?_
    exact k y dy t u' s8 C8.go (C8.ok 2 rfl) (C8.at 3 rfl) (C8.ok 1 rfl) (C8.ok 0 rfl) ny ndy nt (C8.ne (i := 1) (j := 0) rfl rfl)

set_option maxHeartbeats 1000000 in
theorem gbNext_end (G : Gl K H0 mg mb) (F : KF K a) (S : St H0 A l s) {x dg it lst : Addr} {i : Nat} {vs : List Value} {ep : Nat} {cg ck cv kf tk : Value} {hv ht : Bool} {se : Value}
    (hx : Okk s.heap (x, io a.gb dg (gbS cg ck cv false hv ht (.ref it) kf se tk))) (hit : s.heap.get? it = some (itO lst i)) (hl : s.heap.get? lst = some (lstO vs ep)) (hHx : H0.get? x = none) (hHit : H0.get? it = none) (hi : vs[i]? = none)
    (hroom : A.depth + 2 < recursionLimit) (hh : A.handled = none) {R : Result → Shared → Prop}
    (k : ∀ e t s', Fly H0 [x, it] s l e (.type "StopIteration") (.ref t) [(lst, lstO vs ep)] s' → R (.error (.ref e)) s') :
    codeAny (model prog w) A (.call (.ref a.gbNext) ⟨[.ref x], []⟩) R s := by
  have h1 : x ≠ it := ne_cls hx.at_ hit (by show Value.ref a.gb ≠ .type _; intro q; cases q)
  have h2 : x ≠ lst := ne_cls hx.at_ hl (by show Value.ref a.gb ≠ .type _; intro q; cases q)
  have h3 : it ≠ lst := ne_cls hit hl (by show Value.type "list_iterator" ≠ .type "list"; decide)
  refine enterF (binds := [(Str.ofString "self", .ref x)]) G S F.gbNext [x, it] [(x, io a.gb dg (gbS cg ck cv false hv ht (.ref it) kf se tk)), (it, itO lst i), (lst, lstO vs ep)] (fun p hp => ?_) (by simp [h1, h2, h3]) (Nat.lt_of_succ_lt (Nat.lt_of_succ_lt hroom)) (fun _ _ _ _ _ _ => BindsTo.of_eq rfl) (by decide) (locs rfl) fun L cdv s1 _ C => ?_
  · rcases List.mem_cons.mp hp with rfl | hp
    · exact hx
    rcases List.mem_cons.mp hp with rfl | hp
    · exact okk_it hit
    · rw [List.mem_singleton.mp hp]; exact okk_lst hl
  refine wpAny_execs_cons (plainObj_wpAny_Assign_Attribute (wpAny_Constant_int ((C.tok 1).setA G 0 rfl rfl F.gb F.gb0 (.inl (by simp)) hHx (fun s2 C2 => ?_) (sl' := gbS (.int 0 s1.toks) ck cv false hv ht (.ref it) kf se tk) (he := by simp [putS, gbS]))))
  refine wpAny_execs_cons (wpAny_While (codeAny_whileLoop (fun n' s' => n' = 0 ∧ s' = s2) (fun n' s' hI => ?_) 0 ⟨rfl, rfl⟩))
  obtain ⟨-, rfl⟩ := hI
  refine wpAny_isTrue_value (wpAny_Constant_bool (wpAny_truthy_bool ?_))
  refine ite_yes' rfl ?_
  refine wpAny_passesOwn PassesOwn.leaving ?_
  refine wpAny_execs_cons (wpAny_If (wpAny_isTrue_value (C2.attr G 0 rfl rfl F.gb F.gb3 rfl rfl fun s3 C3 => wpAny_truthy_bool ?_)))
  refine ite_no' (by decide) ?_
  refine wpAny_execs_nil ?_
  refine wpAny_execs_cons (wpAny_Expr (C3.callMeth0 G 0 rfl rfl F.gb F.mgbS (wpAny_call ?_)))
  refine step_end G F C3.st (C3.ok 0 rfl) (C3.at 1 rfl) (C3.at 2 rfl) hHit hi hroom hh fun e t s4 F4 => ?_
  have F5 := (F4.lift C3.go (fun p hp => .inl (.tail _ hp))).with [(lst, lstO vs ep)] (fun p hp => .inl (.tail _ (.tail _ hp)))
  exact F5.leave C3.st.frames rfl fun s5 F6 => k e t s5 F6
end
end Mine
end
section
set_option maxRecDepth 100000
set_option autoImplicit false
namespace Mine
open PySem PySem.W PySem.Calls PyProof.Rows PySem.Spec
section
variable {K : Frag} {a : Adr} {H0 : Heap} {mg mb : Str → Option Value} {A : Around} {l : List Env} {M : List Addr} {s s1 : Shared} {L : Addr} {m : Str → Option Value} {prog : Program} {w : World} {E : Value → Shared → Prop} {cdv : Value}

theorem grNext_tail (G : Gl K H0 mg mb) (F : KF K a) {x dg : Addr} {cg ck cv it kf se tk : Value} {hk hv ht : Bool} {led : List (Addr × Obj)}
    (C : Cx H0 (A.deeper (envOf "_grouper.__next__" dGrNext.2.2 L a.grNext cdv)) (envOf "_grouper.__next__" dGrNext.2.2 L a.grNext cdv :: l) M s L m ((x, io a.gb dg (gbS cg ck cv hk hv ht it kf se tk)) :: led) s1)
    (hm : m "gbo" = some (.ref x)) (hM : x ∈ M) (hHx : H0.get? x = none) (hcv : handedIn cv = true) {Q : Flow → Shared → Prop}
    (k : ∀ s', Cx H0 (A.deeper (envOf "_grouper.__next__" dGrNext.2.2 L a.grNext cdv)) (envOf "_grouper.__next__" dGrNext.2.2 L a.grNext cdv :: l) M s L (updM m "r" cv)
      ((x, io a.gb dg (gbS cg .none .none false false ht it kf se tk)) :: led) s' → Q (.ret cv) s') :
    wpAny (model prog w) (A.deeper (envOf "_grouper.__next__" dGrNext.2.2 L a.grNext cdv)) (execs (dGrNext.2.1.drop 4) (envOf "_grouper.__next__" dGrNext.2.2 L a.grNext cdv)) Q E s1 := by
  refine wpAny_execs_cons (wpAny_Assign_Name (C.attr G 0 rfl hm F.gb F.gb2 rfl hcv fun s2 C2 => C2.set fun s3 C3 => ?_))
  have hm3 : (updM m (Str.ofString "r") cv) "gbo" = some (.ref x) := (if_neg (by decide)).trans hm
  refine wpAny_execs_cons (plainObj_wpAny_Assign_Attribute (wpAny_Constant_none (C3.setA G 0 rfl hm3 F.gb F.gb2 (.inl hM) hHx (fun s4 C4 => ?_) (sl' := gbS cg ck .none hk hv ht it kf se tk) (he := by simp [putS, gbS]))))
  refine wpAny_execs_cons (plainObj_wpAny_Assign_Attribute (wpAny_Constant_bool (C4.setA G 0 rfl hm3 F.gb F.gb4 (.inl hM) hHx (fun s5 C5 => ?_) (sl' := gbS cg ck .none hk false ht it kf se tk) (he := by simp [putS, gbS]))))
  refine wpAny_execs_cons (plainObj_wpAny_Assign_Attribute (wpAny_Constant_none (C5.setA G 0 rfl hm3 F.gb F.gb1 (.inl hM) hHx (fun s6 C6 => ?_) (sl' := gbS cg .none .none hk false ht it kf se tk) (he := by simp [putS, gbS]))))
  refine wpAny_execs_cons (plainObj_wpAny_Assign_Attribute (wpAny_Constant_bool (C6.setA G 0 rfl hm3 F.gb F.gb3 (.inl hM) hHx (fun s7 C7 => ?_) (sl' := gbS cg .none .none false false ht it kf se tk) (he := by simp [putS, gbS]))))
  exact wpAny_execs_cons (wpAny_Return_some (C7.name rfl (k s7 C7)))

set_option maxHeartbeats 1000000 in
theorem grNext_val (G : Gl K H0 mg mb) (F : KF K a) (S : St H0 A l s) (κ : KeyOps) {x dg y dy : Addr} {ck cv it kf se tk key : Value} {hk ht : Bool} {n : Int} {t₁ t₂ : Tok}
    (hx : Okk s.heap (x, io a.gb dg (gbS (.int n t₁) ck cv hk true ht it kf se tk))) (hy : Okk s.heap (y, io a.gr dy (grS (.int n t₂) (.ref x) key))) (hxy : x ≠ y) (hHx : H0.get? x = none)
    (hpk : κ.P key) (hpt : κ.P ck) (h1 : tokOf key ≠ 0) (h2 : tokOf ck ≠ 0) (hee : κ.eq key ck = true) (hd : handedIn ck = true) (hd' : handedIn key = true) (hcv : handedIn cv = true)
    (hroom : A.depth + 2 < recursionLimit) {R : Result → Shared → Prop}
    (k : ∀ s', Go H0 [x] s s' → Okk s'.heap (x, io a.gb dg (gbS (.int n t₁) .none .none false false ht it kf se tk)) → R (.ok (.ret cv)) s') :
    codeAny (model prog w) A (.call (.ref a.grNext) ⟨[.ref y], []⟩) R s := by
  refine enterF (binds := [(Str.ofString "self", .ref y)]) G S F.grNext [x] [(x, io a.gb dg (gbS (.int n t₁) ck cv hk true ht it kf se tk)), (y, io a.gr dy (grS (.int n t₂) (.ref x) key))] (fun p hp => ?_) (by simp [hxy]) (Nat.lt_of_succ_lt (Nat.lt_of_succ_lt hroom)) (fun _ _ _ _ _ _ => BindsTo.of_eq rfl) (by decide) (locs rfl) fun L cdv s1 _ C => ?_
  · rcases List.mem_cons.mp hp with rfl | hp
    · exact hx
    · rw [List.mem_singleton.mp hp]; exact hy
  refine wpAny_execs_cons (wpAny_Assign_Name (C.attr G 1 rfl rfl F.gr F.gr1 rfl rfl fun s2 C2 => C2.set fun s3 C3 => ?_))
  refine wpAny_execs_cons (wpAny_If (wpAny_isTrue_Compare1 (C3.attr G 0 rfl rfl F.gb F.gb0 rfl rfl fun s4 C4 => C4.attr G 1 rfl rfl F.gr F.gr0 rfl rfl fun s5 C5 => PyProof.Rows.ne_int (wpAny_truthy_bool ?_))))
  simp only [bne_self_eq_false, Bool.false_eq_true, if_false]
  refine wpAny_execs_nil ?_
  refine wpAny_execs_cons (wpAny_If (wpAny_isTrue_Not (wpAny_isTrue_value (C5.attr G 0 rfl rfl F.gb F.gb4 rfl rfl fun s6 C6 => wpAny_truthy_bool ?_))))
  (try simp only [Bool.not_true, Bool.false_eq_true, if_false])
  refine wpAny_execs_nil ?_
  refine wpAny_execs_cons (wpAny_If (wpAny_isTrue_Not (wpAny_isTrue_value (C6.callFn G F.nsame F.ksame (args_cons (C6.attr G 1 rfl rfl F.gr F.gr2 rfl hd' fun s7 C7 => args_cons (C7.attr G 0 rfl rfl F.gb F.gb1 rfl hd fun s8 C8 => args_nil ⟨C8.st.X G, ?_⟩)))))))
  refine same_spec G C8.st F.same κ hpk hpt h1 h2 (fun _ => hee) (Nat.lt_of_succ_lt hroom) fun s9 g9 => wpAny_truthy_bool ?_
  rw [hee]
  (try simp only [Bool.not_true, Bool.false_eq_true, if_false])
  refine wpAny_execs_nil ?_
  have C9 := C8.call g9
  refine grNext_tail G F C9 rfl (.head _) hHx hcv fun s10 C10 => k s10 C10.go (C10.ok 0 rfl)

set_option maxHeartbeats 2000000 in
theorem grNext_step (G : Gl K H0 mg mb) (F : KF K a) (S : St H0 A l s) (κ : KeyOps) {x dg y dy it lst ig di tp r : Addr} {i : Nat} {vs : List Value} {ep : Nat} {k₂ : Value} {rest : List Value} {u : Tok} {ck cv se tk key : Value} {hk ht : Bool} {n : Int} {t₁ t₂ : Tok}
    (Z : Step K a H0 s.heap x dg it lst ig di tp r i vs ep k₂ rest u (gbS (.int n t₁) ck cv hk false ht (.ref it) (.ref ig) se tk)) (hy : Okk s.heap (y, io a.gr dy (grS (.int n t₂) (.ref x) key))) (hxy : ∀ q ∈ [x, it, lst, ig, tp, r], q ≠ y)
    (hpk : κ.P key) (hpt : κ.P k₂) (h1 : tokOf key ≠ 0) (h2 : tokOf k₂ ≠ 0) (htok : tokOf key = tokOf k₂ → κ.eq key k₂ = true) (hd : handedIn k₂ = true) (hd' : handedIn key = true)
    (hroom : A.depth + 3 < recursionLimit) (hh : A.handled = none) {R : Result → Shared → Prop}
    (k1 : κ.eq key k₂ = true → ∀ s', Go H0 [x, it] s s' → Okk s'.heap (x, io a.gb dg (gbS (.int n t₁) .none .none false false ht (.ref it) (.ref ig) se tk)) → s'.heap.get? it = some (itO lst (i + 1)) → R (.ok (.ret (.ref r))) s')
    (k2 : κ.eq key k₂ = false → ∀ e t s', Fly H0 [x, it] s l e (.type "StopIteration") (.ref t) [(x, io a.gb dg (gbS (.int n t₁) k₂ (.ref r) true true ht (.ref it) (.ref ig) se tk)), (it, itO lst (i + 1))] s' → R (.error (.ref e)) s') :
    codeAny (model prog w) A (.call (.ref a.grNext) ⟨[.ref y], []⟩) R s := by
  refine enterF (binds := [(Str.ofString "self", .ref y)]) G S F.grNext [x, it] ([(x, io a.gb dg (gbS (.int n t₁) ck cv hk false ht (.ref it) (.ref ig) se tk)), (it, itO lst i), (lst, lstO vs ep), (ig, io a.ig di [some (.ref tp)]), (tp, tupO [.int 0 u]), (r, tupO (k₂ :: rest)), (y, io a.gr dy (grS (.int n t₂) (.ref x) key))]) (fun p hp => ?_) ?_ (Nat.lt_of_succ_lt (Nat.lt_of_succ_lt (Nat.lt_of_succ_lt hroom))) (fun _ _ _ _ _ _ => BindsTo.of_eq rfl) (by decide) (locs rfl) fun L cdv s1 _ C => ?_
  · rcases List.mem_append.mp (show p ∈ [(x, io a.gb dg (gbS (.int n t₁) ck cv hk false ht (.ref it) (.ref ig) se tk)), (it, itO lst i), (lst, lstO vs ep), (ig, io a.ig di [some (.ref tp)]), (tp, tupO [.int 0 u]), (r, tupO (k₂ :: rest))] ++ [(y, io a.gr dy (grS (.int n t₂) (.ref x) key))] from hp) with hp | hp
    · exact Z.has p hp
    · rw [List.mem_singleton.mp hp]; exact hy
  · show ([x, it, lst, ig, tp, r] ++ [y]).Nodup
    exact List.nodup_append.mpr ⟨Z.nodup, by simp, fun p hp q hq => by rw [List.mem_singleton.mp hq]; exact hxy p hp⟩
  refine wpAny_execs_cons (wpAny_Assign_Name (C.attr G 6 rfl rfl F.gr F.gr1 rfl rfl fun s2 C2 => C2.set fun s3 C3 => ?_))
  refine wpAny_execs_cons (wpAny_If (wpAny_isTrue_Compare1 (C3.attr G 0 rfl rfl F.gb F.gb0 rfl rfl fun s4 C4 => C4.attr G 6 rfl rfl F.gr F.gr0 rfl rfl fun s5 C5 => PyProof.Rows.ne_int (wpAny_truthy_bool ?_))))
  simp only [bne_self_eq_false, Bool.false_eq_true, if_false]
  refine wpAny_execs_nil ?_
  refine wpAny_execs_cons (wpAny_If (wpAny_isTrue_Not (wpAny_isTrue_value (C5.attr G 0 rfl rfl F.gb F.gb4 rfl rfl fun s6 C6 => wpAny_truthy_bool ?_))))
  (try simp only [Bool.not_false, if_true])
  refine wpAny_execs_cons (wpAny_Expr (C6.callMeth0 G 0 rfl rfl F.gb F.mgbS (wpAny_call ?_)))
  refine step_more G F C6.st (vs := vs) ⟨fun p hp => C6.has p (List.mem_append_left [(y, io a.gr dy (grS (.int n t₂) (.ref x) key))] hp), Z.nodup, Z.hx, Z.hit, Z.row⟩ (Nat.lt_of_succ_lt hroom) hh fun s7 g7 ox7 hit7 => ?_
  have C7 := C6.callAt2 0 1 rfl rfl (by decide) g7 ox7 (okk_it hit7) (fun p hp => .inl hp) rfl rfl
  refine wpAny_execs_nil ?_
  refine wpAny_execs_cons (wpAny_If (wpAny_isTrue_Not (wpAny_isTrue_value (C7.callFn G F.nsame F.ksame (args_cons (C7.attr G 6 rfl rfl F.gr F.gr2 rfl hd' fun s7 C7 => args_cons (C7.attr G 0 rfl rfl F.gb F.gb1 rfl hd fun s8 C8 => args_nil ⟨C8.st.X G, ?_⟩)))))))
  refine same_spec G C8.st F.same κ hpk hpt h1 h2 htok (Nat.lt_of_succ_lt (Nat.lt_of_succ_lt hroom)) fun s9 g9 => wpAny_truthy_bool ?_
  have C9 := C8.call g9
  cases he : κ.eq key k₂ with
  | true =>
    (try simp only [Bool.not_true, Bool.false_eq_true, if_false])
    refine wpAny_execs_nil ?_
    refine grNext_tail G F C9 rfl (.head _) Z.hx rfl fun s10 C10 => k1 he s10 C10.go (C10.ok 0 rfl) (C10.at 1 rfl)
  | false =>
    (try simp only [Bool.not_false, if_true])
    refine wpAny_execs_cons (owsi_raiseC hh (C9.boot G F.nstop Boot.«StopIteration» ⟨rfl, rfl⟩) fun h' e hm => ?_)
    refine C9.raised (cls := .type "StopIteration") ⟨hm.keeps, hm.new, hm.there⟩ rfl fun t s5 F5 _ => ?_
    refine k2 he e t s5 (F5.with _ fun p hp => .inl ?_)
    rcases List.mem_cons.mp hp with rfl | hp
    · exact .head _
    · rw [List.mem_singleton.mp hp]; exact .tail _ (.head _)

set_option maxHeartbeats 1000000 in
theorem grNext_end (G : Gl K H0 mg mb) (F : KF K a) (S : St H0 A l s) {x dg y dy it lst : Addr} {i : Nat} {vs : List Value} {ep : Nat} {ck cv kf se tk key : Value} {hk ht : Bool} {n : Int} {t₁ t₂ : Tok}
    (hx : Okk s.heap (x, io a.gb dg (gbS (.int n t₁) ck cv hk false ht (.ref it) kf se tk))) (hit : s.heap.get? it = some (itO lst i)) (hl : s.heap.get? lst = some (lstO vs ep)) (hy : Okk s.heap (y, io a.gr dy (grS (.int n t₂) (.ref x) key))) (hxy : x ≠ y) (hHit : H0.get? it = none) (hi : vs[i]? = none)
    (hroom : A.depth + 2 < recursionLimit) (hh : A.handled = none) {R : Result → Shared → Prop}
    (k : ∀ e t s', Fly H0 [it] s l e (.type "StopIteration") (.ref t) [(it, itE i)] s' → R (.error (.ref e)) s') :
    codeAny (model prog w) A (.call (.ref a.grNext) ⟨[.ref y], []⟩) R s := by
  have h1 : x ≠ it := ne_cls hx.at_ hit (by show Value.ref a.gb ≠ .type _; intro q; cases q)
  have h2 : x ≠ lst := ne_cls hx.at_ hl (by show Value.ref a.gb ≠ .type _; intro q; cases q)
  have h3 : it ≠ lst := ne_cls hit hl (by show Value.type "list_iterator" ≠ .type "list"; decide)
  have h4 : y ≠ it := ne_cls hy.at_ hit (by show Value.ref a.gr ≠ .type _; intro q; cases q)
  have h5 : y ≠ lst := ne_cls hy.at_ hl (by show Value.ref a.gr ≠ .type _; intro q; cases q)
  refine enterF (binds := [(Str.ofString "self", .ref y)]) G S F.grNext [it] [(x, io a.gb dg (gbS (.int n t₁) ck cv hk false ht (.ref it) kf se tk)), (it, itO lst i), (lst, lstO vs ep), (y, io a.gr dy (grS (.int n t₂) (.ref x) key))] (fun p hp => ?_) (by simp [h1, h2, h3, hxy, h4.symm, h5.symm]) (Nat.lt_of_succ_lt (Nat.lt_of_succ_lt hroom)) (fun _ _ _ _ _ _ => BindsTo.of_eq rfl) (by decide) (locs rfl) fun L cdv s1 _ C => ?_
  · rcases List.mem_cons.mp hp with rfl | hp
    · exact hx
    rcases List.mem_cons.mp hp with rfl | hp
    · exact okk_it hit
    rcases List.mem_cons.mp hp with rfl | hp
    · exact okk_lst hl
    · rw [List.mem_singleton.mp hp]; exact hy
  refine wpAny_execs_cons (wpAny_Assign_Name (C.attr G 3 rfl rfl F.gr F.gr1 rfl rfl fun s2 C2 => C2.set fun s3 C3 => ?_))
  refine wpAny_execs_cons (wpAny_If (wpAny_isTrue_Compare1 (C3.attr G 0 rfl rfl F.gb F.gb0 rfl rfl fun s4 C4 => C4.attr G 3 rfl rfl F.gr F.gr0 rfl rfl fun s5 C5 => PyProof.Rows.ne_int (wpAny_truthy_bool ?_))))
  simp only [bne_self_eq_false, Bool.false_eq_true, if_false]
  refine wpAny_execs_nil ?_
  refine wpAny_execs_cons (wpAny_If (wpAny_isTrue_Not (wpAny_isTrue_value (C5.attr G 0 rfl rfl F.gb F.gb4 rfl rfl fun s6 C6 => wpAny_truthy_bool ?_))))
  (try simp only [Bool.not_false, if_true])
  refine wpAny_execs_cons (wpAny_Expr (C6.callMeth0 G 0 rfl rfl F.gb F.mgbS (wpAny_call ?_)))
  refine step_end G F C6.st (C6.ok 0 rfl) (C6.at 1 rfl) (C6.at 2 rfl) hHit hi hroom hh fun e t s4 F4 => ?_
  have F5 := (F4.lift C6.go (fun p hp => .inl hp)).with [(it, itE i)] (fun p hp => .inl (.tail _ (by rw [List.mem_singleton.mp hp]; exact .head _)))
  exact F5.leave C6.st.frames rfl fun s5 F6 => k e t s5 F6
end
end Mine
end
section
set_option maxRecDepth 100000
set_option autoImplicit false
namespace Mine
open PySem PySem.W PySem.Calls PyProof.Rows PySem.Spec

theorem wpAny_runValue {M : Model} {A : Around} {E : Value → Shared → Prop} {s : Shared} {c : Code} {Q : Value → Shared → Prop} (hc : codeAny M A c (rCall Q E) s) : wpAny M A (runValue c) Q E s := PySem.wpAny_runValue hc
theorem codeAny_plain {prog : Program} {w : World} {A : Around} {s : Shared} {R : Result → Shared → Prop} {id : String} {args : Args} {b : Builtin} (hb : entryFor table id = some b) (hp : plainId id = true) (h : wpAny (model prog w) A.in1 (b args) (qFin prog w A R) (eErr R) s) : codeAny (model prog w) A (.builtin id args) R s :=
  codeAny_builtin hb (by rw [Around.under_plainId hp _]; exact h)
structure Lg (h : Heap) (led : List (Addr × Obj)) : Prop where
  has : ∀ p ∈ led, Okk h p
  nodup : (led.map (·.1)).Nodup
section
variable {H0 : Heap} {M : List Addr} {s s' : Shared} {led : List (Addr × Obj)}
theorem Lg.at (C : Lg s.heap led) (i : Nat) {a : Addr} {o : Obj} (h : led[i]? = some (a, o)) : s.heap.get? a = some o := (C.has _ (List.mem_of_getElem? h)).at_
theorem Lg.ok (C : Lg s.heap led) (i : Nat) {a : Addr} {o : Obj} (h : led[i]? = some (a, o)) : Okk s.heap (a, o) := C.has _ (List.mem_of_getElem? h)
theorem Lg.go (C : Lg s.heap led) (G : Go H0 [] s s') : Lg s'.heap led := ⟨fun p hp => (C.has p hp).go G (fun h => nomatch h), C.nodup⟩
theorem Lg.turn (C : Lg s.heap led) (G : Go H0 M s s') (led' : List (Addr × Obj)) (hs : led'.map (·.1) = led.map (·.1)) (h : ∀ p ∈ led', (p ∈ led ∧ p.1 ∉ M) ∨ Okk s'.heap p) : Lg s'.heap led' :=
  ⟨fun p hp => (h p hp).elim (fun q => (C.has p q.1).go G q.2) id, by rw [hs]; exact C.nodup⟩
theorem Lg.turn1 (C : Lg s.heap led) (i : Nat) {x : Addr} {ox ox' : Obj} (hi : led[i]? = some (x, ox)) (G : Go H0 [x] s s') (hox : Okk s'.heap (x, ox')) : Lg s'.heap (led.set i (x, ox')) := by
  refine C.turn G _ (set_map_fst hi) fun p hp => ?_
  obtain ⟨k, hk, e⟩ := List.mem_iff_getElem.mp hp
  have hk' : (led.set i (x, ox'))[k]? = some p := by rw [List.getElem?_eq_getElem hk, e]
  rw [List.getElem?_set] at hk'
  split at hk'
  · split at hk'
    · cases hk'; exact .inr hox
    · cases hk'
  · rename_i hik
    obtain ⟨u, v⟩ := p
    exact .inl ⟨List.mem_of_getElem? hk', fun q => nodup_ne C.nodup hi hk' hik (List.mem_singleton.mp q).symm⟩
theorem Lg.turn2 (C : Lg s.heap led) (i j : Nat) {x y : Addr} {ox oy ox' oy' : Obj} (hi : led[i]? = some (x, ox)) (hj : led[j]? = some (y, oy)) (hij : i ≠ j) (G : Go H0 [x, y] s s') (hox : Okk s'.heap (x, ox')) (hoy : Okk s'.heap (y, oy')) :
    Lg s'.heap ((led.set i (x, ox')).set j (y, oy')) := by
  have hj' : (led.set i (x, ox'))[j]? = some (y, oy) := by rw [List.getElem?_set_ne hij]; exact hj
  refine C.turn G _ (by rw [set_map_fst hj', set_map_fst hi]) fun p hp => ?_
  obtain ⟨k, hk, e⟩ := List.mem_iff_getElem.mp hp
  have hk' : ((led.set i (x, ox')).set j (y, oy'))[k]? = some p := by rw [List.getElem?_eq_getElem hk, e]
  rw [List.getElem?_set] at hk'
  split at hk'
  · split at hk'
    · cases hk'; exact .inr hoy
    · cases hk'
  · rename_i hjk
    rw [List.getElem?_set] at hk'
    split at hk'
    · split at hk'
      · cases hk'; exact .inr hox
      · cases hk'
    · rename_i hik
      obtain ⟨u, v⟩ := p
      refine .inl ⟨List.mem_of_getElem? hk', fun q => ?_⟩
      rcases List.mem_cons.mp q with q | q
      · exact nodup_ne C.nodup hi hk' hik q.symm
      · exact nodup_ne C.nodup hj hk' hjk (List.mem_singleton.mp q).symm
theorem Lg.add (C : Lg s.heap led) {a : Addr} {o : Obj} (h : Okk s.heap (a, o)) (hd : ∀ p ∈ led, p.1 ≠ a) : Lg s.heap ((a, o) :: led) := by
  refine ⟨fun p hp => (List.mem_cons.mp hp).elim (fun e => by rw [e]; exact h) (C.has p), ?_⟩
  rw [List.map_cons]
  refine List.nodup_cons.mpr ⟨fun hm => ?_, C.nodup⟩
  obtain ⟨p, hp, e⟩ := List.mem_map.mp hm
  exact hd p hp e
theorem Lg.sub (C : Lg s.heap led) {led' : List (Addr × Obj)} (h : led'.Sublist led) : Lg s.heap led' := ⟨fun p hp => C.has p (h.subset hp), C.nodup.sublist (h.map _)⟩
theorem Lg.upd (C : Lg s.heap led) (i : Nat) {a : Addr} {o : Obj} {f : Obj → Obj} (hi : led[i]? = some (a, o)) (hf : (f o).isFreed = false) (hn : nd (f o)) (hd : (f o).dict = o.dict) (hH : H0.get? a = none) :
    Go H0 [a] s { s with heap := s.heap.update a f } ∧ Lg (s.heap.update a f) (led.set i (a, f o)) := by
  have G : Go H0 [a] s { s with heap := s.heap.update a f } := .upd o (C.at i hi) (C.ok i hi).nd hf hn hH
  exact ⟨G, C.turn1 i hi G ⟨Heap.get?_update_self f (C.at i hi) hf, hn, fun dx e => ((C.ok i hi).dx dx (hd ▸ e)).go G⟩⟩
section
variable {MM : Model} {A : Around} {E : Value → Shared → Prop}
theorem Lg.setF (C : Lg s.heap led) (i j : Nat) {a : Addr} {o : Obj} {vs : Array Value} {v : Value} {Q : Unit → Shared → Prop} (hi : led[i]? = some (a, o)) (hd : o.data = .fields vs) (hj : j < vs.size) (hdx : (Obj.mapFields (·.setIfInBounds j v) o).dict = o.dict) (hH : H0.get? a = none)
    (k : ∀ s1, Go H0 [a] s s1 → Lg s1.heap (led.set i (a, Obj.mapFields (·.setIfInBounds j v) o)) → Q () s1) : wpAny MM A (setField (.ref a) j v) Q E s := by
  have h := C.upd (H0 := H0) (s := s) i (f := Obj.mapFields (·.setIfInBounds j v)) hi (Obj.isFreed_of_fields (Obj.data_mapFields hd _)) (fun es n e => by rw [Obj.data_mapFields hd] at e; cases e) hdx hH
  exact wpAny_setField (C.at i hi) hd hj (k _ h.1 h.2)
theorem Lg.setS (C : Lg s.heap led) (i j : Nat) {a : Addr} {o : Obj} {vs : Array Value} {n : Nat} {v : Value} {Q : Unit → Shared → Prop} (hi : led[i]? = some (a, o)) (hd : o.data = .seq vs n) (hz : vs.size ≤ sizeLine) (hf : (Obj.mapSeq (·.setIfInBounds j v) o).isFreed = false) (hn : nd (Obj.mapSeq (·.setIfInBounds j v) o))
    (hdx : (Obj.mapSeq (·.setIfInBounds j v) o).dict = o.dict) (hH : H0.get? a = none)
    (k : ∀ s1, Go H0 [a] s s1 → Lg s1.heap (led.set i (a, Obj.mapSeq (·.setIfInBounds j v) o)) → Q () s1) : wpAny MM A (updateSeq a (·.setIfInBounds j v)) Q E s := by
  have h := C.upd (H0 := H0) (s := s) i (f := Obj.mapSeq (·.setIfInBounds j v)) hi hf hn hdx hH
  exact wpAny_updateSeq (C.at i hi) hd (k _ h.1 h.2) hz (by rw [Array.size_setIfInBounds]; exact Nat.le_succ_of_le hz)
theorem Lg.push (C : Lg s.heap led) {o : Obj} {P : Addr → Shared → Prop} (hn : nd o) (hd : o.dict = none) (hf : o.isFreed = false) (k : ∀ a s1, Go H0 [] s s1 → Lg s1.heap ((a, o) :: led) → s.heap.get? a = none → P a s1) : P s.heap.objs.size { s with heap := s.heap.push o } := by
  have n1 : s.heap.get? s.heap.objs.size = none := not_at
  have g : Go H0 [] s { s with heap := s.heap.push o } := Go.push _
  exact k _ _ g ((C.go g).add (s := { s with heap := s.heap.push o }) (.of (Heap.get?_push_size _ hf) hn hd) (fun p hp => ne_nd (C.has p hp).at_ n1)) n1
theorem Lg.new (C : Lg s.heap led) {vs : List Value} {Q : Value → Shared → Prop} (k : ∀ a s1, Go H0 [] s s1 → Lg s1.heap ((a, tupO vs) :: led) → s.heap.get? a = none → Q (.ref a) s1) (hsz : vs.length ≤ sizeLine) : wpAny MM A (newTuple vs) Q E s :=
  wpAny_newTuple (C.push (P := fun a s1 => Q (.ref a) s1) nd_seq rfl rfl k) hsz
theorem new_lst {vs : List Value} {Q : Value → Shared → Prop} (k : ∀ D s1, Go H0 [] s s1 → s1.heap.get? D = some (lstO vs) → s.heap.get? D = none → Q (.ref D) s1) (hsz : vs.length ≤ sizeLine) : wpAny MM A (newList vs) Q E s :=
  wpAny_newObj_type (k _ _ (Go.push _) (Heap.get?_push_size _ rfl) not_at) (by show vs.toArray.size ≤ sizeLine; rw [List.size_toArray]; exact hsz)
end
end

section
variable {K : Frag} {a : Adr} {H0 : Heap} {mg mb : Str → Option Value} {A : Around} {l : List Env} {s : Shared} {prog : Program} {w : World} {E : Value → Shared → Prop}

theorem next_inst (X : K.In s.heap) {x c dx g : Addr} {sl : List (Option Value)} {Q : Option Value → Shared → Prop} (hx : Okk s.heap (x, io c dx sl)) (mk : MethK K c "__next__" g)
    (h : codeAny (model prog w) A (.call (.ref g) ⟨[.ref x], []⟩) (fun r s' => match r with | .ok (.ret v) => Q (some v) s' | .ok _ => False | .error e => OwitStop (model prog w) A Q E e s') s) : wpAny (model prog w) A (pyNext (.ref x)) Q E s := by
  obtain ⟨od, I, hod⟩ := instAt hx
  unfold pyNext
  refine wpAny_bind (wpAny_attempt (special_fn (name := "__next__") (args := []) X I mk.fi mk.ft (wpAny_mono (wpAny_call (Q := fun v s' => Q (some v) s') (E := OwitStop (model prog w) A Q E) h) (fun v s' hq => ?_) (fun e s' he => ?_))))
  · exact wpAny_pure hq
  · refine wpAny_bind (wpAny_mono he (fun b s₂ hb => ?_) fun _ _ z => z)
    cases b with
    | true => exact wpAny_pure hb
    | false => exact wpAny_throw hb
theorem stop_fly {M : List Addr} {s₀ : Shared} {e : Addr} {a0 : Value} {led : List (Addr × Obj)} {Q : Option Value → Shared → Prop} (F : Fly H0 M s₀ l e (.type "StopIteration") a0 led s) (h : Q none s) : OwitStop (model prog w) A Q E (.ref e) s := by
  unfold OwitStop
  refine wpAny_isInstance F.typ owsi_facts.sub ?_
  show (if true = true then Q none s else E (.ref e) s)
  rw [if_pos rfl]; exact h

theorem iter_inst (X : K.In s.heap) {x c dx g g' : Addr} {sl : List (Option Value)} {Q : Value → Shared → Prop} (hx : Okk s.heap (x, io c dx sl)) (mk : MethK K c "__iter__" g) (mk' : MethK K c "__next__" g')
    (h : wpAny (model prog w) A (call (.ref g) [.ref x]) (fun v s' => v = .ref x ∧ K.In s'.heap ∧ Okk s'.heap (x, io c dx sl) ∧ Q (.ref x) s') E s) : wpAny (model prog w) A (pyIter (.ref x)) Q E s := by
  obtain ⟨od, I, hod⟩ := instAt hx
  have fin : wpAny (model prog w) A (call (.ref g) [.ref x] >>= fun v => pure (some v)) (fun r s' => r = some (.ref x) ∧ K.In s'.heap ∧ Okk s'.heap (x, io c dx sl) ∧ Q (.ref x) s') E s :=
    wpAny_bind (wpAny_mono h (fun v s' ⟨h1, h2⟩ => wpAny_pure ⟨by rw [h1], h2⟩) fun _ _ z => z)
  have one : ∀ refuse : Sem Value, wpAny (model prog w) A (callSpecialIfBoundUnlessNone? (.ref x) "__iter__" refuse) (fun r s' => r = some (.ref x) ∧ K.In s'.heap ∧ Okk s'.heap (x, io c dx sl) ∧ Q (.ref x) s') E s := by
    intro refuse
    simp only [callSpecialIfBoundUnlessNone?, bindSpecialIfBound?]
    refine wpAny_holding (wpAny_bind (wpAny_bind (wpAny_bind (I.type.here ((looks_findIn X mk.fi).here ?_)))))
    refine wpAny_bind (wpAny_askSetting (wpAny_ite ?_))
    have fin2 : wpAny (model prog w) A (if (Value.ref g == Value.none) = true then (refuse >>= fun v => pure (some v)) else (call (.ref g) [.ref x] >>= fun v => pure (some v))) (fun r s' => r = some (.ref x) ∧ K.In s'.heap ∧ Okk s'.heap (x, io c dx sl) ∧ Q (.ref x) s') E s := by
      first | refine ite_no' rfl ?_ | refine ite_no (show ¬ ((Value.ref g == Value.none) = true) from Bool.false_ne_true) ?_ | rw [if_neg (show ¬ ((Value.ref g == Value.none) = true) from Bool.false_ne_true)]
      exact fin
    split
    · exact wpAny_bind ((bind_fn X _ mk.ft).here (wpAny_pure (by exact fin2)))
    · exact wpAny_tryCatch (wpAny_bind ((bind_fn X _ mk.ft).here (wpAny_pure (by exact fin2))))
  unfold pyIter
  refine wpAny_bind (wpAny_bind (I.type.here ((looks_findIn X mk.fi).here ?_)))
  show wpAny (model prog w) A (callSpecialIfBoundUnlessNone? (.ref x) "__iter__" _ >>= _) Q E s
  refine wpAny_bind (wpAny_mono (one _) (fun r s' hr => ?_) fun _ _ z => z)
  obtain ⟨rfl, hX, hO, hq⟩ := hr
  obtain ⟨od', I', _⟩ := instAt hO
  refine wpAny_bind (m := specialOf (.ref x) "__next__") (wpAny_bind (I'.type.here ((looks_findIn hX mk'.fi).here ?_)))
  exact wpAny_pure hq

inductive ExtTurn (S : Addr) (Inv : Nat → List Value → Shared → Prop) (n : Nat) (acc : List Value) (v : Value) (s' : Shared) : Prop
  | mk (c : Nat) (at_ : s'.heap.get? S = some (lstO acc c)) (room : acc.length < sizeLine) (n' : Nat) (lt : n' < n) (inv : Inv n' (acc ++ [v]) { s' with heap := s'.heap.update S (Obj.mapSeq (·.push v)) }) : ExtTurn S Inv n acc v s'
noncomputable abbrev qExt (S : Addr) (res : Value) (R : Result → Shared → Prop) (Inv : Nat → List Value → Shared → Prop) (n : Nat) (acc : List Value) : Option Value → Shared → Prop := fun r s' => match r with
  | none => R (.ok (.ret res)) s'
  | some v => ExtTurn S Inv n acc v s'
theorem ext_loop {S I : Addr} {res : Value} {R : Result → Shared → Prop} (Inv : Nat → List Value → Shared → Prop)
    (turn : ∀ n acc s, Inv n acc s → wpAny (model prog w) A.in1 (pyNext (.ref I)) (qExt S res R Inv n acc) (eErr R) s) :
    ∀ n acc s, Inv n acc s → codeAny (model prog w) A (.builtin "list.extend.loop" ⟨[.ref S, .ref I, res], []⟩) R s := by
  intro n
  induction n using Nat.strongRecOn with
  | ind n ih =>
    intro acc s hI
    refine codeAny_plain F.entry_extend_loop F.plain_extend_loop ?_
    show wpAny _ A.in1 (pyNext (.ref I) >>= _) _ _ s
    refine wpAny_bind (wpAny_mono (turn n acc s hI) (fun r s' hr => ?_) fun _ _ z => z)
    cases r with
    | none => exact wpAny_pure hr
    | some v =>
      obtain ⟨c, hS, hz, n', hn, hI'⟩ := hr
      show wpAny _ A.in1 (updateSeq S (·.push v) >>= _) _ _ _
      refine wpAny_bind ?_
      exact wpAny_updateSeq hS rfl (wpAny_pure ⟨plainId_quiet F.plain_extend_loop _, ih n' hn _ _ hI'⟩) (by rw [List.size_toArray]; lia  ) (by show (acc.toArray.push v).size ≤ sizeLine + 1; rw [Array.size_push, List.size_toArray]; lia  )
end
end Mine
end
section
set_option maxRecDepth 100000
set_option autoImplicit false
namespace Mine
open PySem PySem.W PySem.Calls PyProof.Rows PySem.Spec
section
variable {K : Frag} {a : Adr} {H0 : Heap} {mg mb : Str → Option Value} {A : Around} {l : List Env} {s : Shared} {prog : Program} {w : World} {E : Value → Shared → Prop}

theorem specialOf_inst {M : Model} (X : K.In s.heap) {x c dx : Addr} {sl : List (Option Value)} {name : Str} {r : Option Value} (hx : Okk s.heap (x, io c dx sl)) (e : findIn K (.ref c) name = some r) : Looks M s.heap (specialOf (.ref x) name) r := by
  obtain ⟨od, I, hod⟩ := instAt hx
  exact I.type.andThen (looks_findIn X e)

theorem touched {S : Addr} {c : Nat} (hS : s.heap.get? S = some (lstO [] c)) (hH : H0.get? S = none) {Q : Unit → Shared → Prop} {M : Model}
    (h : ∀ s' c', Go H0 [S] s s' → s'.heap.get? S = some (lstO [] c') → Q () s') : wpAny M A (Builtin.List.listTouch (.ref S)) Q E s := by
  show wpAny M A (updateSeq S (·.push .none) >>= fun _ => updateSeq S (·.pop)) Q E s
  refine wpAny_bind (wpAny_updateSeq hS rfl ?_)
  have hS₂ := Heap.get?_update_self (Obj.mapSeq (·.push Value.none)) hS rfl
  refine wpAny_updateSeq (hz := by seq_fits) hS₂ rfl ?_
  have hS₃ := Heap.get?_update_self (Obj.mapSeq (·.pop)) hS₂ rfl
  have G1 : Go H0 [S] s { s with heap := s.heap.update S (Obj.mapSeq (·.push Value.none)) } := .upd _ hS nd_seq rfl nd_seq hH
  have G2 : Go H0 [S] { s with heap := s.heap.update S (Obj.mapSeq (·.push Value.none)) } { s with heap := (s.heap.update S (Obj.mapSeq (·.push Value.none))).update S (Obj.mapSeq (·.pop)) } := .upd (s := { s with heap := s.heap.update S (Obj.mapSeq (·.push Value.none)) }) _ hS₂ nd_seq rfl nd_seq hH
  exact h _ _ (G1.trans G2) hS₃

theorem extend_inst {y c dy : Addr} {sl : List (Option Value)} {S g g' : Addr} {ep : Nat} {res : Value} {R : Result → Shared → Prop} (X : K.In s.heap) (hy : Okk s.heap (y, io c dy sl)) (mk : MethK K c "__iter__" g) (mk' : MethK K c "__next__" g')
    (hl : findIn K (.ref c) "__len__" = some none) (hh : findIn K (.ref c) "__length_hint__" = some none) (hS : s.heap.get? S = some (lstO [] ep)) (hH : H0.get? S = none) (hne : S ≠ y)
    (hit : ∀ (Q : Value → Shared → Prop) E, (∀ s', Go H0 [] s s' → Q (.ref y) s') → wpAny (model prog w) A.in1 (call (.ref g) [.ref y]) Q E s) (hX : ∀ s', Go H0 [] s s' → K.In s'.heap)
    (h : ∀ s' c', Go H0 [S] s s' → s'.heap.get? S = some (lstO [] c') → codeAny (model prog w) A (.builtin "list.extend.loop" ⟨[.ref S, .ref y, res], []⟩) R s') :
    wpAny (model prog w) A.in1 (Builtin.List.listExtendWith (.ref S) (.ref y) res)
      (fun fin s' => match fin with | .done f => R (.ok f) s' | .again c' => c'.quiet = true ∧ codeAny (model prog w) A c' R s') (eErr R) s := by
  obtain ⟨od, I, hod⟩ := instAt hy
  unfold Builtin.List.listExtendWith
  refine wpAny_bind (I.type.here ?_)
  have h1 : Builtin.List.listSameRef (.ref S) (.ref y) = false := by simp [Builtin.List.listSameRef, hne]
  have h2 : (Value.ref c == Value.type "list") = false := rfl
  have h3 : (Value.ref c == Value.type "tuple") = false := rfl
  simp only [h1, h2, h3, Bool.or_false, Bool.false_eq_true, if_false]
  refine wpAny_bind (iter_inst X hy mk mk' (hit _ _ fun s1 g1 => ⟨rfl, hX s1 g1, hy.go g1 (fun h => nomatch h), ?_⟩))
  have hy1 := hy.go g1 (fun h => nomatch h)
  have X1 := hX s1 g1
  refine wpAny_bind (wpAny_holding ?_)
  unfold Builtin.List.listLengthHint
  refine wpAny_bind ((specialOf_inst X1 hy1 hl).here ?_)
  show wpAny _ A.in1 (specialOf (Value.ref y) (Str.ofString "__length_hint__") >>= _) _ _ _
  refine wpAny_bind ((specialOf_inst X1 hy1 hh).here ?_)
  refine wpAny_pure ?_
  show wpAny _ A.in1 (rule "list.extend.makes-room" >>= fun _ => Builtin.List.listTouch (.ref S) >>= fun _ =>
    again (.builtin "list.extend.loop" ⟨[.ref S, .ref y, res], []⟩)) _ _ _
  refine wpAny_bind (wpAny_rule ?_)
  refine wpAny_bind (touched (H0 := H0) (g1.nd _ _ hS (fun h => nomatch h) nd_seq) hH fun s2 c2 g2 hS2 => ?_)
  exact wpAny_pure ⟨plainId_quiet F.plain_extend_loop _, h s2 c2 ((g1.mono (fun p h => nomatch h)).trans g2) hS2⟩

theorem list_inst {y c dy : Addr} {sl : List (Option Value)} {g g' : Addr} {Q : Value → Shared → Prop} (G : Gl K H0 mg mb) (S : St H0 A l s) (hy : Okk s.heap (y, io c dy sl)) (mk : MethK K c "__iter__" g) (mk' : MethK K c "__next__" g')
    (hl : findIn K (.ref c) "__len__" = some none) (hh : findIn K (.ref c) "__length_hint__" = some none)
    (hit : ∀ (s : Shared) (Q : Value → Shared → Prop) E, St H0 A l s → (∀ s', Go H0 [] s s' → Q (.ref y) s') → wpAny (model prog w) A.in1.in1 (call (.ref g) [.ref y]) Q E s)
    (h : ∀ D s' c', Go H0 [] s s' → s.heap.get? D = none → s'.heap.get? D = some (lstO [] c') → codeAny (model prog w) A.in1 (.builtin "list.extend.loop" ⟨[.ref D, .ref y, .none], []⟩) (wants (fun r s₂ => r = .none ∧ Q (.ref D) s₂) E) s') :
    wpAny (model prog w) A (call (.type "list") [.ref y]) Q E s := by
  refine callType_codes (Q₁ := fun obj s₁ => obj = .ref s.heap.objs.size ∧ s₁ = { s with heap := s.heap.push { cls := .type "list", data := .seq #[] } }) F.called_list (F.typeCall_list_1 _) F.entry_list_init
    (code_list_new _ ⟨rfl, rfl⟩) fun obj s₁ h₁ => ?_
  obtain ⟨rfl, rfl⟩ := h₁
  have nD : s.heap.get? s.heap.objs.size = none := not_at
  generalize hD : s.heap.objs.size = D at nD ⊢
  have hS : (s.heap.push (lstO [])).get? D = some (lstO []) := by rw [← hD]; exact Heap.get?_push_size _ rfl
  have hHD : H0.get? D = none := by
    cases q : H0.get? D with
    | none => rfl
    | some o => have := S.glob _ _ q; rw [nD] at this; cases this
  refine ⟨⟨_, hS, rfl⟩, F.args_list_init_2 _ _, ?_⟩
  show wpAny _ A.in1.in1 (do let old ← Builtin.List.listItems (.ref D); Builtin.List.listUpdate (.ref D) (fun _ => #[]); letGo old.toList.reverse; Builtin.List.listExtendWith (.ref D) (.ref y) .none) _ _ _
  refine wpAny_bind ?_
  unfold Builtin.List.listItems
  refine wpAny_bind (wpAny_seqItems (s := { s with heap := s.heap.push (lstO []) }) hS rfl (wpAny_pure ?_))
  show wpAny _ A.in1.in1 (updateSeq D (fun _ => #[]) >>= fun _ => letGo (#[] : Array Value).toList.reverse >>= fun _ => Builtin.List.listExtendWith (.ref D) (.ref y) .none) _ _ _
  refine wpAny_bind (wpAny_updateSeq hS rfl ?_)
  have hS₂ := Heap.get?_update_self (Obj.mapSeq (fun _ => (#[] : Array Value))) hS rfl
  refine wpAny_bind (wpAny_letGo ?_)
  have G0 : Go H0 [] s { s with heap := s.heap.push (lstO []) } := Go.push _
  have G1 : Go H0 [D] { s with heap := s.heap.push (lstO []) } { s with heap := (s.heap.push (lstO [])).update D (Obj.mapSeq (fun _ => (#[] : Array Value))) } := .upd (s := { s with heap := s.heap.push (lstO []) }) _ hS nd_seq rfl nd_seq hHD
  have hDn : ∀ p ∈ [D], p ∈ ([] : List Addr) ∨ s.heap.get? p = none := fun p hp => .inr (by rw [List.mem_singleton.mp hp]; exact nD)
  have G2 := G0.step G1 hDn
  have S2 := S.go G2
  refine extend_inst (H0 := H0) (s := { s with heap := (s.heap.push (lstO [])).update D (Obj.mapSeq (fun _ => (#[] : Array Value))) }) (S2.X G) (hy.go G2 (fun h => nomatch h)) mk mk' hl hh hS₂ hHD (fun q => ne_nd hy.at_ nD q.symm) (fun Q E hQ => hit _ Q E S2 hQ) (fun s' g => (S2.go g).X G) fun s' c' g hS' => ?_
  exact h D s' c' (G2.step g hDn) nD hS'
end
end Mine
end
section
set_option maxRecDepth 100000
set_option autoImplicit false
set_option genInjectivity false
set_option genSizeOf false
namespace Mine
open PySem PySem.W PySem.Calls PyProof.Rows PySem.Spec

structure Row where
  r : Addr
  key : Value
  pos : Value
noncomputable def rowL (rows : List Row) : List (Addr × Obj) := rows.map fun q => (q.r, tupO [q.key, q.pos])
noncomputable def refs (rows : List Row) : List Value := rows.map fun q => .ref q.r
theorem refs_get {rows : List Row} {i : Nat} {q : Row} (h : rows[i]? = some q) : (refs rows)[i]? = some (.ref q.r) := by simp [refs, h]
theorem refs_none {rows : List Row} {i : Nat} (h : rows[i]? = none) : (refs rows)[i]? = none := by simpa [refs] using h

structure GB where
  x : Addr
  dg : Addr
  it : Addr
  lst : Addr
  ig : Addr
  di : Addr
  tp : Addr
  u : Tok
  ep : Nat
  rows : List Row

section
variable (a : Adr) (b : GB)
noncomputable def GB.led (sl : List (Option Value)) (ito : Obj) : List (Addr × Obj) :=
  (b.x, io a.gb b.dg sl) :: (b.it, ito) :: (b.lst, lstO (refs b.rows) b.ep) :: (b.ig, io a.ig b.di [some (.ref b.tp)]) :: (b.tp, tupO [.int 0 b.u]) :: rowL b.rows
end
structure KeyR (κ : KeyOps) (rows : List Row) : Prop where
  all : ∀ q ∈ rows, κ.P q.key ∧ tokOf q.key ≠ 0
  tok : ∀ q ∈ rows, ∀ q' ∈ rows, tokOf q.key = tokOf q'.key → κ.eq q.key q'.key = true

section
variable {K : Frag} {a : Adr} {b : GB} {H0 : Heap} {mg mb : Str → Option Value} {A : Around} {l : List Env} {s : Shared} {prog : Program} {w : World} {E : Value → Shared → Prop}
theorem Lg.step {pre : List (Addr × Obj)} {sl : List (Option Value)} {i : Nat} {q : Row} (C : Lg s.heap (pre ++ b.led a sl (itO b.lst i))) (hq : b.rows[i]? = some q) (hx : H0.get? b.x = none) (hit : H0.get? b.it = none) :
    Step K a H0 s.heap b.x b.dg b.it b.lst b.ig b.di b.tp q.r i (refs b.rows) b.ep q.key [q.pos] b.u sl := by
  have hm : [(q.r, tupO [q.key, q.pos])].Sublist (rowL b.rows) := List.singleton_sublist.mpr (List.mem_map.mpr ⟨q, List.mem_of_getElem? hq, rfl⟩)
  have C' := C.sub (led' := [(b.x, io a.gb b.dg sl), (b.it, itO b.lst i), (b.lst, lstO (refs b.rows) b.ep), (b.ig, io a.ig b.di [some (.ref b.tp)]), (b.tp, tupO [.int 0 b.u]), (q.r, tupO [q.key, q.pos])])
    (List.Sublist.trans (.cons_cons _ (.cons_cons _ (.cons_cons _ (.cons_cons _ (.cons_cons _ hm))))) (List.sublist_append_right _ _))
  exact ⟨C'.has, C'.nodup, hx, hit, refs_get hq⟩

noncomputable abbrev GB.gr (b : GB) (n : Int) (t : Tok) (key : Value) : List (Option Value) := grS (.int n t) (.ref b.x) key
noncomputable abbrev GB.st (b : GB) (cg ck cv : Value) (hk hv ht : Bool) (se tk : Value) : List (Option Value) := gbS cg ck cv hk hv ht (.ref b.it) (.ref b.ig) se tk

noncomputable def After (a : Adr) (b : GB) (h : Heap) (pre : List (Addr × Obj)) (cg se key : Value) (j : Nat) : Prop :=
  (∃ q, b.rows[j]? = some q ∧ Lg h (pre ++ b.led a (b.st cg q.key (.ref q.r) true true true se key) (itO b.lst (j + 1)))) ∨
  (b.rows[j]? = none ∧ j = b.rows.length ∧ Lg h (pre ++ b.led a (b.st cg .none .none false false true se key) (itE j)))

set_option maxHeartbeats 1000000 in
noncomputable abbrev GLI (a : Adr) (b : GB) (κ : KeyOps) (H0 : Heap) (A : Around) (l : List Env) (s : Shared) (D y dy : Addr) (q : Row) (n : Int) (t₁ t₂ : Tok) (se : Value) (i : Nat) : Nat → List Value → Shared → Prop := fun n' acc s' => St H0 A l s' ∧ Go H0 [D, b.x, b.it] s s' ∧ ∃ c, (n' = b.rows.length + 1 ∧ acc = [] ∧ Lg s'.heap ((D, lstO acc c) :: (y, io a.gr dy (b.gr n t₂ q.key)) :: b.led a (b.st (.int n t₁) q.key (.ref q.r) true true true se q.key) (itO b.lst (i + 1)))) ∨
      ∃ j, i < j ∧ j ≤ b.rows.length ∧ n' = b.rows.length - j ∧ acc = refs ((b.rows.take j).drop i) ∧ (∀ m q', i ≤ m → m < j → b.rows[m]? = some q' → κ.eq q.key q'.key = true) ∧
        Lg s'.heap ((D, lstO acc c) :: (y, io a.gr dy (b.gr n t₂ q.key)) :: b.led a (b.st (.int n t₁) .none .none false false true se q.key) (itO b.lst j))
theorem group_loop (G : Gl K H0 mg mb) (F : KF K a) (S : St H0 A l s) (κ : KeyOps) (KR : KeyR κ b.rows) {y dy D : Addr} {i : Nat} {q : Row} {n : Int} {t₁ t₂ : Tok} {se : Value} {c : Nat} (hi : b.rows[i]? = some q)
    (C : Lg s.heap ((D, lstO [] c) :: (y, io a.gr dy (b.gr n t₂ q.key)) :: b.led a (b.st (.int n t₁) q.key (.ref q.r) true true true se q.key) (itO b.lst (i + 1))))
    (hHD : H0.get? D = none) (hHx : H0.get? b.x = none) (hHit : H0.get? b.it = none) (hz : b.rows.length < sizeLine)
    (hroom : A.depth + 3 < recursionLimit) (hh : A.handled = none) {R : Result → Shared → Prop} {res : Value}
    (k : ∀ j c' s', i < j → (∀ m q', i ≤ m → m < j → b.rows[m]? = some q' → κ.eq q.key q'.key = true) → (∀ q', b.rows[j]? = some q' → κ.eq q.key q'.key = false) → j ≤ b.rows.length → Go H0 [D, b.x, b.it] s s' →
      After a b s'.heap [(D, lstO (refs ((b.rows.take j).drop i)) c'), (y, io a.gr dy (b.gr n t₂ q.key))] (.int n t₁) se q.key j → R (.ok (.ret res)) s') :
    codeAny (model prog w) A (.builtin "list.extend.loop" ⟨[.ref D, .ref y, res], []⟩) R s := by
  have hilt : i < b.rows.length := (List.getElem?_eq_some_iff.mp hi).1
  have hqm : q ∈ b.rows := List.mem_of_getElem? hi
  have hqq : κ.eq q.key q.key = true := KR.tok q hqm q hqm rfl
  have base : ∀ j, ∀ q', b.rows[j]? = some q' → (refs ((b.rows.take j).drop i)) ++ [Value.ref q'.r] = refs ((b.rows.take (j + 1)).drop i) ∨ j < i := by
    intro j q' hj
    by_cases hij : j < i
    · exact .inr hij
    · left
      have hjl : j < b.rows.length := (List.getElem?_eq_some_iff.mp hj).1
      have e : (b.rows.take (j + 1)) = b.rows.take j ++ [q'] := by
        rw [List.take_add_one, hj]; rfl
      rw [e, List.drop_append_of_le_length (by rw [List.length_take]; grind)]
      simp [refs]
  refine ext_loop (GLI a b κ H0 A l s D y dy q n t₁ t₂ se i) ?_ (b.rows.length + 1) [] s ⟨S, .refl .., c, .inl ⟨rfl, rfl, C⟩⟩
  rintro n' acc s' ⟨S', g', c', ⟨rfl, rfl, C'⟩ | ⟨j, hij, hjl, rfl, hacc, heq, C'⟩⟩
  · refine next_inst (S'.X G) (C'.ok 1 rfl) F.mgrN ?_
    refine grNext_val G F (S'.around (A' := A.in1) rfl) κ (C'.ok 2 rfl) (C'.ok 1 rfl) (nodup_ne C'.nodup (i := 2) (j := 1) rfl rfl (by decide)) hHx (KR.all q hqm).1 (KR.all q hqm).1 (KR.all q hqm).2 (KR.all q hqm).2 hqq (κ.hd _ (KR.all q hqm).1) (κ.hd _ (KR.all q hqm).1) rfl (Nat.lt_of_succ_lt hroom) fun s2 g2 ox2 => ?_
    have C2 := C'.turn1 2 rfl g2 ox2
    refine ⟨c', C2.at 0 rfl, by rw [sizeLine_eq]; decide, b.rows.length - (i + 1), by omega, ?_⟩
    obtain ⟨g3, C3⟩ := C2.upd (H0 := H0) (s := s2) 0 (f := Obj.mapSeq (·.push (.ref q.r))) rfl rfl nd_seq rfl hHD
    have g4 := (g2.mono (M' := [D, b.x, b.it]) (by simp)).trans (g3.mono (M' := [D, b.x, b.it]) (by simp))
    refine ⟨S'.go g4, g'.trans g4, c' + 1, .inr ⟨i + 1, Nat.lt_succ_self i, hilt, rfl, ?_, ?_, C3⟩⟩
    · have := (base i q hi).resolve_right (Nat.lt_irrefl _)
      rw [← this]
      simp [refs]
    · intro m q' h1 h2 h3
      have : m = i := by lia
      subst this
      rw [hi] at h3; cases h3; exact hqq
  · cases hj : b.rows[j]? with
    | none =>
      have hjN : j = b.rows.length := by
        have := List.getElem?_eq_none_iff.mp hj
        lia
      refine next_inst (S'.X G) (C'.ok 1 rfl) F.mgrN ?_
      refine grNext_end G F (S'.around (A' := A.in1) rfl) (C'.ok 2 rfl) (C'.at 3 rfl) (C'.at 4 rfl) (C'.ok 1 rfl) (nodup_ne C'.nodup (i := 2) (j := 1) rfl rfl (by decide)) hHit (refs_none hj) (Nat.lt_of_succ_lt hroom) hh fun e t s2 F2 => ?_
      refine stop_fly F2 ?_
      have C2 := C'.turn1 3 rfl F2.go (F2.has _ (.head _))
      rw [hacc] at C2
      exact k j c' s2 hij heq (fun q' h => by rw [hj] at h; cases h) hjl (g'.trans (F2.go.mono (by simp))) (.inr ⟨hj, hjN, C2⟩)
    | some q' =>
      have hjN : j < b.rows.length := (List.getElem?_eq_some_iff.mp hj).1
      have hqm' : q' ∈ b.rows := List.mem_of_getElem? hj
      have Z := Lg.step (K := K) (H0 := H0) (s := s') (pre := [(D, lstO acc c'), (y, io a.gr dy (b.gr n t₂ q.key))]) (i := j) (q := q') C' hj hHx hHit
      refine next_inst (S'.X G) (C'.ok 1 rfl) F.mgrN ?_
      refine grNext_step G F (S'.around (A' := A.in1) rfl) κ Z (C'.ok 1 rfl) ?_ (KR.all q hqm).1 (KR.all q' hqm').1 (KR.all q hqm).2 (KR.all q' hqm').2 (KR.tok q hqm q' hqm') (κ.hd _ (KR.all q' hqm').1) (κ.hd _ (KR.all q hqm).1) hroom hh (fun he s2 g2 ox2 hit2 => ?_) (fun he e t s2 F2 => ?_)
      · intro p hp
        have C1 := C'.sub (led' := (y, io a.gr dy (b.gr n t₂ q.key)) :: [(b.x, io a.gb b.dg (b.st (.int n t₁) .none .none false false true se q.key)), (b.it, itO b.lst j), (b.lst, lstO (refs b.rows) b.ep), (b.ig, io a.ig b.di [some (.ref b.tp)]), (b.tp, tupO [.int 0 b.u]), (q'.r, tupO [q'.key, q'.pos])])
          (.cons _ (.cons_cons _ (.cons_cons _ (.cons_cons _ (.cons_cons _ (.cons_cons _ (.cons_cons _ (List.singleton_sublist.mpr (List.mem_map.mpr ⟨q', hqm', rfl⟩)))))))))
        have := (List.nodup_cons.mp C1.nodup).1
        exact fun z => this (by rw [← z]; exact hp)
      · have C2 := C'.turn2 2 3 rfl rfl (by decide) g2 ox2 (okk_it hit2)
        refine ⟨c', C2.at 0 rfl, ?_, b.rows.length - (j + 1), by grind, ?_⟩
        · rw [hacc]
          simp only [refs, List.length_map, List.length_drop, List.length_take]
          grind
        obtain ⟨g3, C3⟩ := C2.upd (H0 := H0) (s := s2) 0 (f := Obj.mapSeq (·.push (.ref q'.r))) rfl rfl nd_seq rfl hHD
        have g4 := (g2.mono (M' := [D, b.x, b.it]) (by simp)).trans (g3.mono (M' := [D, b.x, b.it]) (by simp))
        refine ⟨S'.go g4, g'.trans g4, c' + 1, .inr ⟨j + 1, by lia  , hjN, rfl, ?_, ?_, ?_⟩⟩
        · rw [hacc]; exact (base j q' hj).resolve_right (by lia  )
        · intro m q'' h1 h2 h3
          by_cases hm : m < j
          · exact heq m q'' h1 hm h3
          · have : m = j := by lia
            subst this
            rw [hj] at h3; cases h3; exact he
        · have e : Obj.mapSeq (fun x => x.push (Value.ref q'.r)) (lstO acc c') = lstO (acc ++ [Value.ref q'.r]) (c' + 1) := by simp [Obj.mapSeq]
          rw [e] at C3
          exact C3
      · refine stop_fly F2 ?_
        have C2 := C'.turn2 2 3 rfl rfl (by decide) F2.go (F2.has _ (.head _)) (F2.has _ (.tail _ (.head _)))
        rw [hacc] at C2
        exact k j c' s2 hij heq (fun q'' h => by rw [hj] at h; cases h; exact he) hjl (g'.trans (F2.go.mono (by simp))) (.inl ⟨q', hj, C2⟩)
end
end Mine
end
section
set_option maxRecDepth 100000
set_option autoImplicit false
namespace Mine
open PySem PySem.W PySem.Calls PyProof.Rows PySem.Spec
section
variable {K : Frag} {a : Adr} {H0 : Heap} {mg mb : Str → Option Value} {A : Around} {l : List Env} {s : Shared} {prog : Program} {w : World} {E : Value → Shared → Prop}

theorem is_type {x y : String} {b : Bool} {Q : Value → Shared → Prop} (e : (Value.type x == Value.type y) = b) (h : Q (.bool b) s) : wpAny (model prog w) A (compareOp .Is (.type x) (.type y)) Q E s := by
  show wpAny _ A (do return .bool (← isSame (.type x) (.type y))) Q E s
  have e' : isSame (.type x) (.type y) = pure b := by rw [← e]; rfl
  rw [e']; exact wpAny_bind (wpAny_pure (wpAny_pure h))

theorem kind_int (G : Gl K H0 mg mb) (F : KF K a) (S : St H0 A l s) {n : Int} {t : Tok} (hroom : A.depth < recursionLimit) {Q : Value → Shared → Prop} (k : ∀ u s', Go H0 [] s s' → Q (.int 0 u) s') : wpAny (model prog w) A (call (.ref a.kind) [.int n t]) Q E s := by
  refine wpAny_call (enterF (binds := [(Str.ofString "x", .int n t)]) G S F.kind [] [] (fun _ h => nomatch h) List.nodup_nil hroom (fun _ _ _ _ _ _ => BindsTo.of_eq rfl) (by decide) (locs rfl) fun L cdv s1 _ C => ?_)
  refine wpAny_execs_cons (wpAny_Assign_Name (Call_ (C.boot G F.ntype Boot.«type» (PySem.callWith_type rfl (evalArgs_plain (args_cons (C.name rfl (args_nil (call_type_of (typeIs_int _ _ _) (by decide) (C.set fun s2 C2 => ?_))))))))))
  refine wpAny_execs_cons (wpAny_If (wpAny_isTrue_BoolOp (wpAny_allTrue_Or_cons (wpAny_isTrue_Compare1 (C2.name rfl (C2.boot G F.nint Boot.«int» (is_type (b := true) (by decide) (wpAny_truthy_bool ?_))))))))
  (try simp only [if_true])
  exact wpAny_execs_cons (wpAny_Return_some (wpAny_Constant_int (k _ _ (C2.tok 1).go)))

noncomputable def ctS (cnt fast step : Value) : List (Option Value) := [some cnt, some fast, some step]
theorem truthy_true {b : Bool} {Q : Bool → Shared → Prop} {M : Model} (e : b = true) (h : Q true s) : wpAny M A (truthy (.bool b)) Q E s := by subst e; exact wpAny_truthy_bool h

set_option maxHeartbeats 2000000 in
theorem ctInit_spec (G : Gl K H0 mg mb) (F : KF K a) (S : St H0 A l s) {x dx : Addr} (hx : Okk s.heap (x, io a.ct dx [])) (hH : H0.get? x = none) (hroom : A.depth + 1 < recursionLimit) {R : Result → Shared → Prop}
    (k : ∀ t u s', Go H0 [x] s s' → Okk s'.heap (x, io a.ct dx (ctS (.int 0 t) (.bool true) (.int 1 u))) → R (.ok (.ret .none)) s') :
    codeAny (model prog w) A (.call (.ref a.ctInit) ⟨[.ref x], []⟩) R s := by
  obtain ⟨t0, u0, o, n, ho, hs⟩ := F.ctD
  obtain ⟨tm, hmax⟩ := F.nmax
  refine enterF (binds := [(Str.ofString "self", .ref x), (Str.ofString "start", .int 0 t0), (Str.ofString "step", .int 1 u0)]) G S F.ctInit [x] [(x, io a.ct dx [])] (fun p hp => by rw [List.mem_singleton.mp hp]; exact hx) (by simp) (Nat.lt_of_succ_lt hroom) (fun _ _ _ _ _ _ => binds_K (S.X G) rfl ho hs rfl rfl) (by decide) (locs rfl) fun L cdv s1 _ C => ?_
  refine wpAny_execs_cons (wpAny_Assign_Name (C.callFn G F.nkind F.kkind (args_cons (C.name rfl (args_nil ⟨C.st.X G, kind_int G F C.st hroom fun u1 s2 g2 => (C.call g2).set fun s3 C3 => ?_⟩)))))
  refine wpAny_execs_cons (wpAny_Assign_Name (C3.callFn G F.nkind F.kkind (args_cons (C3.name rfl (args_nil ⟨C3.st.X G, kind_int G F C3.st hroom fun u2 s4 g4 => (C3.call g4).set fun s5 C5 => ?_⟩)))))
  refine wpAny_execs_cons (wpAny_If (wpAny_isTrue_BoolOp (wpAny_allTrue_Or_cons (wpAny_isTrue_Compare1 (C5.name rfl (wpAny_Constant_int (PyProof.Rows.eq_int (wpAny_truthy_bool ?_))))))))
  refine ite_no' (by decide) ?_
  have C6 := C5.tok 1
  refine wpAny_allTrue_Or_cons (wpAny_isTrue_Compare1 (C6.name rfl (wpAny_Constant_int (PyProof.Rows.eq_int (wpAny_truthy_bool ?_)))))
  refine ite_no' (by decide) ?_
  have C7 := C6.tok 1
  refine wpAny_allTrue_Or_nil ?_
  (try simp only [Bool.false_eq_true, if_false])
  refine wpAny_execs_nil ?_
  refine wpAny_execs_cons (wpAny_Assign_Name (BoolOp_and (wpAny_Compare1 (C7.name rfl (wpAny_Constant_int (PyProof.Rows.eq_int (truthy_true (by decide) ?_)))))))
  first | refine ite_yes' rfl ?_ | refine ite_yes rfl ?_ | rw [if_pos rfl]
  have C8 := C7.tok 1
  refine BoolOp_and (wpAny_Compare1 (C8.name rfl (wpAny_Constant_int (PyProof.Rows.eq_int (truthy_true (by decide) ?_)))))
  first | refine ite_yes' rfl ?_ | refine ite_yes rfl ?_ | rw [if_pos rfl]
  have C9 := C8.tok 1
  refine BoolOp_and (wpAny_Compare1 (C9.name rfl (wpAny_Constant_int (PyProof.Rows.eq_int (truthy_true (by decide) ?_)))))
  first | refine ite_yes' rfl ?_ | refine ite_yes rfl ?_ | rw [if_pos rfl]
  have C10 := C9.tok 1
  refine BoolOp_and (wpAny_Compare1 (wpAny_BinOp (wpAny_UnaryOp (C10.global G hmax (P.neg_int (wpAny_Constant_int (P.sub_int ?_)))))))
  have C11 := C10.tok 3
  refine C11.name rfl (P.le_int (truthy_true (by decide) ?_))
  first | refine ite_yes' rfl ?_ | refine ite_yes rfl ?_ | rw [if_pos rfl]
  refine BoolOp_one (wpAny_Compare1 (C11.name rfl (C11.global G hmax (P.le_int ?_))))
  refine C11.set fun s12 C12 => ?_
  refine wpAny_execs_cons (wpAny_If (wpAny_isTrue_value (C12.name rfl (truthy_true (by decide) ?_))))
  refine ite_yes' rfl ?_
  refine wpAny_execs_cons (wpAny_Assign_Name (wpAny_BinOp (C12.name rfl (wpAny_Constant_int (P.add_int ?_)))))
  have C13 := C12.tok 2
  refine C13.set fun s14 C14 => wpAny_execs_nil ?_
  refine wpAny_execs_cons (plainObj_wpAny_Assign_Attribute (C14.name rfl (C14.setA G 0 rfl rfl F.ct F.ct1 (.inl (.head _)) hH (fun s15 C15 => ?_) (sl' := [none, some (.bool true)]) (he := by simp [putS]))))
  refine wpAny_execs_cons (plainObj_wpAny_Assign_Attribute (C15.name rfl (C15.setA G 0 rfl rfl F.ct F.ct0 (.inl (.head _)) hH (fun s16 C16 => ?_) (sl' := [some (.int 0 (s12.toks + 1)), some (.bool true)]) (he := by simp [putS]))))
  refine wpAny_execs_cons (plainObj_wpAny_Assign_Attribute (C16.name rfl (C16.setA G 0 rfl rfl F.ct F.ct2 (.inl (.head _)) hH (fun s17 C17 => ?_) (sl' := ctS (.int 0 (s12.toks + 1)) (.bool true) (.int 1 u0)) (he := by simp [putS, ctS]))))
  exact wpAny_execs_nil (k _ _ s17 C17.go (C17.ok 0 rfl))

theorem ct_make (G : Gl K H0 mg mb) (F : KF K a) (S : St H0 A l s) (hroom : A.depth + 2 < recursionLimit) {R : Result → Shared → Prop}
    (k : ∀ x dx t u s', Go H0 [] s s' → Okk s'.heap (x, io a.ct dx (ctS (.int 0 t) (.bool true) (.int 1 u))) → s.heap.get? x = none → s.heap.get? dx = none → R (.ok (.ret (.ref x))) s') :
    codeAny (model prog w) A (.call (.ref a.ct) ⟨[], []⟩) R s := by
  refine S.make G F.ct F.mctI fun x dx s1 g1 ox nx ndx => ?_
  have hH : H0.get? x = none := by
    cases q : H0.get? x with
    | none => rfl
    | some o => have := S.glob _ _ q; rw [nx] at this; cases this
  refine ctInit_spec G F ((S.go g1).around (A' := A.under (.builtin "type.__call__" ⟨[.ref a.ct], []⟩)) rfl) ox hH hroom fun t u s2 g2 ox2 => ⟨rfl, ?_⟩
  exact k x dx t u s2 (g1.step g2 fun p hp => .inr (by rw [List.mem_singleton.mp hp]; exact nx)) ox2 nx ndx

theorem ctNext_spec (G : Gl K H0 mg mb) (F : KF K a) (S : St H0 A l s) {x dx : Addr} {n : Int} {t u : Tok} {fa : Value} (hx : Okk s.heap (x, io a.ct dx (ctS (.int n t) fa (.int 1 u)))) (hH : H0.get? x = none) (hroom : A.depth < recursionLimit) {R : Result → Shared → Prop}
    (k : ∀ t' s', Go H0 [x] s s' → Okk s'.heap (x, io a.ct dx (ctS (.int (n + 1) t') fa (.int 1 u))) → R (.ok (.ret (.int n t))) s') :
    codeAny (model prog w) A (.call (.ref a.ctNext) ⟨[.ref x], []⟩) R s := by
  refine enterF (binds := [(Str.ofString "self", .ref x)]) G S F.ctNext [x] [(x, io a.ct dx (ctS (.int n t) fa (.int 1 u)))] (fun p hp => by rw [List.mem_singleton.mp hp]; exact hx) (by simp) hroom (fun _ _ _ _ _ _ => BindsTo.of_eq rfl) (by decide) (locs rfl) fun L cdv s1 _ C => ?_
  refine wpAny_execs_cons (wpAny_Assign_Name (C.attr G 0 rfl rfl F.ct F.ct0 rfl rfl fun s2 C2 => C2.set fun s3 C3 => ?_))
  refine wpAny_execs_cons (plainObj_wpAny_Assign_Attribute (wpAny_BinOp (C3.name rfl (C3.attr G 0 rfl rfl F.ct F.ct2 rfl rfl fun s4 C4 => P.add_int ?_))))
  have C5 := C4.tok 1
  refine C5.setA G 0 rfl rfl F.ct F.ct0 (.inl (.head _)) hH (fun s6 C6 => ?_) (sl' := ctS (.int (n + 1) s4.toks) fa (.int 1 u)) (he := by simp [putS, ctS])
  exact wpAny_execs_cons (wpAny_Return_some (C6.name rfl (k _ s6 C6.go (C6.ok 0 rfl))))
end
end Mine
end
section
set_option maxRecDepth 100000
set_option autoImplicit false
namespace Mine
open PySem PyProof.Rows

noncomputable def kv (ρ : Value → Int) (xs : Array Keyed) (i : Nat) : Int := match xs[i]? with
  | some p => ρ p.1
  | none => 0
theorem kv_congr {ρ : Value → Int} {xs ys : Array Keyed} {i j : Nat} (h : xs[i]? = ys[j]?) : kv ρ xs i = kv ρ ys j := by unfold kv; rw [h]
theorem kv_bubble {ρ : Value → Int} {xs : Array Keyed} {src d : Nat} (hs : src < xs.size) (hd : d ≤ src) (k : Nat) :
    kv ρ (bubble xs src d) k = if k = src - d then kv ρ xs src else if src - d < k ∧ k ≤ src then kv ρ xs (k - 1) else kv ρ xs k := by
  have e := getElem?_bubble hs d hd k
  split
  · rename_i h; rw [if_pos h] at e; exact kv_congr e
  · rename_i h
    rw [if_neg h] at e
    split
    · rename_i h'; rw [if_pos h'] at e; exact kv_congr e
    · rename_i h'; rw [if_neg h'] at e; exact kv_congr e
theorem kv_mirror {ρ : Value → Int} {xs : Array Keyed} {i j : Nat} (hj : j ≤ xs.size) (k : Nat) :
    kv ρ (mirror xs i j ((j - i) / 2)) k = if i ≤ k ∧ k < j then kv ρ xs (i + j - 1 - k) else kv ρ xs k := by
  have e := getElem?_mirror_all (i := i) hj k
  split
  · rename_i h; rw [if_pos h] at e; exact kv_congr e
  · rename_i h; rw [if_neg h] at e; exact kv_congr e

theorem wpS_yes {α : Type} {M : Model} {A : Around} {E : Value → Shared → Prop} {s : Shared} {c : Prop} [Decidable c] {t f : StateT SortSt Sem α} {Q : α → SortSt → Prop} {st : SortSt} (h : c) (k : wpS M A E s t Q st) : wpS M A E s (if c then t else f) Q st := by rw [if_pos h]; exact k
theorem wpS_no {α : Type} {M : Model} {A : Around} {E : Value → Shared → Prop} {s : Shared} {c : Prop} [Decidable c] {t f : StateT SortSt Sem α} {Q : α → SortSt → Prop} {st : SortSt} (h : ¬ c) (k : wpS M A E s f Q st) : wpS M A E s (if c then t else f) Q st := by rw [if_neg h]; exact k
structure SB (ρ : Value → Int) (kd : SortKind) (a₀ : Array Keyed) (st : SortSt) : Prop where
  perm : (arrOf st).Perm a₀
  kind : kindOf st = kd
  failed : failedOf st = none
  pend : pendingOf st = #[]
structure SI (M : Model) (A : Around) (s : Shared) (ρ : Value → Int) (kd : SortKind) (a₀ : Array Keyed) : Prop where
  nodup : a₀.toList.Nodup
  inj : ∀ x ∈ a₀.toList, ∀ y ∈ a₀.toList, ρ x.1 = ρ y.1 → x = y
  cmp : ∀ x ∈ a₀.toList, ∀ y ∈ a₀.toList, ∀ (E : Value → Shared → Prop) (Q : Bool → Shared → Prop), Q (decide (ρ x.1 < ρ y.1)) s → wpAny M A (keyLt' kd x.1 y.1) Q E s

section
variable {prog : Program} {w : World} {A : Around} {E : Value → Shared → Prop} {s : Shared} {ρ : Value → Int} {kd : SortKind} {a₀ : Array Keyed} {st : SortSt}

theorem SB.size (h : SB ρ kd a₀ st) : (arrOf st).size = a₀.size := h.perm.size_eq
theorem SB.setArr (h : SB ρ kd a₀ st) {xs : Array Keyed} (hp : xs.Perm (arrOf st)) : SB ρ kd a₀ (setArr st xs) := ⟨hp.trans h.perm, h.kind, h.failed, h.pend⟩
theorem SB.mem (h : SB ρ kd a₀ st) {i : Nat} (hi : i < a₀.size) : ∃ p, (arrOf st)[i]? = some p ∧ p ∈ a₀.toList ∧ kv ρ (arrOf st) i = ρ p.1 := by
  have hi' : i < (arrOf st).size := by rw [h.size]; exact hi
  refine ⟨(arrOf st)[i], getElem?_pos _ i hi', (Array.perm_iff_toList_perm.mp h.perm).mem_iff.mp (by simp), ?_⟩
  unfold kv; rw [getElem?_pos _ i hi']
theorem SB.ne (h : SB ρ kd a₀ st) {M : Model} (I : SI M A s ρ kd a₀) {i j : Nat} (hi : i < a₀.size) (hj : j < a₀.size) (hij : i ≠ j) : kv ρ (arrOf st) i ≠ kv ρ (arrOf st) j := by
  obtain ⟨p, h1, h2, h3⟩ := h.mem hi
  obtain ⟨q, h4, h5, h6⟩ := h.mem hj
  rw [h3, h6]
  intro e
  have := I.inj p h2 q h5 e
  subst this
  have hn : (arrOf st).toList.Nodup := (Array.perm_iff_toList_perm.mp h.perm).nodup_iff.mpr I.nodup
  rw [← Array.getElem?_toList] at h1 h4
  obtain ⟨a1, b1⟩ := List.getElem?_eq_some_iff.mp h1
  obtain ⟨a2, b2⟩ := List.getElem?_eq_some_iff.mp h4
  rcases Nat.lt_or_gt_of_ne hij with z | z
  · exact List.pairwise_iff_getElem.mp hn i j a1 a2 z (b1.trans b2.symm)
  · exact List.pairwise_iff_getElem.mp hn j i a2 a1 z (b2.trans b1.symm)

theorem sLt (h : SB ρ kd a₀ st) (I : SI (model prog w) A s ρ kd a₀) {i j : Nat} {Q : Option Bool → SortSt → Prop} (hi : i < a₀.size) (hj : j < a₀.size)
    (hq : Q (some (decide (kv ρ (arrOf st) i < kv ρ (arrOf st) j))) st) : wpS (model prog w) A E s (ltAt' i j) Q st := by
  obtain ⟨p, h1, h2, h3⟩ := h.mem hi
  obtain ⟨q, h4, h5, h6⟩ := h.mem hj
  rw [h3, h6] at hq
  rw [ltAt'_eq]
  refine wpS_bind (wpS_get ?_)
  show wpS _ _ _ _ (do let x ← elem' (arrOf st) i; let y ← elem' (arrOf st) j; lt' x y) Q st
  rw [elem'_eq, elem'_eq, h1, h4]
  refine wpS_bind (wpS_pure (wpS_bind (wpS_pure ?_)))
  rw [lt'_eq]
  refine wpS_bind (wpS_get ?_)
  rw [h.kind]
  exact wpS_bind (wpS_lift (wpAny_attempt (I.cmp p h2 q h5 _ _ ⟨rfl, wpS_pure hq⟩)))

noncomputable def Inc (ρ : Value → Int) (xs : Array Keyed) (k : Nat) : Prop := ∀ i j, i < j → j < k → kv ρ xs i < kv ρ xs j
noncomputable def Dec (ρ : Value → Int) (xs : Array Keyed) (k : Nat) : Prop := ∀ i j, i < j → j < k → kv ρ xs j < kv ρ xs i

theorem sAsc (I : SI (model prog w) A s ρ kd a₀) (h : SB ρ kd a₀ st) {b nrem : Nat} (hn : nrem ≤ a₀.size) (hb : 1 ≤ b) (hbn : b ≤ nrem) (hs : Inc ρ (arrOf st) b) {Q : AscSt → SortSt → Prop}
    (k : ∀ n, b ≤ n → n ≤ nrem → Inc ρ (arrOf st) n → (n = nrem ∨ kv ρ (arrOf st) n < kv ρ (arrOf st) (n - 1)) → Q (none, n) st) : wpS (model prog w) A E s (ascLoop b nrem) Q st := by
  unfold ascLoop
  refine wpS_forRange (I := fun x c st' => st' = st ∧ c = (none, x) ∧ Inc ρ (arrOf st) x) (fun x c st' hx1 hx2 hI => ?_) (fun c st' hI => ?_) ⟨rfl, rfl, hs⟩
  · obtain ⟨rfl, rfl, hs'⟩ := hI
    dsimp only
    refine wpS_bind (sLt h I (by lia  ) (by lia  ) ?_)
    by_cases hl : kv ρ (arrOf st') x < kv ρ (arrOf st') (x - 1)
    · simp only [hl, decide_true, if_true]
      exact wpS_pure (k x hx1 (by lia  ) hs' (.inr hl))
    · simp only [hl, decide_false, Bool.false_eq_true, if_false]
      refine wpS_pure ⟨rfl, rfl, fun i j hij hj => ?_⟩
      have hne := h.ne I (i := x) (j := x - 1) (by lia  ) (by lia  ) (by lia  )
      by_cases hjx : j < x
      · exact hs' i j hij hjx
      · have : j = x := by lia
        subst this
        by_cases hi : i = j - 1
        · subst hi; lia
        · have := hs' i (j - 1) (by lia  ) (by lia  )
          lia
  · obtain ⟨rfl, rfl, hs'⟩ := hI
    rw [show max b nrem = nrem by lia  ] at hs' ⊢
    exact k nrem hbn (Nat.le_refl _) hs' (.inl rfl)

theorem sTail (I : SI (model prog w) A s ρ kd a₀) (h : SB ρ kd a₀ st) {n nrem : Nat} (hn : nrem ≤ a₀.size) (h1 : 1 ≤ n) (hnn : n ≤ nrem) (hs : Dec ρ (arrOf st) n) {Q : Option Nat → SortSt → Prop}
    (k : ∀ m st', SB ρ kd a₀ st' → 1 ≤ m → m ≤ nrem → Inc ρ (arrOf st') m → Q (some m) st') : wpS (model prog w) A E s (tail3 n nrem) Q st := by
  unfold tail3
  have hsz : n ≤ (arrOf st).size := by rw [h.size]; lia
  refine wpS_bind (wpS_reverse ?_)
  have h' : SB ρ kd a₀ (PyProof.Rows.setArr st (mirror (arrOf st) 0 n ((n - 0) / 2))) := h.setArr (mirror_perm _ _ _ _)
  refine wpS_bind (sAsc I h' hn h1 hnn ?_ fun m hm1 hm2 hsm _ => wpS_pure (k m _ h' (by lia  ) hm2 hsm))
  intro i j hij hj
  show kv ρ (mirror (arrOf st) 0 n ((n - 0) / 2)) i < kv ρ (mirror (arrOf st) 0 n ((n - 0) / 2)) j
  rw [kv_mirror hsz, kv_mirror hsz, if_pos ⟨Nat.zero_le _, by lia  ⟩, if_pos ⟨Nat.zero_le _, hj⟩]
  exact hs _ _ (by grind) (by (clear hj; omega))

theorem sDesc (I : SI (model prog w) A s ρ kd a₀) (h : SB ρ kd a₀ st) {n nrem : Nat} (hn : nrem ≤ a₀.size) (h1 : 1 ≤ n) (hnn : n ≤ nrem) (hs : Dec ρ (arrOf st) n) {Q : DescSt → SortSt → Prop}
    (k : ∀ m, n ≤ m → m ≤ nrem → Dec ρ (arrOf st) m → Q (none, m, 0) st) : wpS (model prog w) A E s (descLoop n nrem) Q st := by
  unfold descLoop
  refine wpS_forRange (I := fun x c st' => st' = st ∧ c = (none, x, 0) ∧ Dec ρ (arrOf st) x) (fun x c st' hx1 hx2 hI => ?_) (fun c st' hI => ?_) ⟨rfl, rfl, hs⟩
  · obtain ⟨rfl, rfl, hs'⟩ := hI
    dsimp only
    refine wpS_bind (sLt h I (by lia  ) (by lia  ) ?_)
    have hne := h.ne I (i := x) (j := x - 1) (by lia  ) (by lia  ) (by grind)
    by_cases hl : kv ρ (arrOf st') x < kv ρ (arrOf st') (x - 1)
    · simp only [hl, decide_true, if_true]
      first | refine wpS_no (by lia  ) ?_ | rw [if_neg (by lia  )]
      refine wpS_pure ⟨rfl, rfl, fun i j hij hj => ?_⟩
      by_cases hjx : j < x
      · exact hs' i j hij hjx
      · have : j = x := by lia
        subst this
        by_cases hi : i = j - 1
        · subst hi; omega
        · have := hs' i (j - 1) (by lia  ) (by lia  )
          lia
    · simp only [hl, decide_false, Bool.false_eq_true, if_false]
      refine wpS_bind (sLt h I (by lia  ) (by lia  ) ?_)
      have hg : kv ρ (arrOf st') (x - 1) < kv ρ (arrOf st') x := by lia
      simp only [hg, decide_true, if_true]
      exact wpS_pure (k x hx1 (by lia  ) hs')
  · obtain ⟨rfl, rfl, hs'⟩ := hI
    rw [show max n nrem = nrem by lia  ] at hs' ⊢
    exact k nrem hnn (Nat.le_refl _) hs'

theorem sDescPart (I : SI (model prog w) A s ρ kd a₀) (h : SB ρ kd a₀ st) {n nrem : Nat} (hn : nrem ≤ a₀.size) (hnn : n + 1 ≤ nrem) (hs : Dec ρ (arrOf st) (n + 1)) {Q : Option Nat → SortSt → Prop}
    (k : ∀ m st', SB ρ kd a₀ st' → 1 ≤ m → m ≤ nrem → Inc ρ (arrOf st') m → Q (some m) st') : wpS (model prog w) A E s (descPart n nrem) Q st := by
  unfold descPart
  refine wpS_bind (wpS_lift (wpAny_rule ⟨rfl, ?_⟩))
  refine wpS_bind (sDesc I h hn (by lia  ) hnn hs fun m hm1 hm2 hs' => ?_)
  dsimp only
  first | refine wpS_no (by lia  ) ?_ | rw [if_neg (by lia  )]
  exact sTail I h hn (by lia  ) hm2 hs' k

theorem sCount (I : SI (model prog w) A s ρ kd a₀) (h : SB ρ kd a₀ st) {nrem : Nat} (hn : nrem ≤ a₀.size) (h1 : 1 ≤ nrem) {Q : Option Nat → SortSt → Prop}
    (k : ∀ m st', SB ρ kd a₀ st' → 1 ≤ m → m ≤ nrem → Inc ρ (arrOf st') m → Q (some m) st') : wpS (model prog w) A E s (countRun' 0 nrem) Q st := by
  rw [countRun0_eq]
  refine wpS_bind (sAsc I h hn (Nat.le_refl 1) h1 (fun i j hij hj => by lia  ) fun n hn1 hn2 hsn hor => ?_)
  dsimp only
  by_cases hnn : n = nrem
  · first | refine wpS_yes (by simpa using hnn) ?_ | rw [if_pos (by simpa using hnn)]
    exact wpS_pure (k n st h hn1 hn2 hsn)
  · first | refine wpS_no (by simpa using hnn) ?_ | rw [if_neg (by simpa using hnn)]
    have hlt := hor.resolve_left hnn
    by_cases hgt : n > 1
    · first | refine wpS_yes hgt ?_ | rw [if_pos hgt]
      refine wpS_bind (sLt h I (by lia  ) (by (clear hgt hlt; omega)  ) ?_)
      have hr : kv ρ (arrOf st) 0 < kv ρ (arrOf st) (n - 1) := hsn 0 (n - 1) (by lia  ) (by lia  )
      simp only [hr, decide_true, if_true]
      exact wpS_pure (k n st h hn1 hn2 hsn)
    · first | refine wpS_no hgt ?_ | rw [if_neg hgt]
      have : n = 1 := by lia
      subst this
      refine sDescPart I h hn (by lia  ) (fun i j hij hj => ?_) k
      have hi : i = 0 := by lia
      have hj' : j = 1 := by lia
      subst hi; subst hj'
      exact hlt

theorem sIns (I : SI (model prog w) A s ρ kd a₀) (h : SB ρ kd a₀ st) {n ok : Nat} (hn : n ≤ a₀.size) (hok : ok ≤ n) (hs : Inc ρ (arrOf st) ok) {Q : Bool → SortSt → Prop}
    (k : ∀ st', SB ρ kd a₀ st' → Inc ρ (arrOf st') n → Q true st') : wpS (model prog w) A E s (binarySort' 0 n ok) Q st := by
  rw [binarySort'_eq]
  simp only [Nat.zero_add]
  refine wpS_bind (wpS_mono (wpS_forRange (I := fun x c st' => c = (none, ()) ∧ SB ρ kd a₀ st' ∧ Inc ρ (arrOf st') (min x n)) (Q := fun c st' => c = (none, ()) ∧ SB ρ kd a₀ st' ∧ Inc ρ (arrOf st') n)
    (fun x c st' hx1 hx2 hI => ?_) (fun c st' hI => ?_) ⟨rfl, h, fun i j hij hj => ?_⟩) fun c st' hI => ?_)
  · obtain ⟨rfl, h', hs'⟩ := hI
    rw [show min x n = x by lia  ] at hs'
    refine wpS_bind (wpS_mono (wpS_forRange (I := fun y c st'' => st'' = st' ∧ ∃ l r, c = (none, l, r) ∧ l ≤ r ∧ r ≤ x ∧ r - l ≤ x - y ∧ (∀ i, i < l → kv ρ (arrOf st') i < kv ρ (arrOf st') x) ∧ (∀ i, r ≤ i → i < x → kv ρ (arrOf st') x < kv ρ (arrOf st') i))
      (Q := fun c st'' => st'' = st' ∧ ∃ l r, c = (none, l, r) ∧ l ≤ x ∧ (∀ i, i < l → kv ρ (arrOf st') i < kv ρ (arrOf st') x) ∧ (∀ i, l ≤ i → i < x → kv ρ (arrOf st') x < kv ρ (arrOf st') i))
      (fun y c st'' hy1 hy2 hI => ?_) (fun c st'' hI => ?_) ⟨rfl, 0, x, rfl, Nat.zero_le _, Nat.le_refl _, by lia  , fun i hi => by lia  , fun i h1 h2 => by grind⟩) fun c st'' hI => ?_)
    · obtain ⟨rfl, l, r, rfl, hlr, hrx, hm, hlo, hhi⟩ := hI
      dsimp only
      by_cases hge : l ≥ r
      · first | refine wpS_yes hge ?_ | rw [if_pos hge]
        exact wpS_pure ⟨rfl, l, r, rfl, by lia  , hlo, fun i h1 h2 => hhi i (by lia  ) h2⟩
      · first | refine wpS_no hge ?_ | rw [if_neg hge]
        refine wpS_bind (sLt h' I (by lia  ) (by lia  ) ?_)
        have hne := h'.ne I (i := x) (j := (l + r) / 2) (by lia  ) (by lia  ) (by lia  )
        by_cases hl : kv ρ (arrOf st'') x < kv ρ (arrOf st'') ((l + r) / 2)
        · simp only [hl, decide_true, if_true]
          refine wpS_pure ⟨rfl, l, (l + r) / 2, rfl, by lia  , by lia  , by grind, hlo, fun i h1 h2 => ?_⟩
          by_cases hi : i = (l + r) / 2
          · subst hi; exact hl
          · have := hs' ((l + r) / 2) i (by lia  ) (by omega)
            lia
        · simp only [hl, decide_false, Bool.false_eq_true, if_false]
          refine wpS_pure ⟨rfl, (l + r) / 2 + 1, r, rfl, by lia  , by omega, by grind, fun i h1 => ?_, hhi⟩
          by_cases hi : i = (l + r) / 2
          · subst hi; lia
          · have := hs' i ((l + r) / 2) (by lia  ) (by lia  )
            lia
    · obtain ⟨rfl, l, r, rfl, hlr, hrx, hm, hlo, hhi⟩ := hI
      exact ⟨rfl, l, r, rfl, by lia  , hlo, fun i h1 h2 => hhi i (by lia  ) h2⟩
    · obtain ⟨rfl, l, r, rfl, hlx, hlo, hhi⟩ := hI
      show wpS _ _ _ _ (do moveDown' x l; pure (ForInStep.yield (none, ()))) _ _
      rw [moveDown'_eq]
      refine wpS_bind (wpS_modify (wpS_pure ⟨rfl, h'.setArr (bubble_perm _ _ _), fun i j hij hj => ?_⟩))
      have hxs : x < (arrOf st'').size := by rw [h'.size]; lia
      show kv ρ (bubble (arrOf st'') x (x - l)) i < kv ρ (bubble (arrOf st'') x (x - l)) j
      rw [kv_bubble hxs (by grind), kv_bubble hxs (by grind), show x - (x - l) = l by lia  ]
      repeat' split
      all_goals first
        | (exfalso; lia  )
        | exact hlo _ (by lia  )
        | exact hhi _ (by lia  ) (by omega)
        | exact hs' _ _ (by lia  ) (by omega)
  · obtain ⟨hc, h', hs'⟩ := hI
    rw [show min (max (max ok 1) n) n = n by lia  ] at hs'
    exact ⟨hc, h', hs'⟩
  · by_cases h0 : ok = 0
    · lia
    · exact hs i j hij (by lia  )
  · obtain ⟨rfl, h', hs'⟩ := hI
    exact wpS_pure (k st' h' hs')

theorem sRuns (I : SI (model prog w) A s ρ kd a₀) (h : SB ρ kd a₀ st) (h2 : 2 ≤ a₀.size) (h64 : a₀.size < 64) {Q : Unit → SortSt → Prop}
    (k : ∀ st', (arrOf st').Perm a₀ → failedOf st' = none → Inc ρ (arrOf st') a₀.size → Q () st') : wpS (model prog w) A E s sortRuns' Q st := by
  rw [sortRuns'_eq]
  refine wpS_bind (wpS_get ?_)
  dsimp only
  have hmr : minRun' a₀.size a₀.size 0 = a₀.size := by
    obtain ⟨f, hf⟩ : ∃ f, a₀.size = f + 1 := ⟨a₀.size - 1, by lia  ⟩
    have : minRun' (f + 1) a₀.size 0 = a₀.size := by rw [minRun'_succ, if_pos h64]; rfl
    rwa [← hf] at this
  rw [h.size, hmr]
  let D : SortSt → Prop := fun st' => (arrOf st').Perm a₀ ∧ failedOf st' = none ∧ (pendingOf st').size = 1 ∧ Inc ρ (arrOf st') a₀.size
  have done : ∀ st', SB ρ kd a₀ st' → Inc ρ (arrOf st') a₀.size → D (setPending st' ((pendingOf st').push (0, a₀.size, 0))) := fun st' h' hs' => ⟨h'.perm, h'.failed, by show ((pendingOf st').push _).size = 1; rw [h'.pend]; rfl, hs'⟩
  refine wpS_bind (wpS_mono (wpS_forRange (I := fun x c st' => (x = 0 ∧ c = (none, 0) ∧ SB ρ kd a₀ st') ∨ (1 ≤ x ∧ c = (none, a₀.size) ∧ D st')) (Q := fun c st' => c = (none, a₀.size) ∧ D st')
    (fun x c st' hx1 hx2 hI => ?_) (fun c st' hI => ?_) (.inl ⟨rfl, rfl, h⟩)) fun c st' hI => ?_)
  · rcases hI with ⟨rfl, rfl, h'⟩ | ⟨hx1, rfl, hD⟩
    · dsimp only
      refine wpS_no (by lia) ?_
      rw [show min (a₀.size - 0) a₀.size = a₀.size from Nat.min_self _]
      refine wpS_bind (sCount I h' (Nat.le_refl _) (by lia  ) fun m st2 hB2 hm1 hm2 hs2 => ?_)
      dsimp only
      by_cases hlt : m < a₀.size
      · refine wpS_yes hlt ?_
        refine wpS_bind (wpS_lift (wpAny_rule ⟨rfl, ?_⟩))
        refine wpS_bind (sIns I hB2 (Nat.le_refl _) hm2 hs2 fun st3 hB3 hs3 => ?_)
        (try simp only [Bool.not_true, Bool.false_eq_true, if_false])
        refine wpS_bind (wpS_get ?_)
        have hb : (pendingOf st3).back? = none := by rw [hB3.pend]; rfl
        rw [hb]
        dsimp only
        exact wpS_bind (wpS_modify (wpS_pure (.inr ⟨by lia  , by rw [Nat.zero_add], done st3 hB3 hs3⟩)))
      · refine wpS_no hlt ?_
        have hm : m = a₀.size := by lia
        subst hm
        refine wpS_bind (wpS_get ?_)
        have hb : (pendingOf st2).back? = none := by rw [hB2.pend]; rfl
        rw [hb]
        dsimp only
        exact wpS_bind (wpS_modify (wpS_pure (.inr ⟨by lia  , by rw [Nat.zero_add], done st2 hB2 hs2⟩)))
    · dsimp only
      refine wpS_yes (Nat.le_refl _) ?_
      exact wpS_pure ⟨rfl, hD⟩
  · rcases hI with ⟨hx, _, _⟩ | ⟨_, hc, hD⟩
    · lia
    · exact ⟨hc, hD⟩
  · obtain ⟨rfl, hD⟩ := hI
    dsimp only
    refine wpS_bind (wpS_mono (wpS_forRange (I := fun _ c st'' => st'' = st' ∧ c = (none, ())) (Q := fun c st'' => st'' = st' ∧ c = (none, ())) (fun x c st'' _ _ hI => ?_) (fun _ _ hh => hh) ⟨rfl, rfl⟩) fun c st'' hI => ?_)
    · obtain ⟨rfl, rfl⟩ := hI
      refine wpS_bind (wpS_get ?_)
      refine wpS_yes (by rw [hD.2.2.1]; exact Nat.le_refl 1) ?_
      exact wpS_pure ⟨rfl, rfl⟩
    · obtain ⟨rfl, rfl⟩ := hI
      exact wpS_pure (k _ hD.1 hD.2.1 hD.2.2.2)
end
end Mine
end
section
set_option maxRecDepth 100000
set_option autoImplicit false
namespace Mine
open PySem PySem.W PySem.Calls PyProof.Rows PySem.Spec

theorem perm_map_inv {α β : Type} {f : α → β} : ∀ {l : List α} {m : List β}, (l.map f).Perm m → ∃ l', l.Perm l' ∧ l'.map f = m := by
  intro l m h
  generalize hx : l.map f = x at h
  induction h generalizing l with
  | nil => exact ⟨[], by rw [List.map_eq_nil_iff.mp hx], rfl⟩
  | cons a _ ih =>
    obtain ⟨b, r, rfl, rfl, hr⟩ := List.map_eq_cons_iff.mp hx
    obtain ⟨l', h1, h2⟩ := ih hr
    exact ⟨b :: l', h1.cons b, by rw [List.map_cons, h2]⟩
  | swap a b t =>
    obtain ⟨b', r, rfl, rfl, hr⟩ := List.map_eq_cons_iff.mp hx
    obtain ⟨a', r', rfl, rfl, hr'⟩ := List.map_eq_cons_iff.mp hr
    exact ⟨a' :: b' :: r', List.Perm.swap _ _ _, by rw [List.map_cons, List.map_cons, hr']⟩
  | trans _ _ ih1 ih2 =>
    obtain ⟨l1, h1, h2⟩ := ih1 hx
    obtain ⟨l2, h3, h4⟩ := ih2 h2
    exact ⟨l2, h1.trans h3, h4⟩

noncomputable def posI (q : Row) : Int := match q.pos with | .int i _ => i | _ => 0
noncomputable def ltR (κ : KeyOps) (x y : Row) : Bool := κ.lt x.key y.key || (κ.eq x.key y.key && decide (posI x < posI y))
structure PosR (rows : List Row) : Prop where
  int : ∀ q ∈ rows, ∃ t, q.pos = .int (posI q) t
  ne : ∀ q ∈ rows, ∀ q' ∈ rows, posI q = posI q' → q = q'
theorem ltR_irrefl (κ : KeyOps) {x : Row} (hx : κ.P x.key) : ltR κ x x = false := by simp [ltR, κ.irrefl x.key hx]
theorem ltR_trans (κ : KeyOps) {x y z : Row} (hx : κ.P x.key) (hy : κ.P y.key) (hz : κ.P z.key) (h1 : ltR κ x y = true) (h2 : ltR κ y z = true) : ltR κ x z = true := by
  simp only [ltR, Bool.or_eq_true, Bool.and_eq_true, decide_eq_true_eq] at h1 h2 ⊢
  have e1 := κ.eq_iff x.key y.key hx hy
  have e2 := κ.eq_iff y.key z.key hy hz
  have e3 := κ.eq_iff x.key z.key hx hz
  rcases h1 with h1 | ⟨h1, p1⟩ <;> rcases h2 with h2 | ⟨h2, p2⟩
  · exact .inl (κ.trans _ _ _ hx hy hz h1 h2)
  · obtain ⟨a, b⟩ := e2.mp h2
    rcases κ.neg x.key z.key y.key hx hz hy h1 with q | q
    · exact .inl q
    · rw [b] at q; cases q
  · obtain ⟨a, b⟩ := e1.mp h1
    rcases κ.neg y.key x.key z.key hy hx hz h2 with q | q
    · rw [b] at q; cases q
    · exact .inl q
  · refine .inr ⟨e3.mpr ⟨?_, ?_⟩, by lia  ⟩
    · cases q : κ.lt x.key z.key
      · rfl
      · rcases κ.neg x.key y.key z.key hx hy hz q with r | r
        · rw [(e1.mp h1).1] at r; cases r
        · rw [(e2.mp h2).1] at r; cases r
    · cases q : κ.lt z.key x.key
      · rfl
      · rcases κ.neg z.key y.key x.key hz hy hx q with r | r
        · rw [(e2.mp h2).2] at r; cases r
        · rw [(e1.mp h1).2] at r; cases r
theorem ltR_total (κ : KeyOps) {x y : Row} (hx : κ.P x.key) (hy : κ.P y.key) (hp : posI x ≠ posI y) : ltR κ x y = true ∨ ltR κ y x = true := by
  simp only [ltR, Bool.or_eq_true, Bool.and_eq_true, decide_eq_true_eq]
  have e1 := κ.eq_iff x.key y.key hx hy
  have e2 := κ.eq_iff y.key x.key hy hx
  cases q : κ.lt x.key y.key
  · cases q' : κ.lt y.key x.key
    · rcases Int.lt_or_gt_of_ne hp with z | z
      · exact .inl (.inr ⟨e1.mpr ⟨q, q'⟩, z⟩)
      · exact .inr (.inr ⟨e2.mpr ⟨q', q⟩, z⟩)
    · exact .inr (.inl rfl)
  · exact .inl (.inl rfl)

noncomputable def rk (κ : KeyOps) (rows : List Row) (x : Row) : Int := ((rows.countP fun q => ltR κ q x : Nat) : Int)
noncomputable def rkV (κ : KeyOps) (rows : List Row) (v : Value) : Int := match v with
  | .ref a => match rows.find? (·.r == a) with
    | some q => rk κ rows q
    | none => 0
  | _ => 0
theorem countP_le_of {α : Type} {p q : α → Bool} : ∀ {l : List α}, (∀ x ∈ l, p x = true → q x = true) → l.countP p ≤ l.countP q
  | [], _ => Nat.le_refl _
  | x :: l, h => by
    rw [List.countP_cons, List.countP_cons]
    have ih := countP_le_of (l := l) fun y hy => h y (.tail _ hy)
    have hx := h x (.head _)
    by_cases c : p x = true
    · simp [c, hx c]; exact ih
    · simp [c]; split <;> (clear c; lia)
theorem countP_lt_of {α : Type} {p q : α → Bool} {z : α} : ∀ {l : List α}, (∀ x ∈ l, p x = true → q x = true) → z ∈ l → p z = false → q z = true → l.countP p < l.countP q
  | [], _, h, _, _ => nomatch h
  | x :: l, h, hz, h1, h2 => by
    rw [List.countP_cons, List.countP_cons]
    have le := countP_le_of (l := l) fun y hy => h y (.tail _ hy)
    rcases List.mem_cons.mp hz with rfl | hz
    · simp [h1, h2]; lia
    · have ih := countP_lt_of (l := l) (fun y hy => h y (.tail _ hy)) hz h1 h2
      have hx := h x (.head _)
      by_cases c : p x = true
      · simp [c, hx c]; exact ih
      · simp [c]; split <;> (clear c; lia)
theorem rk_lt {κ : KeyOps} {rows : List Row} (hk : ∀ q ∈ rows, κ.P q.key) {x y : Row} (hx : x ∈ rows) (hy : y ∈ rows) (h : ltR κ x y = true) : rk κ rows x < rk κ rows y := by
  unfold rk
  have := countP_lt_of (p := fun q => ltR κ q x) (q := fun q => ltR κ q y) (l := rows) (z := x) (fun q hq hqx => ltR_trans κ (hk q hq) (hk x hx) (hk y hy) hqx h) hx (ltR_irrefl κ (hk x hx)) h
  exact Int.ofNat_lt.mpr this
theorem rk_iff {κ : KeyOps} {rows : List Row} (hk : ∀ q ∈ rows, κ.P q.key) (P : PosR rows) {x y : Row} (hx : x ∈ rows) (hy : y ∈ rows) : decide (rk κ rows x < rk κ rows y) = ltR κ x y := by
  by_cases hxy : x = y
  · subst hxy; rw [ltR_irrefl κ (hk x hx)]; simp
  · have hp : posI x ≠ posI y := fun e => hxy (P.ne x hx y hy e)
    rcases ltR_total κ (hk x hx) (hk y hy) hp with h | h
    · rw [h]; exact decide_eq_true (rk_lt hk hx hy h)
    · have h2 := rk_lt hk hy hx h
      have : ltR κ x y = false := by
        cases q : ltR κ x y
        · rfl
        · have := rk_lt hk hx hy q; lia
      rw [this]; exact decide_eq_false (by lia  )
theorem find_row {rows : List Row} (hn : (rows.map (·.r)).Nodup) {q : Row} (hq : q ∈ rows) : rows.find? (·.r == q.r) = some q := by
  induction rows with
  | nil => cases hq
  | cons x l ih =>
    rw [List.map_cons] at hn
    obtain ⟨h1, h2⟩ := List.nodup_cons.mp hn
    rcases List.mem_cons.mp hq with rfl | hq
    · simp
    · rw [List.find?_cons]
      have : (x.r == q.r) = false := by
        rw [beq_eq_false_iff_ne]
        exact fun e => h1 (e ▸ List.mem_map.mpr ⟨q, hq, rfl⟩)
      rw [this]; exact ih h2 hq
theorem rkV_row {κ : KeyOps} {rows : List Row} (hn : (rows.map (·.r)).Nodup) {q : Row} (hq : q ∈ rows) : rkV κ rows (.ref q.r) = rk κ rows q := by
  unfold rkV; dsimp only; rw [find_row hn hq]
end Mine
end
section
set_option maxRecDepth 100000
set_option autoImplicit false
namespace Mine
open PySem PySem.W PySem.Calls PyProof.Rows PySem.Spec

noncomputable def pairR (q : Row) : Keyed := (.ref q.r, .ref q.r)
noncomputable def OrdR (κ : KeyOps) (b : Bool) (rows : List Row) : Prop := if b = true then rows.Pairwise (fun x y => ltR κ y x = true) else rows.Pairwise (fun x y => ltR κ x y = true)
theorem zip_refs (rows : List Row) : (refs rows).toArray.zip (refs rows).toArray = (rows.map pairR).toArray := by
  apply Array.toList_inj.mp
  simp only [Array.toList_zip]
  unfold refs
  rw [List.zip_map', ]
  rfl

theorem short_cases {α : Type} (l : List α) (h : l.length < 2) : l = [] ∨ ∃ q, l = [q] := by
  cases l with
  | nil => exact .inl rfl
  | cons q r =>
    cases r with
    | nil => exact .inr ⟨q, rfl⟩
    | cons p t => simp only [List.length_cons] at h; lia
theorem short_ez (b : Bool) {rows : List Row} (h : rows.length < 2) : (if b = true then ((rows.map pairR).toArray).reverse else (rows.map pairR).toArray).map (·.2) = (refs rows).toArray := by
  rcases short_cases rows h with rfl | ⟨q, rfl⟩
  · cases b <;> simp [refs]
  · cases b <;> simp [pairR, refs]
theorem short_pw {R : Row → Row → Prop} {rows : List Row} (h : rows.length < 2) : rows.Pairwise R := by
  rcases short_cases rows h with rfl | ⟨q, rfl⟩
  · exact List.Pairwise.nil
  · exact List.pairwise_singleton _ _
section
variable {H0 : Heap} {A : Around} {s : Shared} {prog : Program} {w : World} {E : Value → Shared → Prop}

theorem row_lt (κ : KeyOps) {rows : List Row} (KR : KeyR κ rows) (P : PosR rows) (nb : NoneBooked s.heap) (hr : ∀ q ∈ rows, s.heap.get? q.r = some (tupO [q.key, q.pos])) {x y : Row} (hx : x ∈ rows) (hy : y ∈ rows) {Q : Bool → Shared → Prop} (h : Q (ltR κ x y) s) :
    wpAny (model prog w) A (keyLt' (tuples' true) (.ref x.r) (.ref y.r)) Q E s := by
  obtain ⟨t, ex⟩ := P.int x hx
  obtain ⟨u, ey⟩ := P.int y hy
  refine kat_lt (hr x hx) rfl (hr y hy) rfl ?_
  show KatLex prog w A true (decide (2 < 2)) Q [(x.key, y.key), (x.pos, y.pos)] 0 s
  have e1 := κ.eq_iff x.key y.key (KR.all x hx).1 (KR.all y hy).1
  refine kat_cons (κ.eqR _ _ _ _ _ _ _ _ nb (KR.all x hx).1 (KR.all y hy).1 (KR.all x hx).2 (KR.all y hy).2 (KR.tok x hx y hy) ?_)
  unfold ltR at h
  cases he : κ.eq x.key y.key with
  | true =>
    rw [he, (e1.mp he).1, Bool.false_or, Bool.true_and] at h
    refine kat_yes (kat_cons ?_)
    rw [ex, ey]
    refine wpAny_eqBool_int ?_
    cases hp : posI x == posI y with
    | true =>
      have : posI x = posI y := by simpa using hp
      refine kat_yes (kat_nil ?_)
      rw [this] at h
      simpa using h
    | false =>
      refine kat_no (kat_one _ _ (PyProof.Rows.lt_int ?_))
      exact h
  | false =>
    rw [he, Bool.false_and, Bool.or_false] at h
    exact kat_no (κ.ltR _ _ _ _ _ _ _ _ _ (KR.all x hx).1 (KR.all y hy).1 h)

theorem rows_tups {h : Heap} : ∀ {rows : List Row}, (∀ q ∈ rows, h.get? q.r = some (tupO [q.key, q.pos])) → KatTups h (refs rows) (rows.map (·.key))
  | [], _ => .nil
  | q :: r, hr => KatTups.cons (hr q (.head _)) rfl rfl rfl (rows_tups fun p hp => hr p (.tail _ hp))

theorem rows_si (κ : KeyOps) {rows : List Row} (KR : KeyR κ rows) (P : PosR rows) (nb : NoneBooked s.heap) (hr : ∀ q ∈ rows, s.heap.get? q.r = some (tupO [q.key, q.pos])) (hn : (rows.map (·.r)).Nodup) {a₀ : Array Keyed} (hp : a₀.toList.Perm (rows.map pairR)) :
    SI (model prog w) A s (rkV κ rows) (tuples' true) a₀ := by
  have hk : ∀ q ∈ rows, κ.P q.key := fun q hq => (KR.all q hq).1
  have mem : ∀ x ∈ a₀.toList, ∃ q ∈ rows, x = pairR q := fun x hx => by
    obtain ⟨q, hq, e⟩ := List.mem_map.mp (hp.mem_iff.mp hx)
    exact ⟨q, hq, e.symm⟩
  refine ⟨?_, ?_, ?_⟩
  · refine hp.nodup_iff.mpr ?_
    have : (rows.map pairR) = (rows.map (·.r)).map (fun a => ((.ref a, .ref a) : Keyed)) := by rw [List.map_map]; rfl
    rw [this]
    exact List.Pairwise.map _ (fun a b hab e => hab (by cases e; rfl)) hn
  · intro x hx y hy e
    obtain ⟨q, hq, rfl⟩ := mem x hx
    obtain ⟨q', hq', rfl⟩ := mem y hy
    have e' : rk κ rows q = rk κ rows q' := by rw [← rkV_row hn hq, ← rkV_row hn hq']; exact e
    by_cases hqq : q = q'
    · rw [hqq]
    · exfalso
      rcases ltR_total κ (hk q hq) (hk q' hq') (fun z => hqq (P.ne q hq q' hq' z)) with z | z
      · have := rk_lt hk hq hq' z; lia
      · have := rk_lt hk hq' hq z; lia
  · intro x hx y hy E Q hQ
    obtain ⟨q, hq, rfl⟩ := mem x hx
    obtain ⟨q', hq', rfl⟩ := mem y hy
    refine row_lt κ KR P nb hr hq hq' ?_
    have : decide (rkV κ rows (pairR q).1 < rkV κ rows (pairR q').1) = ltR κ q q' := by
      show decide (rkV κ rows (.ref q.r) < rkV κ rows (.ref q'.r)) = _
      rw [rkV_row hn hq, rkV_row hn hq', rk_iff hk P hq hq']
    rw [← this]; exact hQ

theorem rows_out (κ : KeyOps) {rows : List Row} (KR : KeyR κ rows) (P : PosR rows) (hn : (rows.map (·.r)).Nodup) {xs : Array Keyed} (hp : xs.toList.Perm (rows.map pairR)) (hs : Inc (rkV κ rows) xs rows.length) :
    ∃ rows', rows'.Perm rows ∧ (xs.map (·.2)) = (refs rows').toArray ∧ rows'.Pairwise (fun x y => ltR κ x y = true) := by
  have hk : ∀ q ∈ rows, κ.P q.key := fun q hq => (KR.all q hq).1
  obtain ⟨rows', h1, h2⟩ := perm_map_inv hp.symm
  have hm : ∀ q ∈ rows', q ∈ rows := fun q hq => h1.mem_iff.mpr hq
  have hl : rows'.length = rows.length := h1.length_eq.symm
  refine ⟨rows', h1.symm, ?_, ?_⟩
  · apply Array.toList_inj.mp
    rw [Array.toList_map, ← h2, List.map_map]
    rfl
  · have get : ∀ i (hi : i < rows'.length), kv (rkV κ rows) xs i = rk κ rows rows'[i] := by
      intro i hi
      have e : xs[i]? = some (pairR rows'[i]) := by
        rw [← Array.getElem?_toList, ← h2, List.getElem?_map, List.getElem?_eq_getElem hi]; rfl
      unfold kv; rw [e]
      exact rkV_row hn (hm _ (List.getElem_mem hi))
    refine List.pairwise_iff_getElem.mpr fun i j hi hj hij => ?_
    have := hs i j hij (by lia  )
    rw [get i hi, get j hj] at this
    have e := rk_iff hk P (hm _ (List.getElem_mem hi)) (hm _ (List.getElem_mem hj))
    rw [← e]; exact decide_eq_true this

theorem size_rev (b : Bool) {z : Array Value} {n : Nat} (h : z.size ≤ n) : (if b = true then z.reverse else z).size ≤ n := by
  split
  · rw [Array.size_reverse]; exact h
  · exact h
theorem le_of_size {z y : Array Value} {n : Nat} (e : z = y) (h : y.size ≤ n) : z.size ≤ n := e ▸ h
theorem sort_rows (κ : KeyOps) {rows : List Row} (KR : KeyR κ rows) (P : PosR rows) {D : Addr} {n : Nat} {b : Bool} (nb : NoneBooked H0) (hg : ∀ x o, H0.get? x = some o → s.heap.get? x = some o) (hD : s.heap.get? D = some (lstO (refs rows) n)) (hHD : H0.get? D = none)
    (hr : ∀ q ∈ rows, s.heap.get? q.r = some (tupO [q.key, q.pos])) (hn : (rows.map (·.r)).Nodup) (h64 : rows.length < 64) {T : PySem.Fin → Shared → Prop}
    (h : ∀ rows' n' s', rows'.Perm rows → OrdR κ b rows' → Go H0 [D] s s' → s'.heap.get? D = some (lstO (refs rows') n') → T (.done (.ret .none)) s') :
    wpAny (model prog w) A (Builtin.«list.sort» ⟨[.ref D], [(Str.ofString "reverse", .bool b)]⟩) T E s := by
  have hlen : (refs rows).toArray.size = rows.length := by simp [refs]
  rw [list_sort_rev]
  refine wpAny_bind (listItems_at hD rfl ?_)
  refine wpAny_bind (listUpdate_at hD rfl ?_ (by rw [hlen, sizeLine_eq]; lia  ) (Nat.zero_le _))
  obtain ⟨e1, ho1⟩ : ∃ e1, (s.heap.update D (Obj.mapSeq fun _ => #[])).get? D = some (seqObj "list" #[] e1) := ⟨_, get?_update_seq hD (fun _ => #[])⟩
  have g1 : Go H0 [D] s { s with heap := s.heap.update D (Obj.mapSeq fun _ => #[]) } := .upd _ hD nd_seq rfl nd_seq hHD
  refine wpAny_bind (seqEpoch_at ho1 rfl ?_)
  refine wpAny_bind (wpAny_newTuple ?_ (by show (refs rows).toArray.toList.length ≤ _; rw [Array.length_toList, hlen, sizeLine_eq]; lia  ))
  refine wpAny_bind (wpAny_newList ?_ (Nat.zero_le _))
  refine wpAny_holding ?_
  obtain ⟨s6, es6⟩ : ∃ s6 : Shared, s6 = { s with heap := ((s.heap.update D (Obj.mapSeq fun _ => #[])).push { cls := .type "tuple", data := .seq (refs rows).toArray.toList.toArray }).push { cls := .type "list", data := .seq ([] : List Value).toArray } } := ⟨_, rfl⟩
  show wpAny (model prog w) A _ T E { s with heap := ((s.heap.update D (Obj.mapSeq fun _ => #[])).push { cls := .type "tuple", data := .seq (refs rows).toArray.toList.toArray }).push { cls := .type "list", data := .seq ([] : List Value).toArray } }
  rw [← es6]
  have g6 : Go H0 [D] s s6 := by
    rw [es6]
    exact g1.trans ((Go.push (s := { s with heap := s.heap.update D (Obj.mapSeq fun _ => #[]) }) _).trans (Go.push (s := { s with heap := (s.heap.update D (Obj.mapSeq fun _ => #[])).push { cls := .type "tuple", data := .seq (refs rows).toArray.toList.toArray } }) _))
  have ho6 : s6.heap.get? D = some (seqObj "list" #[] e1) := by rw [es6]; exact Heap.get?_push_of_some _ (Heap.get?_push_of_some _ ho1)
  have hr6 : ∀ q ∈ rows, s6.heap.get? q.r = some (tupO [q.key, q.pos]) := fun q hq => g6.nd _ _ (hr q hq) (fun hm => ne_cls (hr q hq) hD (by show Value.type "tuple" ≠ .type "list"; decide) (List.mem_singleton.mp hm)) nd_seq
  have nb6 : NoneBooked s6.heap := let ⟨mc, p, q⟩ := nb; ⟨mc, p.keeps (g6.glob hg), q⟩
  have step : ∀ t : Sem PySem.Fin, wpAny (model prog w) A t T E s6 → wpAny (model prog w) A (if b = true then (do let _ ← rule "list.sort.reverse"; t) else t) T E s6 := by
    intro t ht
    split
    · exact wpAny_bind (wpAny_rule ht)
    · exact ht
  have fin : ∀ rows' : List Row, rows'.Perm rows → rows'.Pairwise (fun x y => ltR κ x y = true) → ∀ xs : Array Value, xs = (refs rows').toArray →
      T (.done (.ret .none)) { s6 with heap := s6.heap.update D (Obj.mapSeq fun _ => if b = true then xs.reverse else xs) } := by
    intro rows' h1 h2 xs hxs
    have g7 : Go H0 [D] s6 { s6 with heap := s6.heap.update D (Obj.mapSeq fun _ => if b = true then xs.reverse else xs) } := .upd _ ho6 nd_seq rfl nd_seq hHD
    have ho7 := get?_update_seq ho6 fun _ => if b = true then xs.reverse else xs
    cases b with
    | false =>
      obtain ⟨n7, ho8⟩ : ∃ n7, (s6.heap.update D (Obj.mapSeq fun _ => if false = true then xs.reverse else xs)).get? D = some (lstO (refs rows') n7) := ⟨_, by rw [ho7]; simp only [Bool.false_eq_true, if_false, hxs]; rfl⟩
      exact h rows' n7 _ h1 h2 (g6.trans g7) ho8
    | true =>
      have e : xs.reverse = (refs rows'.reverse).toArray := by
        rw [hxs]; simp [refs]
      obtain ⟨n7, ho8⟩ : ∃ n7, (s6.heap.update D (Obj.mapSeq fun _ => if true = true then xs.reverse else xs)).get? D = some (lstO (refs rows'.reverse) n7) := ⟨_, by rw [ho7]; simp only [if_true, e]; rfl⟩
      exact h rows'.reverse n7 _ ((List.reverse_perm _).trans h1) (List.pairwise_reverse.mpr h2) (g6.trans g7) ho8
  refine step _ ?_
  by_cases h2 : (refs rows).toArray.size < 2
  · rw [if_pos h2, if_pos h2]
    refine wpAny_bind (wpAny_pure (wpAny_bind ?_))
    rw [StateT.run_pure]
    refine wpAny_pure ?_
    dsimp only
    refine wpAny_bind (seqEpoch_at ho6 rfl ?_)
    have ez : (if b = true then ((refs rows).toArray.zip (refs rows).toArray).reverse else (refs rows).toArray.zip (refs rows).toArray).map (·.2) = (refs rows).toArray := by
      rw [zip_refs]
      exact short_ez b (by rw [← hlen]; exact h2)
    refine wpAny_bind (listUpdate_at ho6 rfl ?_ (Nat.zero_le _) ?_)
    · simp only [bne_self_eq_false, Bool.false_eq_true, if_false]
      refine wpAny_pure ?_
      exact fin rows (List.Perm.refl _) (short_pw (by rw [← hlen]; exact h2)) _ ez
    · exact size_rev b (le_of_size ez (by rw [hlen, sizeLine_eq]; lia  ))
  · rw [if_neg h2, if_neg h2]
    have hne : 0 < (rows.map (·.key)).length := by rw [List.length_map]; lia
    refine wpAny_bind (kat_kind (rows_tups hr6) hne (T := κ.ty) (fun v hv => ?_) (by simp) ?_)
    · obtain ⟨q, hq, rfl⟩ := List.mem_map.mp hv
      exact κ.hty _ _ _ (KR.all q hq).1
    have hkt : (κ.ty != Value.type "tuple") = true := by simpa using κ.nty
    rw [hkt]
    have hperm : (if b = true then ((refs rows).toArray.zip (refs rows).toArray).reverse else (refs rows).toArray.zip (refs rows).toArray).toList.Perm (rows.map pairR) := by
      rw [zip_refs]
      split
      · rw [Array.toList_reverse]; exact List.reverse_perm _
      · exact List.Perm.refl _
    generalize (if b = true then ((refs rows).toArray.zip (refs rows).toArray).reverse else (refs rows).toArray.zip (refs rows).toArray) = a₀ at hperm ⊢
    have ha0 : a₀.size = rows.length := by rw [← Array.length_toList, hperm.length_eq, List.length_map]
    have I := rows_si (prog := prog) (w := w) (A := A) κ KR P nb6 hr6 hn hperm
    refine wpAny_bind (wpAny_mono (sRuns (a₀ := a₀) (st := SortSt.mk' (tuples' true) a₀ #[] 7 none) I ⟨Array.Perm.refl _, rfl, rfl, rfl⟩ (by lia  ) (by lia  )
      (Q := fun _ st' => (arrOf st').Perm a₀ ∧ failedOf st' = none ∧ Inc (rkV κ rows) (arrOf st') a₀.size) fun st' a1 a2 a3 => ⟨a1, a2, a3⟩) ?_ fun _ _ e => e)
    rintro ⟨⟨⟩, st'⟩ s' ⟨rfl, hp, hf, hs⟩
    rw [ha0] at hs
    obtain ⟨rows', r1, r2, r3⟩ := rows_out κ KR P hn ((Array.perm_iff_toList_perm.mp hp).trans hperm) hs
    dsimp only
    refine wpAny_bind (seqEpoch_at ho6 rfl ?_)
    refine wpAny_bind (listUpdate_at ho6 rfl ?_ (Nat.zero_le _) ?_)
    · rw [hf]
      simp only [bne_self_eq_false, Bool.false_eq_true, if_false]
      exact wpAny_pure (fin rows' r1 r3 _ r2)
    · exact size_rev b (le_of_size r2 (by have : (refs rows').toArray.size = rows.length := by simp [refs, r1.length_eq]
                                          rw [this, sizeLine_eq]; lia  ))
end
end Mine
end
section
set_option maxRecDepth 100000
set_option autoImplicit false
namespace Mine
open PySem PySem.W PySem.Calls PyProof.Rows PySem.Spec

structure Src (prog : Program) (w : World) (H0 : Heap) (l : List Env) (d : Nat) (I : Addr) (own chg : List Addr) (n : Nat) (Inv Fi : List Value → Shared → Prop) : Prop where
  item : ∀ (A : Around) (acc : List Value) (s : Shared) (Q : Value → Shared → Prop) (E : Value → Shared → Prop), St H0 A l s → A.handled = none → A.depth + d < recursionLimit → acc.length < n → Inv acc s →
    (∀ v s', Go H0 chg s s' → Inv (acc ++ [v]) s' → Q v s') → wpAny (model prog w) A (Builtin.SmallTypes.nextOf (.ref I)) Q E s
  done : ∀ (A : Around) (acc : List Value) (s : Shared) (Q : Value → Shared → Prop) (E : Value → Shared → Prop), St H0 A l s → A.handled = none → A.depth + d < recursionLimit → acc.length = n → Inv acc s →
    (∀ e s', Go H0 chg s s' → s'.TypeIs (.ref e) "StopIteration" → Fi acc s' → E (.ref e) s') → wpAny (model prog w) A (Builtin.SmallTypes.nextOf (.ref I)) Q E s
  keepF : ∀ acc s s' M, Fi acc s → Go H0 M s s' → (∀ p ∈ M, p ∉ own) → Fi acc s'
  keep : ∀ acc s s' M, Inv acc s → Go H0 M s s' → (∀ p ∈ M, p ∉ own) → Inv acc s'
  sub : ∀ p ∈ chg, p ∈ own
  there : ∀ acc s p, Inv acc s → p ∈ own → ∃ o, s.heap.get? p = some o

section
variable {prog : Program} {w : World} {A : Around} {E : Value → Shared → Prop} {s : Shared} {H0 : Heap} {l : List Env}
theorem nextOf_list {it lst : Addr} {i : Nat} {vs : List Value} {n : Nat} {x : Value} {Q : Value → Shared → Prop} (hit : s.heap.get? it = some (itO lst i)) (hl : s.heap.get? lst = some (lstO vs n)) (hx : vs[i]? = some x)
    (hQ : Q x { s with heap := s.heap.update it (Obj.mapFields (·.setIfInBounds 1 (rawInt ((i : Int) + 1)))) }) : wpAny (model prog w) A (Builtin.SmallTypes.nextOf (.ref it)) Q E s := by
  have hT : s.TypeIs (.ref it) "list_iterator" := ⟨_, hit, rfl⟩
  unfold Builtin.SmallTypes.nextOf
  refine wpAny_bind (wpAny_callSpecial?_slot (name := Str.ofString "__next__") hT slot_listiter_next (wpAny_call_entry slot_listiter_next hT entry_listiter_next ?_ (args_listiter_next _)))
  show wpAny _ _ (field (.ref it) 0 >>= _) _ _ s
  refine wpAny_bind (wpAny_field hit rfl (x := .ref lst) rfl ?_)
  show wpAny _ _ (if (Value.ref lst == Value.none) = true then _ else _) _ _ s
  first | refine ite_no' rfl ?_ | refine ite_no (show ¬ ((Value.ref lst == Value.none) = true) from Bool.false_ne_true) ?_ | rw [if_neg (show ¬ ((Value.ref lst == Value.none) = true) from Bool.false_ne_true)]
  show wpAny _ _ (field (.ref it) 1 >>= _) _ _ s
  refine wpAny_bind (wpAny_field hit rfl (x := .int i 0) rfl ?_)
  show wpAny _ _ (seqItems? (.ref lst) >>= _) _ _ s
  refine wpAny_bind (wpAny_seqItems hl rfl ?_)
  simp only [Int.toNat_natCast, List.getElem?_toArray, hx]
  exact wpAny_bind (wpAny_setField hit rfl (by simp) (wpAny_pure ⟨x, rfl, wpAny_pure hQ⟩))
theorem nextOf_list_end {it lst : Addr} {i : Nat} {vs : List Value} {n : Nat} {Q : Value → Shared → Prop} (hh : A.handled = none) (hit : s.heap.get? it = some (itO lst i)) (hl : s.heap.get? lst = some (lstO vs n)) (hx : vs[i]? = none)
    (hE : ∀ h' e, Heap.MadeExc (s.heap.update it (Obj.mapFields (·.setIfInBounds 0 .none))) h' e "StopIteration" [] → E (.ref e) { s with heap := h' }) : wpAny (model prog w) A (Builtin.SmallTypes.nextOf (.ref it)) Q E s := by
  have hT : s.TypeIs (.ref it) "list_iterator" := ⟨_, hit, rfl⟩
  unfold Builtin.SmallTypes.nextOf
  refine wpAny_bind (wpAny_callSpecial?_slot (name := Str.ofString "__next__") hT slot_listiter_next (wpAny_call_entry slot_listiter_next hT entry_listiter_next ?_ (args_listiter_next _)))
  show wpAny _ _ (field (.ref it) 0 >>= _) _ _ s
  refine wpAny_bind (wpAny_field hit rfl (x := .ref lst) rfl ?_)
  show wpAny _ _ (if (Value.ref lst == Value.none) = true then _ else _) _ _ s
  first | refine ite_no' rfl ?_ | refine ite_no (show ¬ ((Value.ref lst == Value.none) = true) from Bool.false_ne_true) ?_ | rw [if_neg (show ¬ ((Value.ref lst == Value.none) = true) from Bool.false_ne_true)]
  show wpAny _ _ (field (.ref it) 1 >>= _) _ _ s
  refine wpAny_bind (wpAny_field hit rfl (x := .int i 0) rfl ?_)
  show wpAny _ _ (seqItems? (.ref lst) >>= _) _ _ s
  refine wpAny_bind (wpAny_seqItems hl rfl ?_)
  simp only [Int.toNat_natCast, List.getElem?_toArray, hx]
  refine wpAny_bind (wpAny_rule (wpAny_bind (wpAny_setField hit rfl (by simp) ?_)))
  show wpAny _ _ (newExc (.type "StopIteration") [] >>= _) _ _ _
  refine wpAny_bind (newExc_stop (fun h' e hm => ?_))
  simp only [raiseNew]
  refine wpAny_bind (wpAny_handled ?_)
  rw [show A.in1.handled = none from hh]
  exact wpAny_bind (wpAny_pure (wpAny_throw (hE _ _ hm)))

theorem made_go {M : List Addr} {h' : Heap} {e : Addr} {cls : String} {args : List Value} (hm : Heap.MadeExc s.heap h' e cls args) : Go H0 M s { s with heap := h' } := .ext (s' := { s with heap := h' }) hm.keeps (Nat.le_refl _) rfl rfl _

theorem srcList {I lst : Addr} {vals : List Value} {ep : Nat} (d : Nat) (hI : H0.get? I = none) :
    Src prog w H0 l d I [I, lst] [I] vals.length (fun acc s => Lg s.heap [(I, itO lst acc.length), (lst, lstO vals ep)] ∧ acc = vals.take acc.length) (fun acc _ => acc = vals) where
  item := fun A acc s Q E S hh hd hlt ⟨C, ha⟩ k => by
    obtain ⟨x, hx⟩ : ∃ x, vals[acc.length]? = some x := ⟨vals[acc.length], List.getElem?_eq_getElem hlt⟩
    refine nextOf_list (C.at 0 rfl) (C.at 1 rfl) hx ?_
    obtain ⟨g, C'⟩ := C.upd (H0 := H0) (s := s) 0 (f := Obj.mapFields (·.setIfInBounds 1 (rawInt ((acc.length : Int) + 1)))) rfl rfl nd_fields rfl hI
    refine k x _ (g.mono (by simp)) ⟨?_, ?_⟩
    · have : (acc ++ [x]).length = acc.length + 1 := by simp
      rw [this]; exact C'
    · have : (acc ++ [x]).length = acc.length + 1 := by simp
      rw [this, List.take_add_one, hx, ← ha]; rfl
  done := fun A acc s Q E S hh hd hlt ⟨C, ha⟩ k => by
    refine nextOf_list_end hh (C.at 0 rfl) (C.at 1 rfl) (List.getElem?_eq_none (Nat.le_of_eq hlt.symm)) fun h' e hm => ?_
    obtain ⟨g, C'⟩ := C.upd (H0 := H0) (s := s) 0 (f := Obj.mapFields (·.setIfInBounds 0 .none)) rfl rfl nd_fields rfl hI
    obtain ⟨t, ht, _⟩ := hm.there
    exact k e _ ((g.mono (by simp)).trans (made_go (s := { s with heap := s.heap.update I (Obj.mapFields (·.setIfInBounds 0 .none)) }) hm)) ⟨_, ht, rfl⟩ (by rw [ha, hlt, List.take_length])
  keepF := fun _ _ _ _ h _ _ => h
  keep := fun acc s s' M ⟨C, ha⟩ g hM => ⟨C.turn g _ rfl fun p hp => .inl ⟨hp, fun q => by
    rcases List.mem_cons.mp hp with rfl | hp
    · exact hM _ q (by simp)
    · rw [List.mem_singleton.mp hp] at q; exact hM _ q (by simp)⟩, ha⟩
  sub := by simp
  there := fun acc s p ⟨C, ha⟩ hp => by
    rcases List.mem_cons.mp hp with rfl | hp
    · exact ⟨_, C.at 0 rfl⟩
    · rw [List.mem_singleton.mp hp]; exact ⟨_, C.at 1 rfl⟩
end
end Mine
end
section
set_option maxRecDepth 100000
set_option autoImplicit false
set_option genInjectivity false
set_option genSizeOf false
namespace Mine
open PySem PySem.W PySem.Calls PyProof.Rows PySem.Spec

noncomputable abbrev zO (f0 : Value) (fl : Bool) (TI TO : Addr) : Obj := { cls := .type "zip", data := .fields #[f0, .bool fl, .bool false, .ref TI, .ref TO] }
noncomputable abbrev tO (xs : Array Value) (n : Nat) : Obj := { cls := .type "tuple", data := .seq xs n }

structure ZA where
  z : Addr
  TI : Addr
  TO : Addr
  ct : Addr
  dc : Addr
  I : Addr
noncomputable abbrev zl (a : Adr) (b : ZA) (f0 : Value) (fl : Bool) (xs : Array Value) (e : Nat) (c : List (Option Value)) : List (Addr × Obj) := [(b.z, zO f0 fl b.TI b.TO), (b.TI, tupO [.ref b.I, .ref b.ct]), (b.TO, tO xs e), (b.ct, io a.ct b.dc c)]
structure ZSt (a : Adr) (b : ZA) (own : List Addr) (Inv : List Value → Shared → Prop) (acc : List Value) (f0 : Value) (fl : Bool) (s : Shared) : Prop where
  lg : ∃ xs e t u, Lg s.heap (zl a b f0 fl xs e (ctS (.int acc.length t) (.bool true) (.int 1 u))) ∧ xs.size = 2
  inv : Inv acc s
  f0 : (f0 = .none ∧ acc = []) ∨ ∃ T o, f0 = .int (T : Nat) 0 ∧ s.heap.get? T = some o

section
variable {K : Frag} {a : Adr} {H0 : Heap} {mg mb : Str → Option Value} {A : Around} {l : List Env} {s : Shared} {prog : Program} {w : World} {E : Value → Shared → Prop}
variable {b : ZA} {own chg : List Addr} {Inv Fi : List Value → Shared → Prop} {n d : Nat}

theorem nextOf_inst (X : K.In s.heap) {x c dx g : Addr} {sl : List (Option Value)} {Q : Value → Shared → Prop} (hx : Okk s.heap (x, io c dx sl)) (mk : MethK K c "__next__" g)
    (h : codeAny (model prog w) A (.call (.ref g) ⟨[.ref x], []⟩) (fun r s' => match r with | .ok (.ret v) => Q v s' | .ok _ => False | .error e => E e s') s) : wpAny (model prog w) A (Builtin.SmallTypes.nextOf (.ref x)) Q E s := by
  obtain ⟨od, I, hod⟩ := instAt hx
  unfold Builtin.SmallTypes.nextOf
  exact wpAny_bind (special_fn (name := "__next__") (args := []) X I mk.fi mk.ft (wpAny_mono (wpAny_call (Q := Q) (E := E) h) (fun v s' hq => wpAny_pure hq) fun _ _ z => z))

theorem inv_push (Sr : Src prog w H0 l d b.I own chg n Inv Fi) {acc : List Value} {M : List Addr} {s' : Shared} (h : Inv acc s) (g : Go H0 M s s') (hM : ∀ p ∈ M, p ∉ own) : Inv acc s' := Sr.keep acc s s' M h g hM

set_option maxHeartbeats 2000000 in
theorem arr2 {xs : Array Value} (h : xs.size = 2) : ∃ q0 q1, xs = #[q0, q1] := by
  obtain ⟨ys⟩ := xs
  cases ys with
  | nil => cases h
  | cons a r => cases r with
    | nil => cases h
    | cons c r => cases r with
      | nil => exact ⟨a, c, rfl⟩
      | cons => cases h
theorem zip_item1 (G : Gl K H0 mg mb) (F : KF K a) (S : St H0 A l s) (Sr : Src prog w H0 l d b.I own chg n Inv Fi) (Z : ZSt a b own Inv [] .none false s) (hn : 0 < n) (hH : ∀ p ∈ [b.z, b.TI, b.TO, b.ct], H0.get? p = none ∧ p ∉ own)
    (hh : A.handled = none) (hd : A.depth + d < recursionLimit) (hd1 : A.depth < recursionLimit) {Q : Value → Shared → Prop}
    (k : ∀ T v t s', Go H0 (b.z :: b.TO :: b.ct :: chg) s s' → s'.heap.get? T = some (tupO [v, .int 0 t]) → s.heap.get? T = none → ZSt a b own Inv [v] (.int (T : Nat) 0) false s' → Q (.ref T) s') :
    wpAny (model prog w) A (Builtin.«zip.__next__» ⟨[.ref b.z], []⟩) (qDone Q) E s := by
  obtain ⟨xs, e, t, u, C, hxs⟩ := Z.lg
  obtain ⟨q0, q1, eq2⟩ := arr2 hxs
  subst eq2
  have hz := hH b.z (by simp)
  have hTO := hH b.TO (by simp)
  have hct := hH b.ct (by simp)
  have ownd : ∀ {p : Addr} {o : Obj}, (p, o) ∈ (zl a b .none false #[q0, q1] e (ctS (.int 0 t) (.bool true) (.int 1 u))) → p ∉ own := by
    intro p o hp
    simp only [zl, List.mem_cons, Prod.mk.injEq, List.not_mem_nil, or_false] at hp
    rcases hp with ⟨rfl, _⟩ | ⟨rfl, _⟩ | ⟨rfl, _⟩ | ⟨rfl, _⟩
    · exact hz.2
    · exact (hH b.TI (by simp)).2
    · exact hTO.2
    · exact hct.2
  have m1 : ∀ p ∈ [b.z], p ∈ b.z :: b.TO :: b.ct :: chg := by simp
  have m2 : ∀ p ∈ [b.TO], p ∈ b.z :: b.TO :: b.ct :: chg := by simp
  have m3 : ∀ p ∈ [b.ct], p ∈ b.z :: b.TO :: b.ct :: chg := by simp
  have m4 : ∀ p ∈ chg, p ∈ b.z :: b.TO :: b.ct :: chg := fun p hp => by simp [hp]
  show wpAny _ _ (field (.ref b.z) 2 >>= _) _ _ _
  refine wpAny_bind (wpAny_field (C.at 0 rfl) rfl (x := .bool false) rfl ?_)
  show wpAny _ _ (field (.ref b.z) 3 >>= _) _ _ _
  refine wpAny_bind (wpAny_field (C.at 0 rfl) rfl (x := .ref b.TI) rfl ?_)
  refine wpAny_bind (wpAny_seqItems (C.at 1 rfl) rfl ?_)
  show wpAny _ _ (Builtin.SmallTypes.ownedTupleIsFree (.ref b.z) >>= _) _ _ _
  refine wpAny_bind ?_
  unfold Builtin.SmallTypes.ownedTupleIsFree
  refine wpAny_bind (wpAny_field (C.at 0 rfl) rfl (x := .none) rfl (wpAny_pure ?_))
  (try simp only [if_true])
  refine wpAny_bind (wpAny_rule ?_)
  refine wpAny_bind (wpAny_field (C.at 0 rfl) rfl (x := .ref b.TO) rfl ?_)
  refine wpAny_bind (C.setF (H0 := H0) 0 0 rfl rfl (by show 0 < 5; decide) rfl hz.1 fun s1 g1 C1 => ?_)
  have i1 := inv_push Sr Z.inv g1 (fun p hp => by rw [List.mem_singleton.mp hp]; exact hz.2)
  have C1' : Lg s1.heap (zl a b .ellipsis false #[q0, q1] e (ctS (.int 0 t) (.bool true) (.int 1 u))) := C1
  refine wpAny_bind (wp_forIn_cons (wpAny_bind (wpAny_onRaise ?_)))
  show wpAny _ _ (Builtin.SmallTypes.nextOf (.ref b.I) >>= _) _ _ _
  refine wpAny_bind (Sr.item A [] s1 _ _ (S.go g1) hh hd hn i1 fun v s2 g2 i2 => wpAny_pure ?_)
  have C2 := C1'.turn g2 _ rfl fun p hp => .inl ⟨hp, fun q => by
    obtain ⟨p1, p2⟩ := p
    simp only [zl, List.mem_cons, Prod.mk.injEq, List.not_mem_nil, or_false] at hp
    rcases hp with ⟨rfl, _⟩ | ⟨rfl, _⟩ | ⟨rfl, _⟩ | ⟨rfl, _⟩
    · exact hz.2 (Sr.sub _ q)
    · exact (hH b.TI (by simp)).2 (Sr.sub _ q)
    · exact hTO.2 (Sr.sub _ q)
    · exact hct.2 (Sr.sub _ q)⟩
  refine wpAny_bind (wpAny_seqItems (C2.at 2 rfl) rfl ?_)
  refine wpAny_bind (C2.setS (H0 := H0) 2 0 rfl rfl (by show 2 ≤ _; rw [sizeLine_eq]; decide) rfl nd_seq rfl hTO.1 fun s3 g3 C3 => ?_)
  have i3 := inv_push Sr i2 g3 (fun p hp => by rw [List.mem_singleton.mp hp]; exact hTO.2)
  refine wpAny_bind (wpAny_letGo (wpAny_pure ?_))
  obtain ⟨e3, C3'⟩ : ∃ e3, Lg s3.heap (zl a b .ellipsis false #[v, q1] e3 (ctS (.int 0 t) (.bool true) (.int 1 u))) := ⟨_, C3⟩
  refine wp_forIn_cons (wpAny_bind (wpAny_onRaise ?_))
  show wpAny _ _ (Builtin.SmallTypes.nextOf (.ref b.ct) >>= _) _ _ _
  have S3 := ((S.go g1).go g2).go g3
  refine wpAny_bind (nextOf_inst (S3.X G) (C3'.ok 3 rfl) F.mctN (ctNext_spec G F S3 (C3'.ok 3 rfl) hct.1 hd1 fun t' s4 g4 ox4 => wpAny_pure ?_))
  have C4 := C3'.turn1 3 rfl g4 ox4
  have i4 := inv_push Sr i3 g4 (fun p hp => by rw [List.mem_singleton.mp hp]; exact hct.2)
  refine wpAny_bind (wpAny_seqItems (C4.at 2 rfl) rfl ?_)
  refine wpAny_bind (C4.setS (H0 := H0) 2 1 rfl rfl (by show 2 ≤ _; rw [sizeLine_eq]; decide) rfl nd_seq rfl hTO.1 fun s5 g5 C5 => ?_)
  have i5 := inv_push Sr i4 g5 (fun p hp => by rw [List.mem_singleton.mp hp]; exact hTO.2)
  refine wpAny_bind (wpAny_letGo (wpAny_pure (wp_forIn_nil ?_)))
  obtain ⟨e5, C5'⟩ : ∃ e5, Lg s5.heap (zl a b .ellipsis false #[v, .int 0 t] e5 (ctS (.int (0 + 1) t') (.bool true) (.int 1 u))) := ⟨_, C5⟩
  refine wpAny_bind (wpAny_seqItems (C5'.at 2 rfl) rfl ?_)
  have g05 : Go H0 (b.z :: b.TO :: b.ct :: chg) s s5 := ((((g1.mono m1).trans (g2.mono m4)).trans (g3.mono m2)).trans (g4.mono m3)).trans (g5.mono m2)
  refine wpAny_bind (C5'.new (H0 := H0) (fun T s6 gp C6' nT => ?_) (by show 2 ≤ _; rw [sizeLine_eq]; decide))
  have C6 := C5'.go gp
  have hT6 := C6'.at 0 rfl
  have i6 := inv_push Sr i5 gp (fun p hp => nomatch hp)
  show wpAny _ _ (Builtin.SmallTypes.ownedTupleHandOut (.ref b.z) (.ref T) >>= _) _ _ s6
  refine wpAny_bind ?_
  unfold Builtin.SmallTypes.ownedTupleHandOut
  refine wpAny_bind (C6.setF (H0 := H0) 0 0 rfl rfl (by show 0 < 5; decide) rfl hz.1 fun s7 g7 C7 => ?_)
  have i7 := inv_push Sr i6 g7 (fun p hp => by rw [List.mem_singleton.mp hp]; exact hz.2)
  refine C7.setF (H0 := H0) 0 1 rfl rfl (by show 1 < 5; decide) rfl hz.1 fun s8 g8 C8 => ?_
  have i8 := inv_push Sr i7 g8 (fun p hp => by rw [List.mem_singleton.mp hp]; exact hz.2)
  have hzT : T ∉ [b.z] := fun hm => by
    have := C5'.at 0 rfl
    rw [← List.mem_singleton.mp hm, nT] at this; cases this
  have hT8 := g8.nd _ _ (g7.nd _ _ hT6 hzT nd_seq) hzT nd_seq
  have nTs : s.heap.get? T = none := by
    cases q : s.heap.get? T with
    | none => rfl
    | some o => obtain ⟨o', z⟩ := g05.there _ _ q; rw [nT] at z; cases z
  refine wpAny_pure ⟨_, rfl, k T v t _ (((g05.trans (gp.mono (fun p hp => nomatch hp))).trans (g7.mono m1)).trans (g8.mono m1)) hT8 nTs ⟨⟨_, _, t', u, C8, rfl⟩, i8, .inr ⟨T, _, rfl, hT8⟩⟩⟩

theorem wpAny_alive {M : Model} {x : Addr} {Q : Option Obj → Shared → Prop} (h : Q (s.heap.get? x) s) : wpAny M A (loadIfAlive x) Q E s := fun Γ p hΓ => by
  unfold loadIfAlive
  simp only [Sem.wp_loadIfAlive]
  exact h

theorem own2 {z TI TO T0 : Addr} {fl : Bool} {oT : Obj} {M : Model} {led : List (Addr × Obj)} (C : Lg s.heap ((z, zO (.int (T0 : Nat) 0) fl TI TO) :: led)) (hT0 : s.heap.get? T0 = some oT) (hz : H0.get? z = none) :
    wpAny M A (Builtin.SmallTypes.ownedTupleIsFree (.ref z)) (fun r s1 => r = false ∧ Go H0 [z] s s1 ∧ Lg s1.heap ((z, zO (.int (T0 : Nat) 0) true TI TO) :: led)) E s := by
  unfold Builtin.SmallTypes.ownedTupleIsFree
  refine wpAny_bind (wpAny_field (C.at 0 rfl) rfl (x := .int (T0 : Nat) 0) rfl ?_)
  dsimp only
  refine wpAny_bind (wpAny_alive ?_)
  simp only [Int.toNat_natCast, hT0, Option.isNone_some, Bool.false_eq_true, if_false]
  refine wpAny_bind (wpAny_field (C.at 0 rfl) rfl (x := .bool fl) rfl ?_)
  cases fl with
  | true =>
    first | refine ite_no' (by decide) ?_ | refine ite_no (by decide) ?_ | rw [if_neg (by decide)]
    exact wpAny_pure ⟨rfl, .refl .., C⟩
  | false =>
    first | refine ite_yes' (by decide) ?_ | refine ite_yes (by decide) ?_ | rw [if_pos (by decide)]
    obtain ⟨g1, C1⟩ := C.upd (H0 := H0) (s := s) 0 (f := Obj.mapFields (·.setIfInBounds 1 (.bool true))) rfl rfl nd_fields rfl hz
    exact wpAny_bind (wpAny_setField (C.at 0 rfl) rfl (by show 1 < 5; decide) (wpAny_pure ⟨rfl, g1, C1⟩))

set_option maxHeartbeats 2000000 in
theorem zip_item2 (G : Gl K H0 mg mb) (F : KF K a) (S : St H0 A l s) (Sr : Src prog w H0 l d b.I own chg n Inv Fi) {acc : List Value} {T0 : Addr} {fl : Bool} {oT : Obj} (hT0 : s.heap.get? T0 = some oT) (ntT : nd oT) (Z : ZSt a b own Inv acc (.int (T0 : Nat) 0) fl s) (hn : acc.length < n) (hH : ∀ p ∈ [b.z, b.TI, b.TO, b.ct], H0.get? p = none ∧ p ∉ own)
    (hT0m : T0 ∉ b.z :: b.TO :: b.ct :: chg)
    (hh : A.handled = none) (hd : A.depth + d < recursionLimit) (hd1 : A.depth < recursionLimit) {Q : Value → Shared → Prop}
    (k : ∀ T v t s', Go H0 (b.z :: b.TO :: b.ct :: chg) s s' → s'.heap.get? T = some (tupO [v, .int acc.length t]) → s.heap.get? T = none → ZSt a b own Inv (acc ++ [v]) (.int (T0 : Nat) 0) true s' → Q (.ref T) s') :
    wpAny (model prog w) A (Builtin.«zip.__next__» ⟨[.ref b.z], []⟩) (qDone Q) E s := by
  obtain ⟨xs, e, t, u, C, hxs⟩ := Z.lg
  have hz := hH b.z (by simp)
  have hTO := hH b.TO (by simp)
  have hct := hH b.ct (by simp)
  have m1 : ∀ p ∈ [b.z], p ∈ b.z :: b.TO :: b.ct :: chg := by simp
  have m3 : ∀ p ∈ [b.ct], p ∈ b.z :: b.TO :: b.ct :: chg := by simp
  have m4 : ∀ p ∈ chg, p ∈ b.z :: b.TO :: b.ct :: chg := fun p hp => by simp [hp]
  show wpAny _ _ (field (.ref b.z) 2 >>= _) _ _ _
  refine wpAny_bind (wpAny_field (C.at 0 rfl) rfl (x := .bool false) rfl ?_)
  show wpAny _ _ (field (.ref b.z) 3 >>= _) _ _ _
  refine wpAny_bind (wpAny_field (C.at 0 rfl) rfl (x := .ref b.TI) rfl ?_)
  refine wpAny_bind (wpAny_seqItems (C.at 1 rfl) rfl ?_)
  show wpAny _ _ (Builtin.SmallTypes.ownedTupleIsFree (.ref b.z) >>= _) _ _ _
  have rest : ∀ s1 : Shared, Go H0 (b.z :: b.TO :: b.ct :: chg) s s1 → Inv acc s1 → Lg s1.heap (zl a b (.int (T0 : Nat) 0) true xs e (ctS (.int acc.length t) (.bool true) (.int 1 u))) →
      wpAny (model prog w) A (Builtin.SmallTypes.nextOf (.ref b.I)) (fun v s2 => wpAny (model prog w) A (Builtin.SmallTypes.nextOf (.ref b.ct)) (fun c s3 => wpAny (model prog w) A (newTuple [v, c]) Q E s3) E s2) E s1 := by
    intro s1 g1 i1 C1
    refine Sr.item A acc s1 _ _ (S.go g1) hh hd hn i1 fun v s2 g2 i2 => ?_
    have C2 := C1.turn g2 _ rfl fun p hp => .inl ⟨hp, fun q => by
      obtain ⟨p1, p2⟩ := p
      simp only [zl, List.mem_cons, Prod.mk.injEq, List.not_mem_nil, or_false] at hp
      rcases hp with ⟨rfl, _⟩ | ⟨rfl, _⟩ | ⟨rfl, _⟩ | ⟨rfl, _⟩
      · exact hz.2 (Sr.sub _ q)
      · exact (hH b.TI (by simp)).2 (Sr.sub _ q)
      · exact hTO.2 (Sr.sub _ q)
      · exact hct.2 (Sr.sub _ q)⟩
    have S2 := (S.go g1).go g2
    refine nextOf_inst (S2.X G) (C2.ok 3 rfl) F.mctN (ctNext_spec G F S2 (C2.ok 3 rfl) hct.1 hd1 fun t' s4 g4 ox4 => ?_)
    have C4 := C2.turn1 3 rfl g4 ox4
    have i4 := inv_push Sr i2 g4 (fun p hp => by rw [List.mem_singleton.mp hp]; exact hct.2)
    have g04 := (g1.trans (g2.mono m4)).trans (g4.mono m3)
    refine C4.new (H0 := H0) (fun T s6 gp C6' nT => ?_) (by show 2 ≤ _; rw [sizeLine_eq]; decide)
    have nTs : s.heap.get? T = none := by
      cases q : s.heap.get? T with
      | none => rfl
      | some o => obtain ⟨o', z⟩ := g04.there _ _ q; rw [nT] at z; cases z
    have C6 := C4.go gp
    have i6 := inv_push Sr i4 gp (fun p hp => nomatch hp)
    have hl : (acc ++ [v]).length = acc.length + 1 := by simp
    exact k _ v t _ (g04.trans (gp.mono (fun p hp => nomatch hp))) (C6'.at 0 rfl) nTs ⟨⟨xs, e, t', u, by rw [hl]; exact C6, hxs⟩, i6, .inr ⟨T0, _, rfl, (gp.nd _ _ (g04.nd _ _ hT0 hT0m ntT) (fun h => nomatch h) ntT)⟩⟩
  refine wpAny_bind (wpAny_mono (own2 C hT0 hz.1) (fun r s1 h1 => ?_) fun _ _ z => z)
  obtain ⟨rfl, g1, C1⟩ := h1
  have R := rest s1 (g1.mono m1) (inv_push Sr Z.inv g1 (fun p hp => by rw [List.mem_singleton.mp hp]; exact hz.2)) C1
  first | refine ite_no' (by decide) ?_ | refine ite_no (by decide) ?_ | rw [if_neg (by decide)]
  refine wpAny_bind (wp_forIn_arr (wp_forIn_cons (wpAny_bind (wpAny_holding ?_))))
  show wpAny _ _ (Builtin.SmallTypes.nextOf (.ref b.I) >>= _) _ _ _
  refine wpAny_bind (wpAny_mono R (fun v s2 h2 => wpAny_pure (wpAny_pure ?_)) fun _ _ z => z)
  refine wp_forIn_cons (wpAny_bind (wpAny_holding ?_))
  show wpAny _ _ (Builtin.SmallTypes.nextOf (.ref b.ct) >>= _) _ _ _
  refine wpAny_bind (wpAny_mono h2 (fun c s3 h3 => wpAny_pure (wpAny_pure (wp_forIn_nil ?_))) fun _ _ z => z)
  exact wpAny_bind (wpAny_mono h3 (fun r s4 h4 => wpAny_pure ⟨_, rfl, h4⟩) fun _ _ z => z)
end
end Mine
end
section
set_option maxRecDepth 100000
set_option autoImplicit false
namespace Mine
open PySem PySem.W PySem.Calls PyProof.Rows PySem.Spec

theorem zip_no_len : typeLookup (.type "zip") "__len__" = pure none := by rw [typeLookup_type, builtinLookup_eq_fast]; kernel_rfl
theorem zip_no_hint : typeLookup (.type "zip") "__length_hint__" = pure none := by rw [typeLookup_type, builtinLookup_eq_fast]; kernel_rfl

section
variable {K : Frag} {a : Adr} {H0 : Heap} {mg mb : Str → Option Value} {A : Around} {l : List Env} {s : Shared} {prog : Program} {w : World} {E : Value → Shared → Prop}
variable {b : ZA} {own chg : List Addr} {Inv Fi : List Value → Shared → Prop} {n d : Nat}

noncomputable abbrev ZA.M (b : ZA) (chg : List Addr) : List Addr := b.z :: b.TO :: b.ct :: chg

theorem ZSt.keep (Sr : Src prog w H0 l d b.I own chg n Inv Fi) {acc : List Value} {f0 : Value} {fl : Bool} {s' : Shared} {M : List Addr} (Z : ZSt a b own Inv acc f0 fl s) (g : Go H0 M s s') (h1 : ∀ p ∈ M, p ∉ [b.z, b.TI, b.TO, b.ct]) (h2 : ∀ p ∈ M, p ∉ own) : ZSt a b own Inv acc f0 fl s' := by
  obtain ⟨xs, e, t, u, C, hxs⟩ := Z.lg
  refine ⟨⟨xs, e, t, u, C.turn g _ rfl fun p hp => .inl ⟨hp, fun q => h1 _ q ?_⟩, hxs⟩, Sr.keep _ _ _ _ Z.inv g h2, ?_⟩
  · obtain ⟨p1, p2⟩ := p
    simp only [List.mem_cons, Prod.mk.injEq, List.not_mem_nil, or_false] at hp ⊢
    rcases hp with ⟨rfl, _⟩ | ⟨rfl, _⟩ | ⟨rfl, _⟩ | ⟨rfl, _⟩ <;> simp
  · rcases Z.f0 with h | ⟨T, o, h, hT⟩
    · exact .inl h
    · obtain ⟨o', ho'⟩ := g.there _ _ hT
      exact .inr ⟨T, o', h, ho'⟩

set_option maxHeartbeats 1000000 in
theorem zip_done (S : St H0 A l s) (Sr : Src prog w H0 l d b.I own chg n Inv Fi) {acc : List Value} {f0 : Value} {fl : Bool} (Z : ZSt a b own Inv acc f0 fl s) (hn : acc.length = n) (hH : ∀ p ∈ [b.z, b.TI, b.TO, b.ct], H0.get? p = none ∧ p ∉ own)
    (hf : f0 = .none → fl = false) (hh : A.handled = none) (hd : A.depth + d < recursionLimit) {Q : PySem.Fin → Shared → Prop}
    (k : ∀ e s', Go H0 (b.M chg) s s' → s'.TypeIs (.ref e) "StopIteration" → Fi acc s' → E (.ref e) s') :
    wpAny (model prog w) A (Builtin.«zip.__next__» ⟨[.ref b.z], []⟩) Q E s := by
  obtain ⟨xs, e, t, u, C, hxs⟩ := Z.lg
  have hz := hH b.z (by simp)
  have m1 : ∀ p ∈ [b.z], p ∈ b.M chg := by simp [ZA.M]
  have m4 : ∀ p ∈ chg, p ∈ b.M chg := fun p hp => by simp [ZA.M, hp]
  have hown : ∀ p ∈ [b.z], p ∉ own := fun p hp => by rw [List.mem_singleton.mp hp]; exact hz.2
  show wpAny _ _ (field (.ref b.z) 2 >>= _) _ _ _
  refine wpAny_bind (wpAny_field (C.at 0 rfl) rfl (x := .bool false) rfl ?_)
  show wpAny _ _ (field (.ref b.z) 3 >>= _) _ _ _
  refine wpAny_bind (wpAny_field (C.at 0 rfl) rfl (x := .ref b.TI) rfl ?_)
  refine wpAny_bind (wpAny_seqItems (C.at 1 rfl) rfl ?_)
  show wpAny _ _ (Builtin.SmallTypes.ownedTupleIsFree (.ref b.z) >>= _) _ _ _
  rcases Z.f0 with ⟨rfl, rfl⟩ | ⟨T, oT, rfl, hT⟩
  · obtain rfl := hf rfl
    refine wpAny_bind ?_
    unfold Builtin.SmallTypes.ownedTupleIsFree
    refine wpAny_bind (wpAny_field (C.at 0 rfl) rfl (x := .none) rfl (wpAny_pure ?_))
    (try simp only [if_true])
    refine wpAny_bind (wpAny_rule ?_)
    refine wpAny_bind (wpAny_field (C.at 0 rfl) rfl (x := .ref b.TO) rfl ?_)
    refine wpAny_bind (C.setF (H0 := H0) 0 0 rfl rfl (by show 0 < 5; decide) rfl hz.1 fun s1 g1 C1 => ?_)
    have i1 := inv_push Sr Z.inv g1 hown
    refine wpAny_bind (wp_forIn_cons (wpAny_bind (wpAny_onRaise ?_)))
    show wpAny _ _ (Builtin.SmallTypes.nextOf (.ref b.I) >>= _) _ _ _
    refine wpAny_bind (Sr.done A [] s1 _ _ (S.go g1) hh hd hn i1 fun e2 s2 g2 h2 hfi => ?_)
    have C2 : Lg s2.heap [(b.z, zO .ellipsis false b.TI b.TO)] := (C1.sub (led' := [(b.z, zO .ellipsis false b.TI b.TO)]) (.cons_cons _ (List.nil_sublist _))).turn (s := s1) g2 _ rfl fun p hp => .inl ⟨hp, fun q => by
      rw [List.mem_singleton.mp hp] at q; exact hz.2 (Sr.sub _ q)⟩
    refine wpAny_setField (C2.at 0 rfl) rfl (by show 0 < 5; decide) ?_
    obtain ⟨g3, C3⟩ := C2.upd (H0 := H0) (s := s2) 0 (f := Obj.mapFields (·.setIfInBounds 0 .none)) rfl rfl nd_fields rfl hz.1
    obtain ⟨oe, h3, h4⟩ := h2
    refine k e2 _ (((g1.mono m1).trans (g2.mono m4)).trans (g3.mono m1)) ?_ ?_
    · have hne : e2 ≠ b.z := ne_cls h3 (C2.at 0 rfl) (by rw [h4]; show Value.type "StopIteration" ≠ .type "zip"; decide)
      exact ⟨oe, (Heap.get?_update_other _ _ hne.symm).trans h3, h4⟩
    · exact Sr.keepF _ _ _ _ hfi g3 hown
  · refine wpAny_bind (wpAny_mono (own2 C hT hz.1) (fun r s1 h1 => ?_) fun _ _ z => z)
    obtain ⟨rfl, g1, C1⟩ := h1
    have i1 := inv_push Sr Z.inv g1 hown
    first | refine ite_no' (by decide) ?_ | refine ite_no (by decide) ?_ | rw [if_neg (by decide)]
    refine wpAny_bind (wp_forIn_arr (wp_forIn_cons (wpAny_bind (wpAny_holding ?_))))
    show wpAny _ _ (Builtin.SmallTypes.nextOf (.ref b.I) >>= _) _ _ _
    exact wpAny_bind (Sr.done A acc s1 _ _ (S.go g1) hh hd hn i1 fun e2 s2 g2 h2 hfi => k e2 s2 ((g1.mono m1).trans (g2.mono m4)) h2 hfi)

structure ZL (a : Adr) (b : ZA) (own : List Addr) (Inv : List Value → Shared → Prop) (rows : List Row) (s : Shared) : Prop where
  st : ∃ f0 fl, ZSt a b own Inv (rows.map (·.key)) f0 fl s ∧ ((rows = [] ∧ f0 = .none ∧ fl = false) ∨ ∃ q, q ∈ rows ∧ f0 = .int (q.r : Nat) 0)
  lg : Lg s.heap (rowL rows)
  pos : ∀ (j : Nat) (q : Row), rows[j]? = some q → ∃ t, q.pos = .int j t
  out : ∀ q ∈ rows, q.r ∉ b.z :: b.TI :: b.TO :: b.ct :: own

theorem ZL.keep (Sr : Src prog w H0 l d b.I own chg n Inv Fi) {rows : List Row} {s' : Shared} {M : List Addr} (Z : ZL a b own Inv rows s) (g : Go H0 M s s') (h1 : ∀ p ∈ M, p ∉ [b.z, b.TI, b.TO, b.ct]) (h2 : ∀ p ∈ M, p ∉ own) (h3 : ∀ p ∈ M, ∀ q ∈ rows, p ≠ q.r) : ZL a b own Inv rows s' := by
  obtain ⟨f0, fl, Z1, Z2⟩ := Z.st
  refine ⟨⟨f0, fl, Z1.keep Sr g h1 h2, Z2⟩, Z.lg.turn g _ rfl fun p hp => .inl ⟨hp, fun q => ?_⟩, Z.pos, Z.out⟩
  obtain ⟨r, hr, rfl⟩ := List.mem_map.mp hp
  exact h3 _ q r hr rfl

theorem zip_next (G : Gl K H0 mg mb) (F : KF K a) (S : St H0 A l s) (Sr : Src prog w H0 l d b.I own chg n Inv Fi) {rows : List Row} (Z : ZL a b own Inv rows s) (hH : ∀ p ∈ [b.z, b.TI, b.TO, b.ct], H0.get? p = none ∧ p ∉ own)
    (hh : A.handled = none) (hd : A.depth + d < recursionLimit) (hd1 : A.depth < recursionLimit) {Q : Option Value → Shared → Prop} (hn : rows.length ≤ n)
    (k1 : rows.length < n → ∀ (q : Row) s', Go H0 (b.M chg) s s' → s.heap.get? q.r = none → ZL a b own Inv (rows ++ [q]) s' → Q (some (.ref q.r)) s')
    (k2 : rows.length = n → ∀ s', Go H0 (b.M chg) s s' → (∀ p ∈ rowL rows, Okk s'.heap p) → Fi (rows.map (·.key)) s' → Q none s') : wpAny (model prog w) A (pyNext (.ref b.z)) Q E s := by
  obtain ⟨f0, fl, Z1, Z2⟩ := Z.st
  have hT : s.TypeIs (.ref b.z) "zip" := by
    obtain ⟨xs, e, t, u, C, hxs⟩ := Z1.lg
    exact ⟨_, C.at 0 rfl, rfl⟩
  have hl : (rows.map (·.key)).length = rows.length := List.length_map _
  have fresh : ∀ T, s.heap.get? T = none → T ∉ b.z :: b.TI :: b.TO :: b.ct :: own := fun T hT hm => by
    obtain ⟨xs, e, t, u, C, hxs⟩ := Z1.lg
    simp only [List.mem_cons] at hm
    rcases hm with rfl | rfl | rfl | rfl | hm
    · have := C.at 0 rfl; rw [hT] at this; cases this
    · have := C.at 1 rfl; rw [hT] at this; cases this
    · have := C.at 2 rfl; rw [hT] at this; cases this
    · have := C.at 3 rfl; rw [hT] at this; cases this
    · obtain ⟨o, ho⟩ := Sr.there _ _ T Z1.inv hm; rw [hT] at ho; cases ho
  have sub : ∀ p, p ∈ b.M chg → p ∈ b.z :: b.TI :: b.TO :: b.ct :: own := fun p hp => by
    simp only [ZA.M, List.mem_cons] at hp ⊢
    rcases hp with h | h | h | h <;> first | (simp [h]; done) | (have h := Sr.sub _ h; simp [h])
  have rowsKeep : ∀ s', Go H0 (b.M chg) s s' → Lg s'.heap (rowL rows) := fun s' g => Z.lg.turn g _ rfl fun p hp => .inl ⟨hp, fun q => by
    obtain ⟨r, hr, rfl⟩ := List.mem_map.mp hp
    exact Z.out r hr (sub _ q)⟩
  have push : ∀ T v t s', Go H0 (b.M chg) s s' → s'.heap.get? T = some (tupO [v, .int rows.length t]) → s.heap.get? T = none → (∃ f1 fl1, ZSt a b own Inv (rows.map (·.key) ++ [v]) f1 fl1 s' ∧ ∃ q ∈ rows ++ [⟨T, v, .int rows.length t⟩], f1 = .int (q.r : Nat) 0) →
      ZL a b own Inv (rows ++ [⟨T, v, .int rows.length t⟩]) s' := by
    rintro T v t s' g hTs nT ⟨f1, fl1, Z3, q, hq, rfl⟩
    refine ⟨⟨_, fl1, by rw [List.map_append]; exact Z3, .inr ⟨q, hq, rfl⟩⟩, ?_, fun j q' hj => ?_, fun q' hq' => ?_⟩
    · have L1 := rowsKeep s' g
      unfold rowL at L1 ⊢
      rw [List.map_append]
      refine ⟨fun p hp => (List.mem_append.mp hp).elim (L1.has p) fun hp => by rw [List.mem_singleton.mp hp]; exact okk_tup hTs, ?_⟩
      rw [List.map_append]
      refine List.nodup_append.mpr ⟨L1.nodup, by simp, fun x hx y hy e => ?_⟩
      obtain ⟨p, hp, rfl⟩ := List.mem_map.mp hx
      have hy' : y = T := by simpa using hy
      subst hy'
      have := (Z.lg.has p hp).at_
      rw [e, nT] at this; cases this
    · rw [List.getElem?_append] at hj
      split at hj
      · exact Z.pos j q' hj
      · rename_i hlt
        have hj0 : j = rows.length := by
          obtain ⟨h1, _⟩ := List.getElem?_eq_some_iff.mp hj
          simp at h1; grind
        subst hj0
        simp at hj
        subst hj
        exact ⟨t, rfl⟩
    · rcases List.mem_append.mp hq' with h | h
      · exact Z.out q' h
      · rw [List.mem_singleton.mp h]; exact fresh T nT
  unfold pyNext
  by_cases hlt : rows.length < n
  · refine wpAny_bind (wpAny_attempt (wpAny_callSpecial?_slot (name := Str.ofString "__next__") hT PySem.F.slot_zip_next (wpAny_call_entry PySem.F.slot_zip_next hT PySem.F.entry_zip_next ?_ (PySem.F.args_zip_next_1 _))))
    rcases Z2 with ⟨rfl, rfl, rfl⟩ | ⟨q, hq, rfl⟩
    · refine zip_item1 G F (S.around (A' := A.in1) rfl) Sr Z1 (by simpa using hlt) hH hh hd hd1 fun T v t s' g h1 h2 h3 => wpAny_pure ?_
      exact k1 hlt ⟨T, v, .int 0 t⟩ s' g h2 (push T v t s' g h1 h2 ⟨_, _, h3, ⟨T, v, .int 0 t⟩, by simp, rfl⟩)
    · have hqo := (Z.lg.has _ (List.mem_map.mpr ⟨q, hq, rfl⟩)).at_
      refine zip_item2 G F (S.around (A' := A.in1) rfl) Sr hqo nd_seq Z1 (by rw [hl]; exact hlt) hH (fun hm => Z.out q hq (sub _ hm)) hh hd hd1 fun T v t s' g h1 h2 h3 => wpAny_pure ?_
      rw [hl] at h1
      exact k1 hlt ⟨T, v, .int rows.length t⟩ s' g h2 (push T v t s' g h1 h2 ⟨_, _, h3, q, by simp [hq], rfl⟩)
  · have hN : rows.length = n := by lia
    refine wpAny_bind (wpAny_attempt (wpAny_callSpecial?_slot (name := Str.ofString "__next__") hT PySem.F.slot_zip_next (wpAny_call_entry PySem.F.slot_zip_next hT PySem.F.entry_zip_next ?_ (PySem.F.args_zip_next_1 _))))
    refine zip_done (S.around (A' := A.in1) rfl) Sr Z1 (by rw [hl]; exact hN) hH (fun e => ?_) hh hd fun e s' g h hfi => ?_
    · rcases Z2 with ⟨_, _, h⟩ | ⟨q, _, h⟩
      · exact h
      · rw [h] at e; cases e
    · refine wpAny_bind (wpAny_isInstance h owsi_facts.sub ?_)
      (try simp only [if_true])
      exact wpAny_pure (k2 hN s' g (rowsKeep s' g).has hfi)
end
end Mine
end
section
set_option maxRecDepth 100000
set_option autoImplicit false
namespace Mine
open PySem PySem.W PySem.Calls PyProof.Rows PySem.Spec

section
variable {K : Frag} {a : Adr} {H0 : Heap} {mg mb : Str → Option Value} {A : Around} {l : List Env} {s : Shared} {prog : Program} {w : World} {E : Value → Shared → Prop}
variable {b : ZA} {own chg : List Addr} {Inv Fi : List Value → Shared → Prop} {n d : Nat}

theorem rowsPos {rows : List Row} (h : ∀ (j : Nat) (q : Row), rows[j]? = some q → ∃ t, q.pos = .int j t) : PosR rows where
  int := fun q hq => by
    obtain ⟨j, hj, e⟩ := List.mem_iff_getElem.mp hq
    obtain ⟨t, ht⟩ := h j q (by rw [List.getElem?_eq_getElem hj, e])
    exact ⟨t, by unfold posI; rw [ht]⟩
  ne := fun q hq q' hq' e => by
    obtain ⟨j, hj, e1⟩ := List.mem_iff_getElem.mp hq
    obtain ⟨j', hj', e2⟩ := List.mem_iff_getElem.mp hq'
    obtain ⟨t, ht⟩ := h j q (by rw [List.getElem?_eq_getElem hj, e1])
    obtain ⟨t', ht'⟩ := h j' q' (by rw [List.getElem?_eq_getElem hj', e2])
    unfold posI at e
    rw [ht, ht'] at e
    have : j = j' := Int.ofNat.inj e
    subst this
    rw [← e1, ← e2]

set_option maxHeartbeats 1000000 in
inductive CZI (a : Adr) (b : ZA) (own chg : List Addr) (Inv : List Value → Shared → Prop) (n : Nat) (H0 : Heap) (A : Around) (l : List Env) (s : Shared) (D : Addr) (n' : Nat) (acc : List Value) (s' : Shared) : Prop
  | mk (rows : List Row) (c : Nat) (ha : acc = refs rows) (hn : n' = n - rows.length) (hle : rows.length ≤ n) (S : St H0 A l s') (g : Go H0 (D :: b.M chg) s s') (Z : ZL a b own Inv rows s') (hD : s'.heap.get? D = some (lstO acc c)) (hr : ∀ q ∈ rows, q.r ≠ D ∧ s.heap.get? q.r = none) : CZI a b own chg Inv n H0 A l s D n' acc s'
theorem collect_zip (G : Gl K H0 mg mb) (F : KF K a) (S : St H0 A l s) (Sr : Src prog w H0 l d b.I own chg n Inv Fi) (Z : ZL a b own Inv [] s) (hH : ∀ p ∈ [b.z, b.TI, b.TO, b.ct], H0.get? p = none ∧ p ∉ own) (hz : n ≤ 1000)
    (hh : A.handled = none) (hd : A.depth + d < recursionLimit) (hd1 : A.depth < recursionLimit) {Q : List Value → Shared → Prop}
    (k : ∀ rows s', rows.length = n → Go H0 (b.M chg) s s' → Lg s'.heap (rowL rows) → (∀ (j : Nat) (q : Row), rows[j]? = some q → ∃ t, q.pos = .int j t) → (∀ q ∈ rows, s.heap.get? q.r = none) → Fi (rows.map (·.key)) s' → Q (refs rows) s') :
    wpAny (model prog w) A (collect (.ref b.z)) Q E s := by
  unfold collect
  refine wpAny_bind (wpAny_runValue (codeAny_plain PySem.F.entry_proto_collect PySem.F.plain_proto_collect ?_))
  show wpAny _ A.in1 (newList [] >>= fun l => again (.builtin "list.__iadd__" ⟨[l, .ref b.z], []⟩)) _ _ s
  refine wpAny_bind (new_lst (H0 := H0) (fun D s1 g1 hD1 nD => ?_) (Nat.zero_le _))
  have hHD : H0.get? D = none := by
    cases q : H0.get? D with
    | none => rfl
    | some o => have := S.glob _ _ q; rw [nD] at this; cases this
  obtain ⟨f0, fl, Z1, Z2⟩ := Z.st
  obtain ⟨xs, e, t, u, C, hxs⟩ := Z1.lg
  have hDm : D ∉ [b.z, b.TI, b.TO, b.ct] := fun hm => by
    simp only [List.mem_cons, List.not_mem_nil, or_false] at hm
    rcases hm with rfl | rfl | rfl | rfl
    · have := C.at 0 rfl; rw [nD] at this; cases this
    · have := C.at 1 rfl; rw [nD] at this; cases this
    · have := C.at 2 rfl; rw [nD] at this; cases this
    · have := C.at 3 rfl; rw [nD] at this; cases this
  have hDo : D ∉ own := fun hm => by obtain ⟨o, ho⟩ := Sr.there _ _ D Z1.inv hm; rw [nD] at ho; cases ho
  have hDM : D ∉ b.M chg := fun hm => by
    simp only [ZA.M, List.mem_cons] at hm
    rcases hm with h | h | h | h
    · exact hDm (by simp [h])
    · exact hDm (by simp [h])
    · exact hDm (by simp [h])
    · exact hDo (Sr.sub _ h)
  have Zk : ∀ s', Go H0 [D] s s' → ZL a b own Inv [] s' := fun s' g => Z.keep Sr g (fun p hp => by rw [List.mem_singleton.mp hp]; exact hDm) (fun p hp => by rw [List.mem_singleton.mp hp]; exact hDo) (fun p hp q hq => nomatch hq)
  refine wpAny_pure ⟨plainId_quiet PySem.F.plain_list_iadd _, codeAny_plain PySem.F.entry_list_iadd PySem.F.plain_list_iadd ?_⟩
  show wpAny _ A.in1 (Builtin.List.listExtendWith (.ref D) (.ref b.z) (.ref D)) _ _ s1
  have hT1 : s1.TypeIs (.ref b.z) "zip" := ⟨_, (C.go g1).at 0 rfl, rfl⟩
  unfold Builtin.List.listExtendWith
  refine wpAny_bind (wpAny_typeOf hT1 ?_)
  have h1 : Builtin.List.listSameRef (.ref D) (.ref b.z) = false := by
    simp only [Builtin.List.listSameRef, beq_eq_false_iff_ne]; exact fun e => hDm (by simp [e])
  have h2 : (Value.type "zip" == Value.type "list") = false := by decide
  have h3 : (Value.type "zip" == Value.type "tuple") = false := by decide
  simp only [h1, h2, h3, Bool.or_false, Bool.false_eq_true, if_false]
  refine wpAny_bind (wpAny_pyIter_slot hT1 PySem.F.slot_zip_iter (wpAny_call_entry PySem.F.slot_zip_iter hT1 PySem.F.entry_zip_iter ?_ (PySem.F.args_zip_iter_1 _)))
  show wpAny _ _ (ret (.ref b.z)) _ _ _
  refine wpAny_pure ⟨_, rfl, "zip", _, hT1, PySem.F.slot_zip_next.lookup, ?_⟩
  refine wpAny_bind (wpAny_holding ?_)
  unfold Builtin.List.listLengthHint
  refine wpAny_bind (wpAny_specialOf hT1 zip_no_len ?_)
  show wpAny _ A.in1 (specialOf (Value.ref b.z) (Str.ofString "__length_hint__") >>= _) _ _ _
  refine wpAny_bind (wpAny_specialOf hT1 zip_no_hint ?_)
  refine wpAny_pure ?_
  show wpAny _ A.in1 (rule "list.extend.makes-room" >>= fun _ => Builtin.List.listTouch (.ref D) >>= fun _ =>
    again (.builtin "list.extend.loop" ⟨[.ref D, .ref b.z, .ref D], []⟩)) _ _ _
  refine wpAny_bind (wpAny_rule ?_)
  refine wpAny_bind (touched (H0 := H0) (s := s1) hD1 hHD fun s2 c2 g2 hS2 => ?_)
  have hDn : ∀ p ∈ [D], p ∈ ([D] : List Addr) ∨ s.heap.get? p = none := fun p hp => .inl hp
  have g02 : Go H0 [D] s s2 := (g1.mono (M' := [D]) (fun p h => nomatch h)).trans g2
  refine wpAny_pure ⟨plainId_quiet PySem.F.plain_extend_loop _, ?_⟩
  refine ext_loop (CZI a b own chg Inv n H0 A l s D) ?_ n [] s2
    ⟨[], c2, rfl, rfl, Nat.zero_le _, S.go g02, g02.mono (by simp), Zk s2 g02, hS2, fun q hq => nomatch hq⟩
  rintro n' acc s' ⟨rows, c, rfl, rfl, hle, S', g', Z', hD', hr⟩
  have hm : ∀ p ∈ b.M chg, p ∈ D :: b.M chg := fun p hp => .tail _ hp
  refine zip_next G F (S'.around (A' := A.in1) rfl) Sr Z' hH hh hd hd1 hle (fun hlt q s3 g3 nq Z3 => ?_) (fun hN s3 g3 hrows hfi => ?_)
  · have hqD : q.r ≠ D := fun e => by rw [e, hD'] at nq; cases nq
    have hD3 := g3.nd _ _ hD' hDM nd_seq
    have g4 : Go H0 [D] s3 { s3 with heap := s3.heap.update D (Obj.mapSeq (·.push (.ref q.r))) } := .upd _ hD3 nd_seq rfl nd_seq hHD
    have nqs : s.heap.get? q.r = none := by
      cases z : s.heap.get? q.r with
      | none => rfl
      | some o => obtain ⟨o', y⟩ := g'.there _ _ z; rw [nq] at y; cases y
    have hr' : ∀ q' ∈ rows ++ [q], q'.r ≠ D ∧ s.heap.get? q'.r = none := fun q' hq' => (List.mem_append.mp hq').elim (hr q') fun h => by rw [List.mem_singleton.mp h]; exact ⟨hqD, nqs⟩
    have e : Obj.mapSeq (fun x => x.push (Value.ref q.r)) (lstO (refs rows) c) = lstO (refs rows ++ [Value.ref q.r]) (c + 1) := by simp [Obj.mapSeq]
    have hf := Heap.get?_update_self (Obj.mapSeq (·.push (.ref q.r))) hD3 rfl
    rw [e] at hf
    exact ⟨c, hD3, by simp only [refs, List.length_map]; rw [sizeLine_eq]; lia  , n - (rows.length + 1), by grind, ⟨rows ++ [q], c + 1, by simp [refs], by simp, by simp; lia  , (S'.go g3).go g4, (g'.trans (g3.mono hm)).trans (g4.mono (by simp)), Z3.keep Sr g4 (fun p hp => by rw [List.mem_singleton.mp hp]; exact hDm) (fun p hp => by rw [List.mem_singleton.mp hp]; exact hDo) (fun p hp q' hq' => by rw [List.mem_singleton.mp hp]; exact (hr' q' hq').1.symm), hf, hr'⟩⟩
  · have hD3 := g3.nd _ _ hD' hDM nd_seq
    show wpAny _ A (load D >>= _) _ _ s3
    refine wpAny_bind (wpAny_load hD3 ?_)
    have g03 : Go H0 (b.M chg) s s3 := by
      have g := g'.trans (g3.mono hm)
      have := (Go.refl H0 (b.M chg) s).step g (fun p hp => by
        rcases List.mem_cons.mp hp with rfl | hp
        · exact .inr nD
        · exact .inl hp)
      exact this
    exact wpAny_pure (k rows s3 hN g03 ⟨hrows, Z'.lg.nodup⟩ Z'.pos (fun q hq => (hr q hq).2) hfi)

theorem sorted_zip (G : Gl K H0 mg mb) (F : KF K a) (S : St H0 A l s) (κ : KeyOps) (Sr : Src prog w H0 l d b.I own chg n Inv Fi) (Z : ZL a b own Inv [] s) (hH : ∀ p ∈ [b.z, b.TI, b.TO, b.ct], H0.get? p = none ∧ p ∉ own) (h64 : n < 64) {rv : Bool}
    (hh : A.handled = none) (hd : A.depth + d < recursionLimit) (hd1 : A.depth < recursionLimit) {Q : Value → Shared → Prop}
    (hKR : ∀ rows s', rows.length = n → Fi (rows.map (·.key)) s' → KeyR κ rows)
    (k : ∀ D rows rows' n' s', rows.length = n → (∀ (j : Nat) (q : Row), rows[j]? = some q → ∃ t, q.pos = .int j t) → Fi (rows.map (·.key)) s' → rows'.Perm rows → OrdR κ rv rows' → Go H0 (b.M chg) s s' → Lg s'.heap ((D, lstO (refs rows') n') :: rowL rows') → (∀ q ∈ rows, s.heap.get? q.r = none) → s.heap.get? D = none → Q (.ref D) s') :
    wpAny (model prog w) A (call (.builtin "sorted") [.ref b.z] [(Str.ofString "reverse", .bool rv)]) Q E s := by
  refine call_function_entry_kw kind_sorted plain_sorted entry_sorted (args_sorted_rev _ _) ?_
  unfold Builtin.«sorted»
  refine wpAny_bind (m := checkCount "sorted" 1 1 _) (wpAny_pure ?_)
  refine wpAny_bind (collect_zip G F (S.around (A' := A.in1) rfl) Sr Z hH (by lia  ) hh hd hd1 fun rows s1 hN g1 L1 hp hf hfi => ?_)
  have hlen : (refs rows).length = n := by simp [refs, hN]
  refine wpAny_bind (new_lst (H0 := H0) (fun D s2 gp hD2 nD1 => ?_) (by rw [hlen, sizeLine_eq]; lia  ))
  have S1 := S.go g1
  have hHD : H0.get? D = none := by
    cases q : H0.get? D with
    | none => rfl
    | some o => have := S1.glob _ _ q; rw [nD1] at this; cases this
  have nD : s.heap.get? D = none := by
    cases q : s.heap.get? D with
    | none => rfl
    | some o => obtain ⟨o', z⟩ := g1.there _ _ q; rw [nD1] at z; cases z
  have L2 := L1.go gp
  have hrow : ∀ q ∈ rows, s2.heap.get? q.r = some (tupO [q.key, q.pos]) := fun q hq => (L2.has _ (List.mem_map.mpr ⟨q, hq, rfl⟩)).at_
  have hnod : (rows.map (·.r)).Nodup := by
    have := L1.nodup
    unfold rowL at this
    rw [List.map_map] at this
    exact this
  have KR := hKR rows s1 hN hfi
  have hDown : ∀ p ∈ [D], p ∉ own := fun p hp hm => by
    rw [List.mem_singleton.mp hp] at hm
    obtain ⟨f0, fl, Z1, _⟩ := Z.st
    obtain ⟨o, ho⟩ := Sr.there _ _ D Z1.inv hm
    rw [nD] at ho; cases ho
  refine wpAny_bind (wpAny_holding (wpAny_call_entry_kw slot_list_sort ⟨_, hD2, rfl⟩ entry_list_sort (sort_rows (s := s2) κ KR (rowsPos hp) G.nob (fun x o e => (S1.go gp).glob x o e) hD2 hHD hrow hnod (by lia  ) fun rows' n' s3 r1 r2 g3 hD3 => ⟨_, rfl, ?_⟩) (args_list_sort_rev _ _)))
  refine wpAny_pure ⟨_, rfl, ?_⟩
  have g13 : Go H0 [D] s1 s3 := (gp.mono (M' := [D]) (fun p h => nomatch h)).trans g3
  refine k D rows rows' n' s3 hN hp (Sr.keepF _ _ _ _ hfi g13 hDown) r1 r2 (g1.step g13 fun p hp => .inr (by rw [List.mem_singleton.mp hp]; exact nD)) ?_ hf nD
  have L3 : Lg s3.heap (rowL rows) := L1.turn g13 _ rfl fun p hp => .inl ⟨hp, fun q => by
    have := (L1.has p hp).at_
    rw [List.mem_singleton.mp q, nD1] at this; cases this⟩
  have pm : (rowL rows').Perm (rowL rows) := r1.map _
  refine ⟨fun p hp => (List.mem_cons.mp hp).elim (fun e => by rw [e]; exact okk_lst hD3) fun h => L3.has p (pm.mem_iff.mp h), ?_⟩
  rw [List.map_cons]
  refine List.nodup_cons.mpr ⟨fun hm => ?_, (pm.map _).nodup_iff.mpr L3.nodup⟩
  obtain ⟨p, hp, e⟩ := List.mem_map.mp hm
  have := (L1.has p (pm.mem_iff.mp hp)).at_
  rw [e, nD1] at this; cases this
end
end Mine
end
section
set_option maxRecDepth 100000
set_option autoImplicit false
namespace Mine
open PySem PySem.W PySem.Calls PyProof.Rows PySem.Spec

theorem plain_zip_new : plainId "zip.__new__" = true := by decide +kernel
section
variable {K : Frag} {a : Adr} {H0 : Heap} {mg mb : Str → Option Value} {A : Around} {l : List Env} {s : Shared} {prog : Program} {w : World} {E : Value → Shared → Prop}

theorem zip_new {v : Value} {ct : Addr} {Q : Value → Shared → Prop}
    (h : wpAny (model prog w) A.in1 (pyIter v) (fun i1 s1 => wpAny (model prog w) A.in1 (pyIter (.ref ct)) (fun i2 s2 => wpAny (model prog w) A.in1 (newTuple [i1, i2]) (fun TI s3 => wpAny (model prog w) A.in1 (newTuple [.none, .none]) (fun TO s4 =>
      Q (.ref s4.heap.objs.size) { s4 with heap := s4.heap.push { cls := .type "zip", data := .fields #[.none, .bool false, .bool false, TI, TO] } }) (fun e s' => wants Q E (.error e) s') s3) (fun e s' => wants Q E (.error e) s') s2) (fun e s' => wants Q E (.error e) s') s1) (fun e s' => wants Q E (.error e) s') s) :
    codeAny (model prog w) A (.call (.builtin "zip.__new__") ⟨[.type "zip", v, .ref ct], []⟩) (wants Q E) s := by
  refine codeAny_of_tree ?_
  show wpAny _ A.in1 (do checkBuiltinCall "zip.__new__" ⟨[.type "zip", v, .ref ct], []⟩; again (.builtin "zip.__new__" ⟨[.type "zip", v, .ref ct], []⟩)) _ _ s
  refine wpAny_bind (wpAny_of_eq (PySem.F.newCall_zip_2 _ _) (wpAny_pure ⟨plainId_quiet plain_zip_new _, codeAny_plain PySem.F.entry_zip_new plain_zip_new ?_⟩))
  have hsub := sub_zip
  unfold Builtin.«zip.__new__»
  refine wpAny_bind ?_
  unfold Builtin.SmallTypes.newClass
  dsimp only
  refine wpAny_bind (m := isType (.type "zip")) (wpAny_pure ?_)
  (try simp only [Bool.not_true, Bool.false_eq_true, if_false])
  rw [hsub]
  refine wpAny_bind (wpAny_pure ?_)
  (try simp only [Bool.not_true, Bool.false_eq_true, if_false])
  refine wpAny_pure ?_
  dsimp only
  first | refine ite_no' (by decide) ?_ | refine ite_no (by decide) ?_ | rw [if_neg (by decide)]
  refine wpAny_bind ?_
  unfold Builtin.SmallTypes.iterAll
  simp only [List.forIn_cons, List.forIn_nil]
  refine wpAny_bind (wpAny_bind (wpAny_bind (wpAny_holding (wpAny_mono h (fun i1 s1 h1 => wpAny_pure ?_) fun _ _ z => z))))
  dsimp only
  refine wpAny_bind (wpAny_bind (wpAny_holding (wpAny_mono h1 (fun i2 s2 h2 => wpAny_pure (wpAny_pure (wpAny_pure ?_))) fun _ _ z => z)))
  refine wpAny_bind (wpAny_mono h2 (fun TI s3 h3 => wpAny_bind (wpAny_mono h3 (fun TO s4 h4 => wpAny_bind ?_) fun _ _ z => z)) fun _ _ z => z)
  show wpAny _ _ (newObj (.type "zip") (.fields #[.none, .bool false, .bool false, TI, TO])) _ _ _
  exact wpAny_newObj_type (wpAny_pure h4) (by size_fits)

theorem zip_make {v : Value} {I ct dc : Addr} {own chg : List Addr} {Inv Fi : List Value → Shared → Prop} {n d : Nat} {t u : Tok} (G : Gl K H0 mg mb) (F : KF K a) (S : St H0 A l s) (Sr : Src prog w H0 l d I own chg n Inv Fi)
    (hct : Okk s.heap (ct, io a.ct dc (ctS (.int 0 t) (.bool true) (.int 1 u)))) (hHct : H0.get? ct = none) (hcto : ct ∉ own) (hroom : A.depth < recursionLimit)
    (hit : ∀ (A' : Around) (Q : Value → Shared → Prop) (E : Value → Shared → Prop), A'.handled = A.handled → A'.depth = A.depth → A'.frames = A.frames → (∀ s1, Go H0 [] s s1 → Inv [] s1 → Q (.ref I) s1) → wpAny (model prog w) A' (pyIter v) Q E s) {Q : Value → Shared → Prop}
    (k : ∀ b : ZA, ∀ s', b.ct = ct → b.dc = dc → b.I = I → Go H0 [] s s' → ZL a b own Inv [] s' → (∀ p ∈ [b.z, b.TI, b.TO], s.heap.get? p = none) → (∀ p ∈ [b.z, b.TI, b.TO, b.ct], H0.get? p = none ∧ p ∉ own) → Q (.ref b.z) s') :
    wpAny (model prog w) A (call (.type "zip") [v, .ref ct]) Q E s := by
  refine callType_codes (Q₁ := fun obj s₁ => s₁.TypeIs obj "zip" ∧ Q obj s₁) PySem.F.called_zip (PySem.F.typeCall_zip_2 _ _) PySem.F.entry_object_init (zip_new ?_) fun obj s₁ h₁ => ⟨h₁.1, PySem.F.args_object_init_3 obj _ _, ?_⟩
  rotate_left
  · exact object_init_meets (T := "zip") (newId := "zip.__new__") PySem.F.slot_zip_init.lookup PySem.F.called_zip.made (by decide) prog w A.in1 _ s₁ ⟨h₁.1, rfl, h₁.2⟩
  refine hit _ _ _ rfl rfl rfl fun s1 g1 i1 => ?_
  have hct1 := hct.go g1 (fun h => nomatch h)
  have S1 := S.go g1
  refine iter_inst (S1.X G) hct1 F.mctT F.mctN (ctIter_spec G F (S1.around (A' := A.in1.in1) rfl) hroom fun s2 g2 => ⟨rfl, ((S1.go g2).X G), hct1.go g2 (fun h => nomatch h), ?_⟩)
  have hct2 := hct1.go g2 (fun h => nomatch h)
  have g02 := g1.trans g2
  have i2 := Sr.keep _ _ _ _ i1 g2 (fun p hp => nomatch hp)
  have L0 : Lg s2.heap [(ct, io a.ct dc (ctS (.int 0 t) (.bool true) (.int 1 u)))] := ⟨fun p hp => by rw [List.mem_singleton.mp hp]; exact hct2, by simp⟩
  refine L0.new (H0 := H0) (fun TI s3 gp1 L1 n1 => ?_) (by show 2 ≤ _; rw [sizeLine_eq]; decide)
  have i3 := Sr.keep _ _ _ _ i2 gp1 (fun p hp => nomatch hp)
  refine L1.new (H0 := H0) (fun TO s4 gp2 L2 n2 => ?_) (by show 2 ≤ _; rw [sizeLine_eq]; decide)
  have i4 := Sr.keep _ _ _ _ i3 gp2 (fun p hp => nomatch hp)
  refine L2.push (H0 := H0) (P := fun z s' => s'.TypeIs (.ref z) "zip" ∧ Q (.ref z) s') (o := zO .none false TI TO) nd_fields rfl rfl fun z s5 gp3 L3 n3 => ?_
  have i5 := Sr.keep _ _ _ _ i4 gp3 (fun p hp => nomatch hp)
  have h3 := L3.at 0 rfl
  have g04 := (g02.trans gp1).trans gp2
  have fr : ∀ {s₀ s' : Shared} {p : Addr}, Go H0 [] s₀ s' → s'.heap.get? p = none → s₀.heap.get? p = none := fun {s₀ s' p} g hp => by
    cases q : s₀.heap.get? p with
    | none => rfl
    | some o => obtain ⟨o', y⟩ := g.there _ _ q; rw [hp] at y; cases y
  have hn1 : ∀ p ∈ [z, TI, TO], s1.heap.get? p = none := by
    intro p hp
    simp only [List.mem_cons, List.not_mem_nil, or_false] at hp
    rcases hp with rfl | rfl | rfl
    · exact fr ((g2.trans gp1).trans gp2) n3
    · exact fr g2 n1
    · exact fr (g2.trans gp1) n2
  have hn : ∀ p ∈ [z, TI, TO], s.heap.get? p = none := fun p hp => fr g1 (hn1 p hp)
  have hin : ∀ p, s1.heap.get? p = none → H0.get? p = none ∧ p ∉ own := by
    intro p hp
    refine ⟨?_, fun hm => ?_⟩
    · cases q : H0.get? p with
      | none => rfl
      | some o => have := S1.glob _ _ q; rw [hp] at this; cases this
    · obtain ⟨o, ho⟩ := Sr.there _ _ p i1 hm
      rw [hp] at ho; cases ho
  refine ⟨⟨_, h3, rfl⟩, k ⟨z, TI, TO, ct, dc, I⟩ _ rfl rfl rfl (g04.trans gp3) ⟨⟨.none, false, ⟨⟨#[.none, .none], 0, t, u, ?_, rfl⟩, i5, .inl ⟨rfl, rfl⟩⟩, .inl ⟨rfl, rfl, rfl⟩⟩, ⟨fun p hp => (nomatch hp), List.nodup_nil⟩, fun j q h => (by cases h), fun q hq => (nomatch hq)⟩ hn fun p hp => ?_⟩
  · refine ⟨fun p hp => L3.has p ?_, ?_⟩
    · simp only [List.mem_cons, List.not_mem_nil, or_false] at hp ⊢
      rcases hp with h | h | h | h <;> simp [h]
    · have := L3.nodup
      simp only [List.map_cons, List.map_nil, List.nodup_cons, List.mem_cons, List.not_mem_nil, or_false, not_or, List.nodup_nil, and_true, not_false_eq_true] at this ⊢
      obtain ⟨⟨a1, a2, a3⟩, ⟨a4, a5⟩, a6⟩ := this
      exact ⟨⟨a2, a1, a3⟩, ⟨fun e => a4 e.symm, a6⟩, a5⟩
  · simp only [List.mem_cons, List.not_mem_nil, or_false] at hp
    rcases hp with rfl | rfl | rfl | rfl
    · exact hin _ (hn1 _ (by simp))
    · exact hin _ (hn1 _ (by simp))
    · exact hin _ (hn1 _ (by simp))
    · exact ⟨hHct, hcto⟩
end
end Mine
end
section
set_option maxRecDepth 100000
set_option autoImplicit false
namespace Mine
open PySem PySem.W PySem.Calls PyProof.Rows PySem.Spec
section
variable {K : Frag} {a : Adr} {H0 : Heap} {mg mb : Str → Option Value} {A : Around} {l : List Env} {s : Shared} {prog : Program} {w : World} {E : Value → Shared → Prop}
theorem next_endE {it : Addr} {i : Nat} {Q : Value → Shared → Prop} (hh : A.handled = none) (hit : s.heap.get? it = some (itE i))
    (hE : ∀ h' e, Heap.MadeExc s.heap h' e "StopIteration" [] → E (.ref e) { s with heap := h' }) : wpAny (model prog w) A (call (.builtin "next") [.ref it]) Q E s := by
  have hT : s.TypeIs (.ref it) "list_iterator" := ⟨_, hit, rfl⟩
  refine call_function_entry (by decide +kernel) (by decide +kernel) entry_next (args_next _) ?_
  unfold Builtin.«next»
  refine wpAny_bind (m := someArgs "next" 1 2 _) (wpAny_of_eq (a := [Value.ref it]) (by first | rfl | kernel_rfl!) ?_)
  dsimp only
  refine wpAny_bind (wpAny_specialOf (name := Str.ofString "__next__") hT slot_listiter_next.lookup ?_)
  refine wpAny_ite_split (fun hab => absurd hab (by decide)) (fun _ => ?_)
  refine wpAny_bind (wpAny_callSpecial?_slot (name := Str.ofString "__next__") hT slot_listiter_next (wpAny_call_entry slot_listiter_next hT entry_listiter_next ?_ (args_listiter_next _)))
  show wpAny _ _ (field (.ref it) 0 >>= _) _ _ s
  refine wpAny_bind (wpAny_field hit rfl (x := .none) rfl ?_)
  show wpAny _ _ (if (Value.none == Value.none) = true then _ else _) _ _ s
  first | refine ite_yes' (by decide) ?_ | refine ite_yes (by decide) ?_ | rw [if_pos (by decide)]
  refine wpAny_bind (wpAny_rule (wpAny_bind ?_))
  unfold Builtin.SmallTypes.stopIteration
  refine wpAny_bind (newExc_stop (fun h' e hm => ?_))
  simp only [raiseNew]
  refine wpAny_bind (wpAny_handled ?_)
  rw [show A.in1.in1.handled = none from hh]
  exact wpAny_bind (wpAny_pure (wpAny_throw (hE _ _ hm)))

theorem pull_endE (G : Gl K H0 mg mb) (F : KF K a) (S : St H0 A l s) {it : Addr} {i : Nat} (hit : s.heap.get? it = some (itE i)) (hroom : A.depth < recursionLimit) (hh : A.handled = none) {Q : Value → Shared → Prop}
    (k : ∀ t s', Go H0 [] s s' → s'.heap.get? t = some (tupO [.bool false, .none]) → s.heap.get? t = none → Q (.ref t) s') : wpAny (model prog w) A (call (.ref a.pull) [.ref it]) Q E s := by
  refine wpAny_call (enterF (binds := [(Str.ofString "it", .ref it)]) G S F.pull [] [(it, itE i)] (fun p hp => by rw [List.mem_singleton.mp hp]; exact .of hit nd_fields rfl) (by simp) hroom (fun _ _ _ _ _ _ => BindsTo.of_eq rfl) (by decide) (locs rfl) fun L cdv s1 _ C => ?_)
  refine wpAny_execs_cons (wpAny_Try_except (wpAny_execs_cons (wpAny_Return_some (tup_made (args_cons (wpAny_Constant_bool (args_cons ?_)))))))
  refine Call_ (C.boot G F.nnext Boot.«next» ?_)
  refine callWith_builtin1 (args_cons (C.name rfl (args_nil ?_)))
  refine next_endE hh (C.at 0 rfl) fun h' e hm => ?_
  refine C.noteMade (cls := .type "StopIteration") ⟨hm.keeps, hm.new, hm.there⟩ rfl fun t s2 hd => ?_
  refine hd.lands fun s3 F3 => ?_
  have C3 := (C.call F3.go).around (A' := (A.deeper (envOf "_pull" dPull.2.2 L a.pull cdv)).mark (some (.ref e))) rfl
  refine wpAny_handleBy_builtin (X := "StopIteration") (T := "StopIteration") (b := true) owsi_raise.isExc (by rw [isSubtype_type]; kernel_rfl) owsi_facts.sub ?_
  refine C3.boot G F.nstop Boot.«StopIteration» ⟨rfl, F3.typ, ?_⟩
  first | refine ite_yes' rfl ?_ | refine ite_yes rfl ?_ | rw [if_pos rfl]
  refine F3.again fun s4 F4 => ?_
  have C4 := (C.call F4.go).around (A' := (A.deeper (envOf "_pull" dPull.2.2 L a.pull cdv)).mark (some (.ref e))) rfl
  refine wpAny_execs_cons (wpAny_Return_some (tup_made (args_cons (wpAny_Constant_bool (args_cons (wpAny_Constant_none (args_nil ⟨_, _, _, _, _, _, _, _, C4, by simp [sizeLine_eq], fun t s2 C5 n1 n2 => ?_⟩)))))))
  exact k t _ C5.go (C5.at 0 rfl) n1.e

theorem step_endE (G : Gl K H0 mg mb) (F : KF K a) (S : St H0 A l s) {x dg it : Addr} {i : Nat} {cg ck cv kf se tk : Value} {hk hv ht : Bool}
    (hx : Okk s.heap (x, io a.gb dg (gbS cg ck cv hk hv ht (.ref it) kf se tk))) (hit : s.heap.get? it = some (itE i))
    (hroom : A.depth + 1 < recursionLimit) (hh : A.handled = none) {R : Result → Shared → Prop}
    (k : ∀ e t s', Fly H0 [] s l e (.type "StopIteration") (.ref t) [] s' → R (.error (.ref e)) s') :
    codeAny (model prog w) A (.call (.ref a.gbStep) ⟨[.ref x], []⟩) R s := by
  have h1 : x ≠ it := ne_cls hx.at_ hit (by show Value.ref a.gb ≠ .type _; intro q; cases q)
  refine enterF (binds := [(Str.ofString "self", .ref x)]) G S F.gbStep [] [(x, io a.gb dg (gbS cg ck cv hk hv ht (.ref it) kf se tk)), (it, itE i)] (fun p hp => ?_) (by simp [h1]) (Nat.lt_of_succ_lt hroom) (fun _ _ _ _ _ _ => BindsTo.of_eq rfl) (by decide) (locs rfl) fun L cdv s1 _ C => ?_
  · rcases List.mem_cons.mp hp with rfl | hp
    · exact hx
    · rw [List.mem_singleton.mp hp]; exact .of hit nd_fields rfl
  refine wpAny_execs_cons (Assign_Tuple (C.callFn G F.npull F.kpull (args_cons (C.attr G 0 rfl rfl F.gb F.gb6 rfl rfl fun s2 C2 => args_nil ⟨C2.st.X G, ?_⟩))))
  refine pull_endE G F C2.st (C2.at 1 rfl) hroom hh fun t s3 g3 ht3 nt3 => ?_
  have C3 := C2.callN g3 (okk_tup ht3) nt3
  refine C3.unpack2 0 rfl hh fun s4 C4 => ?_
  refine wpAny_execs_cons (wpAny_If (wpAny_isTrue_Not (wpAny_isTrue_value (C4.name rfl (wpAny_truthy_bool ?_)))))
  (try simp only [Bool.not_false, if_true])
  refine wpAny_execs_cons (owsi_raiseC hh (C4.boot G F.nstop Boot.«StopIteration» ⟨rfl, rfl⟩) fun h' e hm => ?_)
  refine C4.raised (cls := .type "StopIteration") ⟨hm.keeps, hm.new, hm.there⟩ rfl fun t s5 F5 _ => ?_
  exact k e t s5 (F5.with [] fun p hp => nomatch hp)

theorem gbNext_endE (G : Gl K H0 mg mb) (F : KF K a) (S : St H0 A l s) {x dg it : Addr} {i : Nat} {cg ck cv kf tk : Value} {hv ht : Bool} {se : Value}
    (hx : Okk s.heap (x, io a.gb dg (gbS cg ck cv false hv ht (.ref it) kf se tk))) (hit : s.heap.get? it = some (itE i)) (hHx : H0.get? x = none)
    (hroom : A.depth + 2 < recursionLimit) (hh : A.handled = none) {R : Result → Shared → Prop}
    (k : ∀ e t s', Fly H0 [x] s l e (.type "StopIteration") (.ref t) [] s' → R (.error (.ref e)) s') :
    codeAny (model prog w) A (.call (.ref a.gbNext) ⟨[.ref x], []⟩) R s := by
  have h1 : x ≠ it := ne_cls hx.at_ hit (by show Value.ref a.gb ≠ .type _; intro q; cases q)
  refine enterF (binds := [(Str.ofString "self", .ref x)]) G S F.gbNext [x] [(x, io a.gb dg (gbS cg ck cv false hv ht (.ref it) kf se tk)), (it, itE i)] (fun p hp => ?_) (by simp [h1]) (Nat.lt_of_succ_lt (Nat.lt_of_succ_lt hroom)) (fun _ _ _ _ _ _ => BindsTo.of_eq rfl) (by decide) (locs rfl) fun L cdv s1 _ C => ?_
  · rcases List.mem_cons.mp hp with rfl | hp
    · exact hx
    · rw [List.mem_singleton.mp hp]; exact .of hit nd_fields rfl
  refine wpAny_execs_cons (plainObj_wpAny_Assign_Attribute (wpAny_Constant_int ((C.tok 1).setA G 0 rfl rfl F.gb F.gb0 (.inl (by simp)) hHx (fun s2 C2 => ?_) (sl' := gbS (.int 0 s1.toks) ck cv false hv ht (.ref it) kf se tk) (he := by simp [putS, gbS]))))
  refine wpAny_execs_cons (wpAny_While (codeAny_whileLoop (fun n' s' => n' = 0 ∧ s' = s2) (fun n' s' hI => ?_) 0 ⟨rfl, rfl⟩))
  obtain ⟨-, rfl⟩ := hI
  refine wpAny_isTrue_value (wpAny_Constant_bool (wpAny_truthy_bool ?_))
  refine ite_yes' rfl ?_
  refine wpAny_passesOwn PassesOwn.leaving ?_
  refine wpAny_execs_cons (wpAny_If (wpAny_isTrue_value (C2.attr G 0 rfl rfl F.gb F.gb3 rfl rfl fun s3 C3 => wpAny_truthy_bool ?_)))
  refine ite_no' (by decide) ?_
  refine wpAny_execs_nil ?_
  refine wpAny_execs_cons (wpAny_Expr (C3.callMeth0 G 0 rfl rfl F.gb F.mgbS (wpAny_call ?_)))
  refine step_endE G F C3.st (C3.ok 0 rfl) (C3.at 1 rfl) hroom hh fun e t s4 F4 => ?_
  have F5 := (F4.lift C3.go (fun p hp => nomatch hp)).with [] (fun p hp => nomatch hp)
  exact F5.leave C3.st.frames rfl fun s5 F6 => k e t s5 F6
end
end Mine
end
section
set_option maxRecDepth 100000
set_option autoImplicit false
namespace Mine
open PySem PySem.W PySem.Calls PyProof.Rows PySem.Spec
section
variable {K : Frag} {a : Adr} {H0 : Heap} {mg mb : Str → Option Value} {A : Around} {l : List Env} {M : List Addr} {sE : Shared} {L f : Addr} {m : Str → Option Value} {led : List (Addr × Obj)} {s : Shared} {prog : Program} {w : World} {E : Value → Shared → Prop}
variable {cn : Str} {cs : Scope} {cdv : Value}

theorem pyNext_item {it lst : Addr} {i : Nat} {vs : List Value} {n : Nat} {x : Value} {Q : Option Value → Shared → Prop} (hit : s.heap.get? it = some (itO lst i)) (hl : s.heap.get? lst = some (lstO vs n)) (hx : vs[i]? = some x)
    (hQ : Q (some x) { s with heap := s.heap.update it (Obj.mapFields (·.setIfInBounds 1 (rawInt ((i : Int) + 1)))) }) : wpAny (model prog w) A (pyNext (.ref it)) Q E s := by
  have hT : s.TypeIs (.ref it) "list_iterator" := ⟨_, hit, rfl⟩
  unfold pyNext
  refine wpAny_bind (wpAny_attempt (wpAny_callSpecial?_slot (name := Str.ofString "__next__") hT slot_listiter_next (wpAny_call_entry slot_listiter_next hT entry_listiter_next ?_ (args_listiter_next _))))
  show wpAny _ _ (field (.ref it) 0 >>= _) _ _ s
  refine wpAny_bind (wpAny_field hit rfl (x := .ref lst) rfl ?_)
  show wpAny _ _ (if (Value.ref lst == Value.none) = true then _ else _) _ _ s
  first | refine ite_no' rfl ?_ | refine ite_no (show ¬ ((Value.ref lst == Value.none) = true) from Bool.false_ne_true) ?_ | rw [if_neg (show ¬ ((Value.ref lst == Value.none) = true) from Bool.false_ne_true)]
  show wpAny _ _ (field (.ref it) 1 >>= _) _ _ s
  refine wpAny_bind (wpAny_field hit rfl (x := .int i 0) rfl ?_)
  show wpAny _ _ (seqItems? (.ref lst) >>= _) _ _ s
  refine wpAny_bind (wpAny_seqItems hl rfl ?_)
  simp only [Int.toNat_natCast, List.getElem?_toArray, hx]
  exact wpAny_bind (wpAny_setField hit rfl (by simp) (wpAny_pure ⟨x, rfl, wpAny_pure hQ⟩))
theorem pyNext_end {it lst : Addr} {i : Nat} {vs : List Value} {n : Nat} {Q : Option Value → Shared → Prop} (hh : A.handled = none) (hit : s.heap.get? it = some (itO lst i)) (hl : s.heap.get? lst = some (lstO vs n)) (hx : vs[i]? = none)
    (hQ : ∀ h' e, Heap.MadeExc (s.heap.update it (Obj.mapFields (·.setIfInBounds 0 .none))) h' e "StopIteration" [] → Q none { s with heap := h' }) : wpAny (model prog w) A (pyNext (.ref it)) Q E s := by
  have hT : s.TypeIs (.ref it) "list_iterator" := ⟨_, hit, rfl⟩
  unfold pyNext
  refine wpAny_bind (wpAny_attempt (wpAny_callSpecial?_slot (name := Str.ofString "__next__") hT slot_listiter_next (wpAny_call_entry slot_listiter_next hT entry_listiter_next ?_ (args_listiter_next _))))
  show wpAny _ _ (field (.ref it) 0 >>= _) _ _ s
  refine wpAny_bind (wpAny_field hit rfl (x := .ref lst) rfl ?_)
  show wpAny _ _ (if (Value.ref lst == Value.none) = true then _ else _) _ _ s
  first | refine ite_no' rfl ?_ | refine ite_no (show ¬ ((Value.ref lst == Value.none) = true) from Bool.false_ne_true) ?_ | rw [if_neg (show ¬ ((Value.ref lst == Value.none) = true) from Bool.false_ne_true)]
  show wpAny _ _ (field (.ref it) 1 >>= _) _ _ s
  refine wpAny_bind (wpAny_field hit rfl (x := .int i 0) rfl ?_)
  show wpAny _ _ (seqItems? (.ref lst) >>= _) _ _ s
  refine wpAny_bind (wpAny_seqItems hl rfl ?_)
  simp only [Int.toNat_natCast, List.getElem?_toArray, hx]
  refine wpAny_bind (wpAny_rule (wpAny_bind (wpAny_setField hit rfl (by simp) ?_)))
  show wpAny _ _ (newExc (.type "StopIteration") [] >>= _) _ _ _
  refine wpAny_bind (newExc_stop (fun h' e hm => ?_))
  simp only [raiseNew]
  refine wpAny_bind (wpAny_handled ?_)
  rw [show A.in1.handled = none from hh]
  obtain ⟨t, ht, _⟩ := hm.there
  refine wpAny_bind (wpAny_pure (wpAny_throw ?_))
  refine wpAny_bind (wpAny_isInstance (T := "StopIteration") (b := true) (s := { s with heap := h' }) (show Shared.TypeIs { s with heap := h' } (.ref e) "StopIteration" from ⟨_, ht, rfl⟩) owsi_facts.sub ?_)
  exact wpAny_pure (hQ h' e hm)

theorem own_listiter {elts : List Expr} {x1} {pos : Pos} {I lst : Addr} {T : Value} {i : Nat} {Q : Unit → Shared → Prop} (hit : s.heap.get? I = some (itO lst i)) (hQ : Q () s) :
    wpAny (model prog w) A (letOwnedTupleGo (.Tuple elts x1 pos) (.ref I) T) Q E s := by
  cases T with
  | ref T => exact wpAny_letOwnedTupleGo_listiter ⟨_, hit, rfl, rfl⟩ hQ
  | _ => exact wpAny_pure hQ
theorem own_inst {elts : List Expr} {x1} {pos : Pos} {I c dx : Addr} {T : Value} {sl : List (Option Value)} {Q : Unit → Shared → Prop} (hit : s.heap.get? I = some (io c dx sl)) (hQ : Q () s) :
    wpAny (model prog w) A (letOwnedTupleGo (.Tuple elts x1 pos) (.ref I) T) Q E s := by
  cases T with
  | ref T =>
    unfold letOwnedTupleGo
    exact wpAny_bind (wpAny_load hit (wpAny_pure hQ))
  | _ => exact wpAny_pure hQ

theorem setItem_list {lst : Addr} {vs : List Value} {n j : Nat} {k : Int} {t : Tok} {v : Value} {Q : Unit → Shared → Prop} (hk : k = (j : Int)) (hl : s.heap.get? lst = some (lstO vs n)) (hj : j < vs.length) (hfit : k < 2 ^ 63)
    (hQ : Q () { s with heap := s.heap.update lst (Obj.mapSeq (·.setIfInBounds j v)) }) : wpAny (model prog w) A (setItem (.ref lst) (.int k t) v) Q E s := by
  have hT : s.TypeIs (.ref lst) "list" := ⟨_, hl, rfl⟩
  unfold setItem
  try with_reducible refine wpAny_holding ?_
  first | refine wpAny_bind (wpAny_pure ?_) | skip
  refine wpAny_bind (wpAny_sequenceKey hT (by decide) ?_)
  refine wpAny_bind (wpAny_callSpecial?_slot (name := Str.ofString "__setitem__") hT slot_list_setitem
    (wpAny_call_entry slot_list_setitem hT entry_list_setitem ?_ (args_list_setitem _ _ _)))
  show wpAny _ _ (Builtin.List.listSubscript? (.int k t) >>= _) _ _ s
  refine wpAny_bind (wpAny_listSubscript_int (fitsIndex_of (by rw [hk]; exact Int.natCast_nonneg j) hfit) ?_)
  clear hfit
  subst hk
  have hx' : vs.toArray[j]? = some vs[j] := by simp [hj]
  show wpAny _ _ ((seqItemAt lst j >>= fun r => pure (r.map (j, ·))) >>= _) _ _ s
  refine wpAny_bind (wpAny_bind (wpAny_seqItemAt hl rfl (wpAny_pure ?_)))
  rw [hx']
  show wpAny _ _ (setSeqItemAt lst j v >>= _) _ _ s
  exact wpAny_bind (wpAny_setSeqItemAt hl rfl (wpAny_pure ⟨.none, rfl, wpAny_pure hQ⟩))

noncomputable def putAll (rk : Value) (grp : List Row) (rv : List Value) : List Value := grp.foldl (fun acc q => acc.set (posI q).toNat rk) rv
theorem putAll_length (rk : Value) : ∀ (grp : List Row) (rv : List Value), (putAll rk grp rv).length = rv.length
  | [], _ => rfl
  | q :: r, rv => (putAll_length rk r _).trans (by simp)
end
end Mine
end
section
set_option maxRecDepth 100000
set_option autoImplicit false
namespace Mine
open PySem PySem.W PySem.Calls PyProof.Rows PySem.Spec
section
variable {K : Frag} {a : Adr} {H0 : Heap} {mg mb : Str → Option Value} {A : Around} {l : List Env} {M : List Addr} {sE : Shared} {L f : Addr} {m : Str → Option Value} {led rest : List (Addr × Obj)} {s : Shared} {prog : Program} {w : World} {E : Value → Shared → Prop}
variable {cn : Str} {cs : Scope} {cdv : Value}

theorem putAll_snoc (rk : Value) (grp : List Row) (q : Row) (rv : List Value) : putAll rk (grp ++ [q]) rv = (putAll rk grp rv).set (posI q).toNat rk := by simp [putAll]

set_option maxHeartbeats 1000000 in
inductive GInv (N : Nat) (F : Nat → (Str → Option Value) → Nat → Shared → Prop) (n : Nat) (s : Shared) : Prop
  | mk (i : Nat) (m' : Str → Option Value) (c' : Nat) (hi : i ≤ N) (hn : n = N - i) (hF : F i m' c' s) : GInv N F n s
theorem assign_loop {vn pn dn rn kn : Str} {p1 p2 p3 tp dp rp kp sp ap fp : Pos} {k : Nat} {res D : Addr} {rv : List Value} {c cD : Nat} {grp : List Row} {rk : Value} {Q : Flow → Shared → Prop}
    (C : Cx H0 A l M sE L m ((res, lstO rv c) :: rest) s) (jD : Nat) (hD : rest[jD]? = some (D, lstO (refs grp) cD)) (hrow : ∀ q ∈ grp, (q.r, tupO [q.key, q.pos]) ∈ rest)
    (hmr : m rn = some (.ref res)) (hmd : m dn = some (.ref D)) (hmk : m kn = some rk)
    (hpos : ∀ q ∈ grp, (∃ t, q.pos = .int (posI q) t) ∧ 0 ≤ posI q ∧ (posI q).toNat < rv.length) (hz : rv.length < 2 ^ 60) (hM : res ∈ M ∨ sE.heap.get? res = none) (hH : H0.get? res = none) (hh : A.handled = none) (hE : PassesOwn (model prog w) A (envOf cn cs L f cdv) E)
    (h : ∀ m' c' s', Cx H0 A l M sE L m' ((res, lstO (putAll rk grp rv) c') :: rest) s' → (∀ z, z ≠ vn → z ≠ pn → m' z = m z) → Q .next s')
    (n1 : rn ≠ vn ∧ rn ≠ pn ∧ kn ≠ vn ∧ kn ≠ pn ∧ vn ≠ pn := by decide)
    (hk : cs.kind = .function := by rfl) (l1 : cs.names.lookup vn = some .local := by rfl) (l2 : cs.names.lookup pn = some .local := by rfl) (l3 : cs.names.lookup dn = some .local := by rfl) (l4 : cs.names.lookup rn = some .local := by rfl) (l5 : cs.names.lookup kn = some .local := by rfl)
    (d1 : (dn == ("__debug__" : Str)) = false := by decide) (d2 : (rn == ("__debug__" : Str)) = false := by decide) (d3 : (kn == ("__debug__" : Str)) = false := by decide) (d4 : (pn == ("__debug__" : Str)) = false := by decide)
    (hp : (cs.kind == .class || (cs.kind == .module && L != mainGlobals)) = false := by rfl) (hf : ∀ x, foldedSetIterable (.Name dn dp) (envOf cn cs L f cdv) x = pure x := by intro _; rfl)
    (hs : swapsWith (.Name kn kp) (some (.Subscript (.Name rn rp) (.Name pn p3) sp)) ap.line (envOf cn cs L f cdv) = pure false := by rfl) :
    wpAny (model prog w) A (exec (.For (.Tuple [.Name vn p1, .Name pn p2] k tp) (.Name dn dp) [.Assign [.Subscript (.Name rn rp) (.Name pn p3) sp] (.Name kn kp) ap] [] fp) (envOf cn cs L f cdv)) Q E s := by
  refine wpAny_For (C.name hmd ?_ hk l3 d1) hf
  refine wpAny_pyIter_list ⟨_, C.at (jD + 1) hD, rfl, cD, rfl⟩ ?_
  have C1 := C.push (itO D 0) rfl nd_fields rfl
  have nIT : s.heap.get? s.heap.objs.size = none := not_at
  have nwIT := C.noE nIT
  generalize s.heap.objs.size = IT at C1 nIT nwIT ⊢
  refine codeAny_forLoop_any (GInv grp.length fun i m' c' s' => (∀ z, z ≠ vn → z ≠ pn → m' z = m z) ∧ Cx H0 A l M sE L m' ((IT, itO D i) :: (res, lstO (putAll rk (grp.take i) rv) c') :: rest) s') ?_ grp.length ⟨0, m, c, Nat.zero_le _, rfl, fun _ _ _ => rfl, C1⟩
  rintro n' s' ⟨i, m', c', hi, rfl, hm, C2⟩
  have hDe : ((IT, itO D i) :: (res, lstO (putAll rk (grp.take i) rv) c') :: rest)[jD + 2]? = some (D, lstO (refs grp) cD) := hD
  by_cases hlt : i < grp.length
  · have hq : grp[i]? = some grp[i] := List.getElem?_eq_getElem hlt
    have hqm : grp[i] ∈ grp := List.getElem_mem hlt
    generalize grp[i] = q at hq hqm
    refine pyNext_item (C2.at 0 rfl) (C2.at (jD + 2) hDe) (refs_get hq) ?_
    have C3 := C2.upd 0 (f := Obj.mapFields (·.setIfInBounds 1 (rawInt ((i : Int) + 1)))) rfl rfl nd_fields rfl (.inr nwIT.e) nwIT.h
    refine own_listiter (i := i + 1) (C3.at 0 rfl) ?_
    obtain ⟨⟨tq, eq⟩, hq0, hqn⟩ := hpos q hqm
    obtain ⟨jq, hjq, ejq⟩ := List.mem_iff_getElem.mp (hrow q hqm)
    have hjq' : rest[jq]? = some (q.r, tupO [q.key, q.pos]) := by rw [List.getElem?_eq_getElem hjq, ejq]
    refine C3.unpack2 (jq + 2) hjq' hh (fun s4 C4 => ?_) l1 l2 hp
    have mk : ∀ z, z ≠ vn → z ≠ pn → (updM (updM m' vn q.key) pn q.pos) z = m z := fun z h1 h2 => by
      show (if z = pn then _ else if z = vn then _ else m' z) = m z
      rw [if_neg h2, if_neg h1, hm z h1 h2]
    refine wpAny_passesOwn hE ?_
    refine wpAny_execs_cons (wpAny_Assign_Subscript (C4.name ((mk kn n1.2.2.1 n1.2.2.2.1).trans hmk) (C4.name ((mk rn n1.1 n1.2.1).trans hmr) (C4.name (v := q.pos) (if_pos rfl) ?_ hk l2 d4) hk l4 d2) hk l5 d3) hs)
    rw [eq]
    refine setItem_list (j := (posI q).toNat) (by lia  ) (C4.at 1 rfl) (by rw [putAll_length]; exact hqn) (by have : (2 : Nat) ^ 60 ≤ 2 ^ 62 := by decide
                                                                                                              have h3 : (posI q) < 2 ^ 62 := by lia
                                                                                                              have h4 : (2 : Int) ^ 62 < 2 ^ 63 := by decide
                                                                                                              lia  ) ?_
    have C5 := C4.upd 1 (f := Obj.mapSeq (·.setIfInBounds (posI q).toNat rk)) rfl rfl nd_seq rfl hM hH
    refine wpAny_execs_nil ⟨grp.length - (i + 1), by grind, i + 1, _, c', hlt, rfl, mk, ?_⟩
    have e : Obj.mapSeq (fun x => x.setIfInBounds (posI q).toNat rk) (lstO (putAll rk (grp.take i) rv) c') = lstO (putAll rk (grp.take (i + 1)) rv) c' := by
      rw [List.take_add_one, hq]
      show _ = lstO (putAll rk (grp.take i ++ [q]) rv) c'
      rw [putAll_snoc]
      simp [Obj.mapSeq]
    have e2 : ([(IT, itO D (i + 1)), (res, lstO (putAll rk (grp.take i) rv) c')] ++ rest).set 1 (res, Obj.mapSeq (fun x => x.setIfInBounds (posI q).toNat rk) (lstO (putAll rk (grp.take i) rv) c')) = (IT, itO D (i + 1)) :: (res, lstO (putAll rk (grp.take (i + 1)) rv) c') :: rest := by
      rw [e]; rfl
    rw [← e2]
    exact C5
  · have hil : i = grp.length := by lia
    subst hil
    refine pyNext_end hh (C2.at 0 rfl) (C2.at (jD + 2) hDe) (refs_none (List.getElem?_eq_none (Nat.le_refl _))) fun h' e hm' => ?_
    have C3 := C2.upd 0 (f := Obj.mapFields (·.setIfInBounds 0 .none)) rfl rfl nd_fields rfl (.inr nwIT.e) nwIT.h
    have C4 := C3.call (made_go (H0 := H0) (M := []) (s := { s' with heap := s'.heap.update IT (Obj.mapFields (·.setIfInBounds 0 .none)) }) hm')
    rw [List.take_length] at C4
    exact wpAny_execs_nil (h m' c' _ (C4.drop _ (.cons _ (List.Sublist.refl _))) hm)
end
end Mine
end
section
set_option maxRecDepth 100000
set_option autoImplicit false
namespace Mine
open PySem PySem.Float64

theorem pow1074 : (2 : Nat) ^ 1074 = 2 ^ 1073 * 2 := Nat.pow_succ ..
noncomputable def hf (z : Int) : UInt64 := Float64.ofFrac (decide (z < 0)) z.natAbs 2

theorem rep {n : Nat} (h : n ≤ 2 ^ 52) : ∃ t, t < infMag ∧ V t = n * 2 ^ 1073 := by
  by_cases h0 : n = 0
  · subst h0; exact ⟨0, by decide, by rw [V_zero, Nat.zero_mul]⟩
  · have h1 := Nat.log2_self_le h0
    have h2 : n < 2 ^ (n.log2 + 1) := Nat.lt_log2_self
    have hl : n.log2 ≤ 52 := by
      rcases Nat.lt_or_ge 52 n.log2 with z | z
      · have := Nat.pow_le_pow_right (n := 2) (by decide) z
        have h53 : (2 : Nat) ^ 53 = 2 ^ 52 * 2 := by decide
        have : (2 : Nat) ^ (52 + 1) ≤ 2 ^ n.log2 := Nat.pow_le_pow_right (by decide) z
        lia
      · exact z
    generalize n.log2 = l at h1 h2 hl
    have q1 : 2 ^ 52 ≤ n * 2 ^ (52 - l) := by
      have : 2 ^ l * 2 ^ (52 - l) ≤ n * 2 ^ (52 - l) := Nat.mul_le_mul_right _ h1
      rw [← Nat.pow_add, show l + (52 - l) = 52 by grind] at this
      exact this
    have q2 : n * 2 ^ (52 - l) < 2 ^ 53 := by
      have : n * 2 ^ (52 - l) < 2 ^ (l + 1) * 2 ^ (52 - l) := Nat.mul_lt_mul_of_pos_right h2 (Nat.two_pow_pos _)
      rw [← Nat.pow_add, show l + 1 + (52 - l) = 53 by grind] at this
      exact this
    refine ⟨(1021 + l) * 2 ^ 52 + n * 2 ^ (52 - l), ?_, ?_⟩
    · have : infMag = 2047 * 2 ^ 52 := rfl
      have h53 : (2 : Nat) ^ 53 = 2 ^ 52 * 2 := by decide
      have h3 : (1021 + l) * 2 ^ 52 ≤ 1073 * 2 ^ 52 := Nat.mul_le_mul_right _ (by lia  )
      lia
    · rw [V_at (Nat.le_of_lt q2) (.inl q1), Nat.mul_assoc, ← Nat.pow_add, show 52 - l + (1021 + l) = 1073 by grind]

theorem V_inj {t t' : Nat} (h : V t = V t') : t = t' := by
  rcases Nat.lt_trichotomy t t' with z | z | z
  · have := V_lt z; lia
  · exact z
  · have := V_lt z; lia
theorem big_pow {W : Nat} (h : W ≤ 2 ^ 1125) : ¬ (1 * ((2 ^ 54 - 1) * 2 ^ 2045) ≤ 2 * W) := by
  intro hc
  have h1 : 2 * W ≤ 2 ^ 1126 := by
    have : (2 : Nat) ^ 1126 = 2 * 2 ^ 1125 := by rw [show (1126 : Nat) = 1125 + 1 from rfl, Nat.pow_succ, Nat.mul_comm]
    lia
  have h2 : (2 : Nat) ^ 1126 < 2 ^ 2045 := Nat.pow_lt_pow_right (by decide) (by decide)
  have h3 : 1 * (2 : Nat) ^ 2045 ≤ 1 * ((2 ^ 54 - 1) * 2 ^ 2045) := by
    rw [Nat.one_mul, Nat.one_mul]
    exact Nat.le_mul_of_pos_left _ (by decide)
  grind
theorem right_exact {r : UInt64} {neg : Bool} {W t₀ : Nat} (R : Right r neg W 1) (hV : V t₀ = W) (hW : W ≤ 2 ^ 1125) : r = pack neg t₀ := by
  obtain ⟨t, hr, hle, hov, hnear⟩ := R
  have hlt : t < infMag := by
    rcases Nat.lt_or_ge t infMag with z | z
    · exact z
    · exact absurd (hov.mp (Nat.le_antisymm hle z)) (big_pow hW)
  have h1 := (hnear hlt t₀).1
  have h2 : dist W (1 * V t₀) = 0 := by rw [hV, Nat.one_mul]; unfold dist; lia
  have h3 : V t = W := by rw [h2, Nat.one_mul] at h1; unfold dist at h1; lia
  rw [hr, V_inj (h3.trans hV.symm)]

theorem half_le {n : Nat} (h : n ≤ 2 ^ 52) : n * 2 ^ 1073 ≤ 2 ^ 1125 := by
  have : n * 2 ^ 1073 ≤ 2 ^ 52 * 2 ^ 1073 := Nat.mul_le_mul_right _ h
  rw [← Nat.pow_add] at this
  exact this
theorem hf_right (z : Int) : Right (hf z) (decide (z < 0)) (z.natAbs * 2 ^ 1073) 1 :=
  ofFrac_right (by decide) (by rw [Nat.mul_one, pow1074, Nat.mul_assoc]) (by decide)
theorem hf_pack {z : Int} (h : z.natAbs ≤ 2 ^ 52) : ∃ t, t < infMag ∧ hf z = pack (decide (z < 0)) t ∧ V t = z.natAbs * 2 ^ 1073 := by
  obtain ⟨t, h1, h2⟩ := rep h
  exact ⟨t, h1, right_exact (hf_right z) h2 (half_le h), h2⟩
theorem hf_uniq {r : UInt64} {z : Int} (h : z.natAbs ≤ 2 ^ 52) (R : Right r (decide (z < 0)) (z.natAbs * 2 ^ 1073) 1) : r = hf z := by
  obtain ⟨t, h1, h2, h3⟩ := hf_pack h
  rw [h2, right_exact R h3 (half_le h)]
theorem sgn_abs (z : Int) : sgn (decide (z < 0)) z.natAbs = z := by
  unfold sgn
  by_cases h : z < 0
  · simp [h]; grind
  · simp [h]; lia
theorem hf_dec {z : Int} (h : z.natAbs ≤ 2 ^ 52) : ∃ m e, decode (hf z) = .fin (decide (z < 0)) m e ∧ val (hf z) = z * 2 ^ 1073 := by
  obtain ⟨t, h1, h2, h3⟩ := hf_pack h
  obtain ⟨m, e, h4, h5⟩ := decode_pack (decide (z < 0)) h1
  refine ⟨m, e, by rw [h2]; exact h4, ?_⟩
  rw [h2, val_pack _ h1, h3, sgn_mul, sgn_abs]
  push_cast
  rfl
theorem hf_zero : hf 0 = zero false := by decide +kernel
theorem sum_cast (a b : Int) : a * 2 ^ 1073 + b * 2 ^ 1073 = (a + b) * 2 ^ 1073 := (Int.add_mul ..).symm
theorem pow_pos_i : (0 : Int) < 2 ^ 1073 := Int.pow_pos (by decide)
theorem neg_iff (z : Int) : decide (z * 2 ^ 1073 < 0) = decide (z < 0) := by
  have hp := pow_pos_i
  generalize (2 : Int) ^ 1073 = P at hp ⊢
  by_cases h : z < 0
  · have : z * P < 0 := Int.mul_neg_of_neg_of_pos h hp
    simp [h, this]
  · have : ¬ z * P < 0 := Int.not_lt.mpr (Int.mul_nonneg (Int.not_lt.mp h) (Int.le_of_lt hp))
    simp [h, this]
theorem abs_cast (z : Int) : (z * 2 ^ 1073).natAbs = z.natAbs * 2 ^ 1073 := by
  rw [Int.natAbs_mul, Int.natAbs_pow]; rfl
theorem zero_iff (z : Int) : z * 2 ^ 1073 = 0 ↔ z = 0 := by
  have hp := pow_pos_i
  constructor
  · intro h
    rcases Int.mul_eq_zero.mp h with h | h
    · exact h
    · grind
  · rintro rfl; simp
theorem hf_add {a b : Int} (ha : a.natAbs ≤ 2 ^ 52) (hb : b.natAbs ≤ 2 ^ 52) (hc : (a + b).natAbs ≤ 2 ^ 52) : Float64.add (hf a) (hf b) = hf (a + b) := by
  obtain ⟨m, e, d1, v1⟩ := hf_dec ha
  obtain ⟨k, f, d2, v2⟩ := hf_dec hb
  obtain ⟨r1, r2⟩ := add_right d1 d2
  rw [v1, v2, sum_cast] at r1 r2
  by_cases hz : a + b = 0
  · rw [r1 ((zero_iff _).mpr hz), hz, hf_zero]
    have : (decide (a < 0) && decide (b < 0)) = false := by
      by_cases h : a < 0
      · simp [h]; lia
      · simp [h]
    rw [this]
  · have R := r2 (fun h => hz ((zero_iff _).mp h))
    rw [neg_iff, abs_cast] at R
    exact hf_uniq hc R
theorem hf_ofInt {n : Int} (h : (2 * n).natAbs ≤ 2 ^ 52) : Float64.ofInt n = hf (2 * n) := by
  refine hf_uniq h ?_
  have R := ofInt_right n
  rw [pow1074] at R
  have e1 : n.natAbs * (2 ^ 1073 * 2) = (2 * n).natAbs * 2 ^ 1073 := by
    rw [Int.natAbs_mul]; show _ = 2 * n.natAbs * 2 ^ 1073
    rw [Nat.mul_comm (2 ^ 1073) 2, ← Nat.mul_assoc, Nat.mul_comm n.natAbs 2]
  have e2 : decide (n < 0) = decide (2 * n < 0) := by
    by_cases h : n < 0
    · simp [h]; lia
    · simp [h]; lia
  rw [e1, e2] at R
  exact R
theorem hf_notInf {z : Int} (h : z.natAbs ≤ 2 ^ 52) : Float64.isInf (hf z) = false := by
  obtain ⟨m, e, d, _⟩ := hf_dec h
  unfold Float64.isInf; rw [d]
end Mine
namespace Mine
open PySem PySem.Float64
theorem hf_sub {a b : Int} (ha : a.natAbs ≤ 2 ^ 52) (hb : b.natAbs ≤ 2 ^ 52) (hc : (a - b).natAbs ≤ 2 ^ 52) : Float64.sub (hf a) (hf b) = hf (a - b) := by
  obtain ⟨m, e, d1, v1⟩ := hf_dec ha
  obtain ⟨k, f, d2, v2⟩ := hf_dec hb
  obtain ⟨r1, r2⟩ := sub_right d1 d2
  rw [v1, v2, ← Int.sub_mul] at r1 r2
  by_cases hz : a - b = 0
  · rw [r1 ((zero_iff _).mpr hz), hz, hf_zero]
    have : a = b := by lia
    subst this
    cases decide (a < 0) <;> rfl
  · have R := r2 (fun h => hz ((zero_iff _).mp h))
    rw [neg_iff, abs_cast] at R
    exact hf_uniq hc R
end Mine
end
section
set_option maxRecDepth 100000
set_option autoImplicit false
namespace Mine
open PySem PySem.W PySem.Calls PyProof.Rows PySem.Spec
section
variable {K : Frag} {a : Adr} {b : GB} {H0 : Heap} {mg mb : Str → Option Value} {A : Around} {l : List Env} {s : Shared} {prog : Program} {w : World} {E : Value → Shared → Prop}

theorem list_group (G : Gl K H0 mg mb) (F : KF K a) (S : St H0 A l s) (κ : KeyOps) (KR : KeyR κ b.rows) {y dy : Addr} {i : Nat} {q : Row} {n : Int} {t₁ t₂ : Tok} {se : Value} (hi : b.rows[i]? = some q)
    (C : Lg s.heap ((y, io a.gr dy (b.gr n t₂ q.key)) :: b.led a (b.st (.int n t₁) q.key (.ref q.r) true true true se q.key) (itO b.lst (i + 1))))
    (hHx : H0.get? b.x = none) (hHit : H0.get? b.it = none) (hz : b.rows.length < sizeLine)
    (hroom : A.depth + 3 < recursionLimit) (hh : A.handled = none) {Q : Value → Shared → Prop}
    (k : ∀ D j c' s', i < j → (∀ m q', i ≤ m → m < j → b.rows[m]? = some q' → κ.eq q.key q'.key = true) → (∀ q', b.rows[j]? = some q' → κ.eq q.key q'.key = false) → j ≤ b.rows.length → Go H0 [b.x, b.it] s s' → s.heap.get? D = none →
      After a b s'.heap [(D, lstO (refs ((b.rows.take j).drop i)) c'), (y, io a.gr dy (b.gr n t₂ q.key))] (.int n t₁) se q.key j → Q (.ref D) s') :
    wpAny (model prog w) A (call (.type "list") [.ref y]) Q E s := by
  refine list_inst G S (C.ok 0 rfl) F.mgrT F.mgrN F.grLen F.grHint (fun s1 Q1 E1 S1 h1 => grIter_spec G F (S1.around (A' := A.in1.in1) rfl) (Nat.lt_of_le_of_lt (Nat.le_add_right _ 3) hroom) h1) fun D s1 c1 g1 nD hD => ?_
  have S1 := S.go g1
  have hHD : H0.get? D = none := by
    cases z : H0.get? D with
    | none => rfl
    | some o => have := S.glob _ _ z; rw [nD] at this; cases this
  have C1 := (C.go g1).add (s := s1) (okk_lst hD) (fun p hp e => ne_nd (C.has p hp).at_ nD e)
  refine group_loop G F (S1.around (A' := A.in1) rfl) κ KR hi C1 hHD hHx hHit hz hroom hh fun j c' s2 h1 h2 h3 h4 g2 h5 => ?_
  refine ⟨rfl, k D j c' s2 h1 h2 h3 h4 ?_ nD h5⟩
  exact (g1.mono (M' := [b.x, b.it]) (fun p h => nomatch h)).step g2 fun p hp => by
    rcases List.mem_cons.mp hp with rfl | hp
    · exact .inr nD
    · exact .inl hp

inductive NumV (v : Value) (z : Int) : Prop where
  | int (n : Int) (t : Tok) (e : v = .int n t) (h : z = 2 * n)
  | float (t : Tok) (e : v = .float (hf z) t)

theorem num_sub1 {v : Value} {z : Int} (h : NumV v z) (hz : z.natAbs ≤ 2 ^ 51) {u : Tok} {Q : Value → Shared → Prop} (k : ∀ r, NumV r (z - 2) → Q r { s with toks := s.toks + 1 }) : wpAny (model prog w) A (binaryOp .Sub v (.int 1 u)) Q E s := by
  cases h with
  | int n t e h => subst e; exact P.sub_int (k _ (.int (n - 1) _ rfl (by lia  )))
  | float t e =>
    subst e
    refine sub_fi_fits (by decide) (k _ (.float s.toks ?_))
    rw [hf_ofInt (n := 1) (by decide), hf_sub (by lia  ) (by decide) (by omega)]
    rfl
theorem num_rank {v : Value} {z : Int} (h : NumV v z) (hz : z.natAbs ≤ 2 ^ 50) {m : Int} (hm : m.natAbs ≤ 2 ^ 50) {u : Tok} {Q : Value → Shared → Prop} (k : Q (.float (hf (z + m)) s.toks) { s with toks := s.toks + 1 }) : wpAny (model prog w) A (binaryOp .Add v (.float (hf m) u)) Q E s := by
  cases h with
  | int n t e h =>
    subst e
    refine add_if_fits ?_ ?_
    · have : (2 : Nat) ^ 50 < 2 ^ 1023 := Nat.pow_lt_pow_right (by decide) (by decide)
      omega
    · rw [hf_ofInt (n := n) (by grind), hf_add (by lia  ) (by lia  ) (by omega), ← h]; exact k
  | float t e =>
    subst e
    refine add_float ?_
    rw [hf_add (by lia  ) (by lia  ) (by omega)]; exact k
theorem num_step {v : Value} {z : Int} (h : NumV v z) (hz : z.natAbs ≤ 2 ^ 50) {m : Int} (hm : m.natAbs ≤ 2 ^ 49) {u : Tok} {Q : Value → Shared → Prop} (k : ∀ r, NumV r (z + 2 * m) → Q r { s with toks := s.toks + 1 }) : wpAny (model prog w) A (inplaceOp .Add v (.int m u)) Q E s := by
  cases h with
  | int n t e h => subst e; exact P.iadd_int (k _ (.int (n + m) _ rfl (by lia  )))
  | float t e =>
    subst e
    refine PySem.Flt.iadd_fi_1 ?_ ?_
    · rw [hf_ofInt (n := m) (by lia  ), hf_notInf (by lia  )]; decide
    · show Q _ _
      rw [hf_ofInt (n := m) (by lia  ), hf_add (by lia  ) (by lia  ) (by omega)]
      exact k _ (.float _ rfl)
theorem half_size {n : Int} (h : n.natAbs ≤ 2 ^ 50) {t u : Tok} {Q : Value → Shared → Prop} (k : Q (.float (hf n) s.toks) { s with toks := s.toks + 1 }) : wpAny (model prog w) A (binaryOp .Div (.int n t) (.int 2 u)) Q E s := by
  have e : Float64.ofFrac (decide (n < 0) != decide ((2 : Int) < 0)) n.natAbs (2 : Int).natAbs = hf n := by
    unfold hf
    have : (decide (n < 0) != decide ((2 : Int) < 0)) = decide (n < 0) := by cases decide (n < 0) <;> rfl
    rw [this]; rfl
  refine AutoIntOps.truediv_2 (by decide) ?_ ?_
  · rw [e, hf_notInf (by lia  )]; decide
  · show Q _ _
    rw [e]; exact k
end
end Mine
end
section
set_option maxRecDepth 100000
set_option autoImplicit false
namespace Mine
open PySem PySem.W PySem.Calls PyProof.Rows PySem.Spec

structure Grp (κ : KeyOps) (rows : List Row) (i j : Nat) : Prop where
  lt : i < j
  le : j ≤ rows.length
  same : ∀ q m q', rows[i]? = some q → i ≤ m → m < j → rows[m]? = some q' → κ.eq q.key q'.key = true
  stop : ∀ q q', rows[i]? = some q → rows[j]? = some q' → κ.eq q.key q'.key = false
noncomputable def Upto (κ : KeyOps) (rows : List Row) (j : Nat) : Prop := j = 0 ∨ ∃ i, Grp κ rows i j
noncomputable def RK (κ : KeyOps) (rows : List Row) (z : Int) (j : Nat) (rv : List Value) : Prop :=
  rv.length = rows.length ∧ ∀ (m : Nat) (q : Row), m < j → rows[m]? = some q → ∃ i0 i1 : Nat, Grp κ rows i0 i1 ∧ Upto κ rows i0 ∧ i0 ≤ m ∧ m < i1 ∧ ∃ t, rv[(posI q).toNat]? = some (.float (hf (z + i0 + i1 + 1)) t)
structure TK (rv : List Value) (n : Nat) : Prop where
  all : ∀ v ∈ rv, (∃ t, v = .int 0 t) ∨ ∃ x t, v = .float x t ∧ 0 < t ∧ t < n
  same : ∀ x t x', Value.float x t ∈ rv → Value.float x' t ∈ rv → x = x'
theorem TK.mono {rv : List Value} {n n' : Nat} (h : TK rv n) (hn : n ≤ n') : TK rv n' := ⟨fun v hv => (h.all v hv).imp id fun ⟨x, t, e, h1, h2⟩ => ⟨x, t, e, h1, Nat.lt_of_lt_of_le h2 hn⟩, h.same⟩
theorem putAll_mem {rk : Value} : ∀ {grp : List Row} {rv : List Value} {v : Value}, v ∈ putAll rk grp rv → v = rk ∨ v ∈ rv
  | [], _, _, h => .inr h
  | q :: r, rv, v, h => by
    rcases putAll_mem (grp := r) h with h | h
    · exact .inl h
    · rcases List.mem_or_eq_of_mem_set h with h | h
      · exact .inr h
      · exact .inl h
theorem TK.put {rv : List Value} {n n' : Nat} {x : UInt64} {t : Tok} {grp : List Row} (h : TK rv n) (h0 : 0 < t) (h1 : n ≤ t) (h2 : t < n') : TK (putAll (.float x t) grp rv) n' := by
  refine ⟨fun v hv => ?_, fun y u y' hy hy' => ?_⟩
  · rcases putAll_mem hv with rfl | hv
    · exact .inr ⟨x, t, rfl, h0, h2⟩
    · exact (h.mono (Nat.le_of_lt (Nat.lt_of_le_of_lt h1 h2))).all v hv
  · have key : ∀ z w, Value.float z w ∈ putAll (.float x t) grp rv → (z = x ∧ w = t) ∨ (Value.float z w ∈ rv ∧ w < n) := by
      intro z w hz
      rcases putAll_mem hz with e | hz
      · cases e; exact .inl ⟨rfl, rfl⟩
      · rcases h.all _ hz with ⟨_, e⟩ | ⟨_, _, e, _, hl⟩
        · cases e
        · cases e; exact .inr ⟨hz, hl⟩
    rcases key y u hy with ⟨rfl, rfl⟩ | ⟨a1, a2⟩ <;> rcases key y' u hy' with ⟨rfl, b1⟩ | ⟨b1, b2⟩
    · rfl
    · exact absurd b2 (Nat.not_lt.mpr h1)
    · subst b1; exact absurd a2 (Nat.not_lt.mpr h1)
    · exact h.same y u y' a1 b1
theorem putAll_get {rk : Value} {rows : List Row} (P : PosR rows) : ∀ {grp : List Row} {rv : List Value} {q : Row}, (∀ x ∈ grp, x ∈ rows ∧ 0 ≤ posI x) → q ∈ rows → 0 ≤ posI q → (posI q).toNat < rv.length →
    (q ∈ grp → (putAll rk grp rv)[(posI q).toNat]? = some rk) ∧ (q ∉ grp → (putAll rk grp rv)[(posI q).toNat]? = rv[(posI q).toNat]?)
  | [], rv, q, _, _, _, _ => ⟨fun h => (nomatch h), fun _ => rfl⟩
  | x :: r, rv, q, hg, hq, h0, hl => by
    have ih := putAll_get (rk := rk) P (grp := r) (rv := rv.set (posI x).toNat rk) (q := q) (fun y hy => hg y (.tail _ hy)) hq h0 (by simpa using hl)
    obtain ⟨hx, hx0⟩ := hg x (.head _)
    show (_ → (putAll rk r (rv.set (posI x).toNat rk))[(posI q).toNat]? = _) ∧ (_ → (putAll rk r (rv.set (posI x).toNat rk))[(posI q).toNat]? = _)
    by_cases hqr : q ∈ r
    · exact ⟨fun _ => ih.1 hqr, fun h => absurd (.tail _ hqr) h⟩
    · rw [ih.2 hqr, List.getElem?_set]
      by_cases hxq : q = x
      · subst hxq; exact ⟨fun _ => by rw [if_pos rfl, if_pos hl], fun h => absurd (.head _) h⟩
      · have : posI x ≠ posI q := fun e => hxq (P.ne x hx q hq e).symm
        exact ⟨fun h => ((List.mem_cons.mp h).elim hxq hqr).elim, fun _ => by rw [if_neg (by lia  )]⟩

section
variable (a : Adr) (b : GB) (κ : KeyOps) (H0 : Heap) (A : Around) (l : List Env) (M : List Addr) (sE : Shared) (L res : Addr) (z : Int)
noncomputable def GSt (j : Nat) (sl : List (Option Value)) (ito : Obj) : Prop :=
  (j = 0 ∧ ∃ t u, sl = b.st (.int 0 t) .none .none false false false (.int 0 u) .none ∧ ito = itO b.lst 0) ∨
  (0 < j ∧ ∃ q qp cg n t, b.rows[j]? = some q ∧ qp ∈ b.rows ∧ κ.eq qp.key q.key = false ∧ sl = b.st cg q.key (.ref q.r) true true true (.int n t) qp.key ∧ ito = itO b.lst (j + 1)) ∨
  (0 < j ∧ j = b.rows.length ∧ ∃ cg se key, sl = b.st cg .none .none false false true se key ∧ ito = itE j)
inductive RInv (j : Nat) (s : Shared) : Prop
  | mk (m : Str → Option Value) (rv : List Value) (c : Nat) (iv : Value) (sl : List (Option Value)) (ito : Obj) (hr : m "result" = some (.ref res)) (hi : m "i" = some iv) (hn : NumV iv (z + 2 * j)) (hj : j ≤ b.rows.length) (hu : Upto κ b.rows j) (hg : GSt b κ j sl ito)
    (hk : RK κ b.rows z j rv) (ht : TK rv s.toks) (C : Cx H0 A l M sE L m ((res, lstO rv c) :: b.led a sl ito) s) : RInv j s
end

section
variable {H0 : Heap} {A : Around} {l : List Env} {M : List Addr} {sE : Shared} {L : Addr} {m : Str → Option Value} {led : List (Addr × Obj)} {s : Shared}
theorem Cx.mark (C : Cx H0 A l M sE L m led s) : Cx H0 A l M { sE with toks := s.toks } L m led s := { C with go := ⟨C.go.glob, C.go.nd, C.go.up, C.go.pres, Nat.le_refl _, C.go.gens, C.go.os⟩ }
theorem Cx.unmark {n : Nat} (C : Cx H0 A l M { sE with toks := n } L m led s) (h : sE.toks ≤ n) : Cx H0 A l M sE L m led s := { C with go := ⟨C.go.glob, C.go.nd, C.go.up, C.go.pres, Nat.le_trans h C.go.toks, C.go.gens, C.go.os⟩ }
end
theorem upne {n x : Str} {v : Value} {m : Str → Option Value} {r : Option Value} (h : x ≠ n) (e : m x = r) : (updM m n v) x = r := (if_neg h).trans e
theorem upne2 {n n' x : Str} {v v' : Value} {m : Str → Option Value} {r : Option Value} (h : x ≠ n) (h' : x ≠ n') (e : m x = r) : (updM (updM m n' v') n v) x = r := (if_neg h).trans ((if_neg h').trans e)
theorem mem_grp {rows : List Row} {i j : Nat} {q : Row} (h : q ∈ (rows.take j).drop i) : ∃ m, i ≤ m ∧ m < j ∧ rows[m]? = some q := by
  obtain ⟨k, hk, e⟩ := List.mem_iff_getElem.mp h
  simp only [List.length_drop, List.length_take] at hk
  refine ⟨i + k, by lia  , by grind, ?_⟩
  rw [List.getElem_drop, List.getElem_take] at e
  rw [← e]; exact List.getElem?_eq_getElem _
theorem grp_mem {rows : List Row} {i j m : Nat} {q : Row} (h1 : i ≤ m) (h2 : m < j) (h : rows[m]? = some q) : q ∈ (rows.take j).drop i := by
  refine List.mem_of_getElem? (i := m - i) ?_
  rw [List.getElem?_drop, show i + (m - i) = m by grind, List.getElem?_take, if_pos h2, h]
theorem nodup_idx {rows : List Row} (hn : (rows.map (·.r)).Nodup) {m m' : Nat} {q : Row} (h : rows[m]? = some q) (h' : rows[m']? = some q) : m = m' := by
  rcases Nat.lt_trichotomy m m' with z | z | z
  · exfalso
    obtain ⟨a1, b1⟩ := List.getElem?_eq_some_iff.mp h
    obtain ⟨a2, b2⟩ := List.getElem?_eq_some_iff.mp h'
    exact List.pairwise_iff_getElem.mp hn m m' (by simpa using a1) (by simpa using a2) z (by simp [b1, b2])
  · exact z
  · exfalso
    obtain ⟨a1, b1⟩ := List.getElem?_eq_some_iff.mp h
    obtain ⟨a2, b2⟩ := List.getElem?_eq_some_iff.mp h'
    exact List.pairwise_iff_getElem.mp hn m' m (by simpa using a2) (by simpa using a1) z (by simp [b1, b2])
theorem RK.step {κ : KeyOps} {rows : List Row} {z : Int} {j j' : Nat} {rv : List Value} {t : Tok} (P : PosR rows) (hn : (rows.map (·.r)).Nodup) (hpn : ∀ q ∈ rows, 0 ≤ posI q ∧ (posI q).toNat < rows.length) (h : RK κ rows z j rv) (hu : Upto κ rows j) (hg : Grp κ rows j j') :
    RK κ rows z j' (putAll (.float (hf (z + j + j' + 1)) t) ((rows.take j').drop j) rv) := by
  refine ⟨by rw [putAll_length]; exact h.1, fun m q hm hq => ?_⟩
  have hqm := List.mem_of_getElem? hq
  have gm : ∀ x ∈ (rows.take j').drop j, x ∈ rows ∧ 0 ≤ posI x := fun x hx => by
    obtain ⟨m', _, _, e⟩ := mem_grp hx
    exact ⟨List.mem_of_getElem? e, (hpn x (List.mem_of_getElem? e)).1⟩
  have pg := putAll_get (rk := .float (hf (z + j + j' + 1)) t) P (grp := (rows.take j').drop j) (rv := rv) (q := q) gm hqm (hpn q hqm).1 (by rw [h.1]; exact (hpn q hqm).2)
  by_cases hmj : m < j
  · obtain ⟨i0, i1, h1, h2, h3, h4, u, h5⟩ := h.2 m q hmj hq
    refine ⟨i0, i1, h1, h2, h3, h4, u, ?_⟩
    rw [pg.2 fun hx => ?_]
    · exact h5
    · obtain ⟨m', h6, h7, h8⟩ := mem_grp hx
      have := nodup_idx hn hq h8
      lia
  · exact ⟨j, j', hg, hu, by lia  , hm, t, pg.1 (grp_mem (by lia  ) hm hq)⟩

noncomputable def rankBody : List Stmt := match dRank.2.1.getD 5 (.Pass default) with | .For _ _ b _ _ => b | _ => []

section
variable {K : Frag} {a : Adr} {b : GB} {κ : KeyOps} {H0 : Heap} {mg mb : Str → Option Value} {A : Around} {l : List Env} {M : List Addr} {sE : Shared} {L res : Addr} {s : Shared} {prog : Program} {w : World} {E : Value → Shared → Prop} {cdv : Value} {z : Int}

theorem GB.dn {L : Addr} {sl : List (Option Value)} {ito : Obj} {pre : List (Addr × Obj)} (h1 : b.dg ≠ L) (h2 : b.di ≠ L) (h3 : ito.dict = none) (hp : ∀ p ∈ pre, p.2.dict ≠ some L) : ∀ p ∈ pre ++ b.led a sl ito, p.2.dict ≠ some L := by
  intro p hp'
  rcases List.mem_append.mp hp' with h | h
  · exact hp p h
  · simp only [GB.led, List.mem_cons] at h
    rcases h with rfl | rfl | rfl | rfl | rfl | h
    · exact fun e => h1 (Option.some.inj e)
    · rw [h3]; exact fun e => by cases e
    · exact fun e => by cases e
    · exact fun e => h2 (Option.some.inj e)
    · exact fun e => by cases e
    · obtain ⟨q, _, rfl⟩ := List.mem_map.mp h
      exact fun e => by cases e

set_option maxHeartbeats 4000000 in
theorem rank_turn (G : Gl K H0 mg mb) (F : KF K a) (KR : KeyR κ b.rows) (P : PosR b.rows) (hpn : ∀ q ∈ b.rows, 0 ≤ posI q ∧ (posI q).toNat < b.rows.length) {m : Str → Option Value} {rv : List Value} {c : Nat} {iv : Value} {j : Nat} {q : Row} {n : Int} {t₁ t₂ : Tok} {y dy t : Addr} {x1 : Nat} {pu pg pt : Pos} {Qf : Flow → Shared → Prop}
    (hq : b.rows[j]? = some q) (hup : Upto κ b.rows j) (hmr : m "result" = some (.ref res)) (hmi : m "i" = some iv) (hiv : NumV iv (z + 2 * j)) (hrk : RK κ b.rows z j rv) (htk : TK rv s.toks)
    (C : Cx H0 (A.deeper (envOf "_rank" dRank.2.2 L a.rank cdv)) (envOf "_rank" dRank.2.2 L a.rank cdv :: l) M sE L m ((t, tupO [q.key, .ref y]) :: (y, io a.gr dy (b.gr n t₂ q.key)) :: (res, lstO rv c) :: b.led a (b.st (.int n t₁) q.key (.ref q.r) true true true (.int n t₁) q.key) (itO b.lst (j + 1))) s)
    (hHx : H0.get? b.x = none ∧ (b.x ∈ M ∨ sE.heap.get? b.x = none)) (hHit : H0.get? b.it = none ∧ (b.it ∈ M ∨ sE.heap.get? b.it = none)) (hres : H0.get? res = none ∧ (res ∈ M ∨ sE.heap.get? res = none)) (hz : z.natAbs ≤ 2 ^ 45) (hN : b.rows.length < 2 ^ 20)
    (hroom : A.depth + 5 < recursionLimit) (hh : A.handled = none) (hE : PassesOwn (model prog w) (A.deeper (envOf "_rank" dRank.2.2 L a.rank cdv)) (envOf "_rank" dRank.2.2 L a.rank cdv) E)
    (k : ∀ j' s', j < j' → RInv a b κ H0 (A.deeper (envOf "_rank" dRank.2.2 L a.rank cdv)) (envOf "_rank" dRank.2.2 L a.rank cdv :: l) M sE L res z j' s' → Qf .next s') :
    wpAny (model prog w) (A.deeper (envOf "_rank" dRank.2.2 L a.rank cdv)) (assign (.Tuple [.Name "_" pu, .Name "g" pg] x1 pt) (envOf "_rank" dRank.2.2 L a.rank cdv) (.ref t)) (fun _ s₂ => wpAny (model prog w) (A.deeper (envOf "_rank" dRank.2.2 L a.rank cdv)) (execs rankBody (envOf "_rank" dRank.2.2 L a.rank cdv)) Qf E s₂) E s := by
  have hjN : j < b.rows.length := (List.getElem?_eq_some_iff.mp hq).1
  have htE : sE.toks ≤ s.toks := C.go.toks
  replace C := C.mark
  refine C.unpack2 0 rfl hh fun s2 C2 => ?_
  have hdg : b.dg ≠ L := fun e => C2.dn (b.x, _) (.tail _ (.tail _ (.tail _ (.head _)))) (by rw [← e])
  have hdi : b.di ≠ L := fun e => C2.dn (b.ig, _) (.tail _ (.tail _ (.tail _ (.tail _ (.tail _ (.tail _ (.head _))))))) (by rw [← e])
  have hdy : dy ≠ L := fun e => C2.dn (y, _) (.tail _ (.head _)) (by rw [← e])
  have C3 := C2.drop ((y, io a.gr dy (b.gr n t₂ q.key)) :: b.led a (b.st (.int n t₁) q.key (.ref q.r) true true true (.int n t₁) q.key) (itO b.lst (j + 1))) (.cons _ (.cons_cons _ (.cons _ (List.Sublist.refl _))))
  refine wpAny_execs_cons (wpAny_Assign_Name (Call_ (C2.boot G F.nlist Boot.«list» (PySem.callWith_type rfl (evalArgs_plain (args_cons (C2.name (v := .ref y) rfl (args_nil ?_))))))))
  refine list_group G F C2.st κ KR hq ⟨C3.has, C3.nodup⟩ hHx.1 hHit.1 (by rw [sizeLine_eq]; lia  ) (by show A.depth + 1 + 3 < _; lia  ) hh fun D j' c' s3 hj1 hj2 hj3 hj4 g3 nD hA => ?_
  have hM3 : ∀ p ∈ [b.x, b.it], p ∈ M ∨ sE.heap.get? p = none := fun p hp => by
    rcases List.mem_cons.mp hp with rfl | hp
    · exact hHx.2
    · rw [List.mem_singleton.mp hp]; exact hHit.2
  have hgrp : Grp κ b.rows j j' := ⟨hj1, hj4, fun q0 m0 q' h1 h2 h3 h4 => by rw [hq] at h1; cases h1; exact hj2 m0 q' h2 h3 h4, fun q0 q' h1 h2 => by rw [hq] at h1; cases h1; exact hj3 q' h2⟩
  -- the ledger after the group
  obtain ⟨sl, ito, hgst, hito, hLg⟩ : ∃ sl ito, GSt b κ j' sl ito ∧ ito.dict = none ∧ Lg s3.heap ([(D, lstO (refs ((b.rows.take j').drop j)) c'), (y, io a.gr dy (b.gr n t₂ q.key))] ++ b.led a sl ito) := by
    rcases hA with ⟨q', h1, h2⟩ | ⟨h1, h2, h3⟩
    · exact ⟨_, _, .inr (.inl ⟨by lia  , q', q, _, n, t₁, h1, List.mem_of_getElem? hq, hj3 q' h1, rfl, rfl⟩), rfl, h2⟩
    · exact ⟨_, _, .inr (.inr ⟨by lia  , h2, _, _, _, rfl, rfl⟩), rfl, h3⟩
  have had : ∀ (sl₁ sl₂ : List (Option Value)) (i₁ i₂ : Obj), (b.led a sl₁ i₁).map (·.1) = (b.led a sl₂ i₂).map (·.1) := fun _ _ _ _ => rfl
  have hxit : res ∉ [b.x, b.it] := fun hm => by
    rcases List.mem_cons.mp hm with e | hm
    · exact C2.ne (i := 2) (j := 3) rfl rfl (by decide) e
    · exact C2.ne (i := 2) (j := 4) rfl rfl (by decide) (List.mem_singleton.mp hm)
  have hresD : res ≠ D := ne_nd (C2.at 2 rfl) nD
  have hn2 : ((D, lstO (refs ((b.rows.take j').drop j)) c') :: b.led a sl ito).map (·.1) |>.Nodup := (hLg.sub (.cons_cons _ (.cons _ (List.Sublist.refl _)))).nodup
  have hresL : res ∉ (b.led a sl ito).map (·.1) := by
    have h0 := C2.nodup
    have h1 : ((res, lstO rv c) :: b.led a (b.st (.int n t₁) q.key (.ref q.r) true true true (.int n t₁) q.key) (itO b.lst (j + 1))).map (·.1) |>.Nodup := h0.sublist ((List.Sublist.cons _ (List.Sublist.cons _ (List.Sublist.refl _))).map _)
    rw [had sl (b.st (.int n t₁) q.key (.ref q.r) true true true (.int n t₁) q.key) ito (itO b.lst (j + 1))]
    exact (List.nodup_cons.mp h1).1
  have C4 := C2.goN g3 hM3 ((res, lstO rv c) :: (D, lstO (refs ((b.rows.take j').drop j)) c') :: b.led a sl ito) (fun p hp => by
    rcases List.mem_cons.mp hp with rfl | hp
    · exact (C2.ok 2 rfl).go g3 hxit
    · rcases List.mem_cons.mp hp with rfl | hp
      · exact hLg.has _ (.head _)
      · exact hLg.has _ (.tail _ (.tail _ hp))) (GB.dn (pre := [(res, lstO rv c), (D, lstO (refs ((b.rows.take j').drop j)) c')]) hdg hdi hito (fun p hp => by
    simp only [List.mem_cons, List.not_mem_nil, or_false] at hp
    rcases hp with rfl | rfl <;> exact fun e => by cases e)) (by
    rw [List.map_cons]
    refine List.nodup_cons.mpr ⟨fun hm => ?_, hn2⟩
    rcases List.mem_cons.mp hm with e | hm
    · exact hresD e
    · exact hresL hm)
  have hlen : (refs ((b.rows.take j').drop j)).length = j' - j := by simp only [refs, List.length_map, List.length_drop, List.length_take]; lia
  refine C4.set fun s5 C5 => ?_
  refine wpAny_execs_cons (wpAny_Assign_Name (Call_ (C5.boot G F.nlen Boot.«len» (callWith_builtin1 (args_cons (C5.name rfl (args_nil (PyProof.Rows.len_list ⟨_, C5.at 1 rfl, rfl, c', rfl⟩ (by rw [List.size_toArray, hlen]; lia  ) ?_))))))))
  have C6 := C5.tok 2
  rw [List.size_toArray, hlen]
  refine C6.set fun s7 C7 => ?_
  have hi7 := upne (n := "size") (x := "i") (v := .int ((j' - j : Nat) : Int) (s5.toks + 1)) (by decide) (upne (n := "group") (v := .ref D) (by decide) (upne2 (n := "g") (n' := "_") (v := .ref y) (v' := q.key) (by decide) (by decide) hmi))
  refine wpAny_execs_cons (wpAny_Assign_Name (wpAny_BinOp (C7.name hi7 (wpAny_BinOp (wpAny_BinOp (C7.name rfl (wpAny_Constant_int (PySem.P.add_int (wpAny_Constant_int (half_size (by lia  ) (num_rank hiv (by lia  ) (by lia  ) ?_)))))))))))
  have ez : z + 2 * (j : Int) + (((j' - j : Nat) : Int) + 1) = z + j + j' + 1 := by grind
  rw [ez]
  have hE7 : s.toks ≤ s7.toks := C7.go.toks
  have C8 := (C7.tok 5).mark
  refine C8.set fun s9 C9 => ?_
  have htk9 : TK (putAll (.float (hf (z + j + j' + 1)) (s7.toks + 4)) ((b.rows.take j').drop j) rv) (s7.toks + 5) :=
    htk.put (Nat.succ_pos _) (Nat.le_trans hE7 (Nat.le_add_right _ _)) (Nat.lt_succ_self _)
  have hpos9 : ∀ q' ∈ (b.rows.take j').drop j, (∃ t, q'.pos = .int (posI q') t) ∧ 0 ≤ posI q' ∧ (posI q').toNat < rv.length := fun q' hq' => by
    obtain ⟨m', _, _, e⟩ := mem_grp hq'
    have hm' := List.mem_of_getElem? e
    exact ⟨P.int q' hm', (hpn q' hm').1, by rw [hrk.1]; exact (hpn q' hm').2⟩
  have hi9 := upne (n := "rank") (x := "i") (v := .float (hf (z + j + j' + 1)) (s7.toks + 4)) (by decide) (upne (n := "size") (v := .int ((j' - j : Nat) : Int) (s5.toks + 1)) (by decide) (upne (n := "group") (v := .ref D) (by decide) (upne2 (n := "g") (n' := "_") (v := .ref y) (v' := q.key) (by decide) (by decide) hmi)))
  have hr9 := upne (n := "rank") (x := "result") (v := .float (hf (z + j + j' + 1)) (s7.toks + 4)) (by decide) (upne (n := "size") (v := .int ((j' - j : Nat) : Int) (s5.toks + 1)) (by decide) (upne (n := "group") (v := .ref D) (by decide) (upne2 (n := "g") (n' := "_") (v := .ref y) (v' := q.key) (by decide) (by decide) hmr)))
  refine wpAny_execs_cons (assign_loop (vn := "value") (pn := "orig_pos") (dn := "group") (rn := "result") (kn := "rank") (rk := .float (hf (z + j + j' + 1)) (s7.toks + 4)) C9 0 rfl (fun q' hq' => ?_) hr9 rfl rfl hpos9 (by rw [hrk.1]; lia  ) hres.2 hres.1 hh hE fun m' c9 s10 C10 hm10 => ?_)
  · obtain ⟨m', _, _, e⟩ := mem_grp hq'
    exact .tail _ (.tail _ (.tail _ (.tail _ (.tail _ (.tail _ (List.mem_map.mpr ⟨q', List.mem_of_getElem? e, rfl⟩))))))
  have hi10 : m' "i" = some iv := (hm10 "i" (by decide) (by decide)).trans hi9
  have hs10 : m' "size" = some (.int ((j' - j : Nat) : Int) (s5.toks + 1)) := (hm10 "size" (by decide) (by decide)).trans rfl
  have hr10 : m' "result" = some (.ref res) := (hm10 "result" (by decide) (by decide)).trans hr9
  refine wpAny_execs_cons (wpAny_AugAssign_Name (C10.ld (env := envOf "_rank" dRank.2.2 L a.rank cdv) rfl hi10 (C10.name hs10 (num_step hiv (by lia  ) (by lia  ) fun r hr => ?_))))
  have C11 := C10.tok 1
  refine C11.set fun s12 C12 => wpAny_execs_nil (k j' s12 hj1 ?_)
  have hnr : (b.rows.map (·.r)).Nodup := by
    have h0 : (rowL b.rows).map (·.1) |>.Nodup := C12.nodup.sublist ((List.Sublist.cons _ (List.Sublist.cons _ (List.Sublist.cons _ (List.Sublist.cons _ (List.Sublist.cons _ (List.Sublist.cons _ (List.Sublist.cons _ (List.Sublist.refl _)))))))).map _)
    unfold rowL at h0
    rw [List.map_map] at h0
    exact h0
  refine ⟨updM m' (Str.ofString "i") r, _, c9, r, sl, ito, upne (n := "i") (x := "result") (v := r) (by decide) hr10, rfl, ?_, hj4, .inr ⟨j, hgrp⟩, hgst, hrk.step P hnr hpn hup hgrp (t := s7.toks + 4), htk9.mono C12.go.toks, Cx.unmark (sE := sE) (n := s7.toks + 5) (C12.drop _ (.cons_cons _ (.cons _ (List.Sublist.refl _)))) (Nat.le_trans htE (Nat.le_trans hE7 (Nat.le_add_right _ _)))⟩
  have e : z + 2 * (j : Int) + 2 * ((j' - j : Nat) : Int) = z + 2 * (j' : Int) := by lia
  rw [← e]; exact hr
end
end Mine
end
section
set_option maxRecDepth 100000
set_option autoImplicit false
namespace Mine
open PySem PySem.W PySem.Calls PyProof.Rows PySem.Spec
section
variable {H0 : Heap} {A : Around} {l : List Env} {M : List Addr} {sE : Shared} {L : Addr} {m : Str → Option Value} {led led0 : List (Addr × Obj)} {s s0 : Shared}
theorem Cx.addF (C1 : Cx H0 A l M sE L m led s) {m0 : Str → Option Value} (C0 : Cx H0 A l M sE L m0 led0 s0) (hs : led.map (·.1) = led0.map (·.1)) {t : Addr} {o : Obj} (ht : Okk s.heap (t, o)) (nt : s0.heap.get? t = none) (hd : ∀ dx, o.dict = some dx → s0.heap.get? dx = none := by intro _ q; cases q) :
    Cx H0 A l M sE L m ((t, o) :: led) s := by
  refine C1.add ht (fun p hp => ?_) (C0.notL hd)
  have hm : p.1 ∈ led.map (·.1) := List.mem_map_of_mem hp
  rw [hs] at hm
  obtain ⟨q, hq, e⟩ := List.mem_map.mp hm
  rw [← e]; exact C0.neN nt q hq
end

section
variable {K : Frag} {a : Adr} {κ : KeyOps} {H0 : Heap} {mg mb : Str → Option Value} {A : Around} {l : List Env} {M : List Addr} {sE : Shared} {L res : Addr} {s : Shared} {prog : Program} {w : World} {E : Value → Shared → Prop} {cdv : Value} {z : Int}

set_option maxHeartbeats 4000000 in
noncomputable abbrev RI (a : Adr) (b : GB) (κ : KeyOps) (H0 : Heap) (A : Around) (l : List Env) (M : List Addr) (sE : Shared) (L res : Addr) (z : Int) : Nat → Shared → Prop := fun n' s' => ∃ j, n' = b.rows.length + 1 - j ∧ RInv a b κ H0 A l M sE L res z j s'
theorem rank_loop (G : Gl K H0 mg mb) (F : KF K a) {b : GB} (KR : KeyR κ b.rows) (P : PosR b.rows) (hpn : ∀ q ∈ b.rows, 0 ≤ posI q ∧ (posI q).toNat < b.rows.length) {x1 : Nat} {pu pg pt : Pos} {R : Result → Shared → Prop}
    (hI : RInv a b κ H0 (A.deeper (envOf "_rank" dRank.2.2 L a.rank cdv)) (envOf "_rank" dRank.2.2 L a.rank cdv :: l) M sE L res z 0 s)
    (hHx : H0.get? b.x = none ∧ (b.x ∈ M ∨ sE.heap.get? b.x = none)) (hHit : H0.get? b.it = none ∧ (b.it ∈ M ∨ sE.heap.get? b.it = none)) (hres : H0.get? res = none ∧ (res ∈ M ∨ sE.heap.get? res = none)) (hz : z.natAbs ≤ 2 ^ 45) (hN : b.rows.length < 2 ^ 20)
    (hroom : A.depth + 5 < recursionLimit) (hh : A.handled = none) (hE : PassesOwn (model prog w) (A.deeper (envOf "_rank" dRank.2.2 L a.rank cdv)) (envOf "_rank" dRank.2.2 L a.rank cdv) E)
    (k : ∀ m rv c led s', m "result" = some (.ref res) → RK κ b.rows z b.rows.length rv → TK rv s'.toks → Cx H0 (A.deeper (envOf "_rank" dRank.2.2 L a.rank cdv)) (envOf "_rank" dRank.2.2 L a.rank cdv :: l) M sE L m ((res, lstO rv c) :: led) s' → R (.ok .next) s')
    (kE : ∀ e s', cameBackBy (model prog w) (A.deeper (envOf "_rank" dRank.2.2 L a.rank cdv)) (envOf "_rank" dRank.2.2 L a.rank cdv) E e s' → R (.error e) s') :
    codeAny (model prog w) (A.deeper (envOf "_rank" dRank.2.2 L a.rank cdv)) (.forLoop (.Tuple [.Name "_" pu, .Name "g" pg] x1 pt) (.ref b.x) rankBody [] (envOf "_rank" dRank.2.2 L a.rank cdv)) R s := by
  have toE : ∀ {α : Type} {t : Sem α} {Q : α → Shared → Prop} {s : Shared}, wpAny (model prog w) (A.deeper (envOf "_rank" dRank.2.2 L a.rank cdv)) t Q E s →
      wpAny (model prog w) (A.deeper (envOf "_rank" dRank.2.2 L a.rank cdv)) t Q (eNote prog w (A.deeper (envOf "_rank" dRank.2.2 L a.rank cdv)) (envOf "_rank" dRank.2.2 L a.rank cdv) R) s := fun {α t Q s} h =>
    wpAny_mono (wpAny_passesOwn hE h) (fun _ _ z => z) fun e s' h => wpAny_mono h (fun _ s'' h' => kE e s'' h') fun e' s'' h' => kE e' s'' h'
  refine codeAny_forLoop_any (RI a b κ H0 (A.deeper (envOf "_rank" dRank.2.2 L a.rank cdv)) (envOf "_rank" dRank.2.2 L a.rank cdv :: l) M sE L res z) ?_ (b.rows.length + 1) ⟨0, rfl, hI⟩
  rintro n' s1 ⟨j, rfl, m, rv, c, iv, sl, ito, hmr, hmi, hiv, hjN, hup, hg, hrk, htk, C⟩
  have next : ∀ j' s', j < j' → RInv a b κ H0 (A.deeper (envOf "_rank" dRank.2.2 L a.rank cdv)) (envOf "_rank" dRank.2.2 L a.rank cdv :: l) M sE L res z j' s' → ∃ n, n < b.rows.length + 1 - j ∧ RI a b κ H0 (A.deeper (envOf "_rank" dRank.2.2 L a.rank cdv)) (envOf "_rank" dRank.2.2 L a.rank cdv :: l) M sE L res z n s' := by
    intro j' s' h1 h2
    have : j' ≤ b.rows.length := by obtain ⟨_, _, _, _, _, _, _, _, _, h, _⟩ := h2; exact h
    exact ⟨b.rows.length + 1 - j', by grind, j', rfl, h2⟩
  have turn : ∀ {q : Row} {n : Int} {t₁ t₂ : Tok} {y dy t : Addr} {s2 : Shared} {iv' : Value}, b.rows[j]? = some q → s1.toks ≤ s2.toks →
      Cx H0 (A.deeper (envOf "_rank" dRank.2.2 L a.rank cdv)) (envOf "_rank" dRank.2.2 L a.rank cdv :: l) M sE L m ((t, tupO [q.key, .ref y]) :: (y, io a.gr dy (b.gr n t₂ q.key)) :: (res, lstO rv c) :: b.led a (b.st (.int n t₁) q.key (.ref q.r) true true true (.int n t₁) q.key) (itO b.lst (j + 1))) s2 →
      wpAny (model prog w) (A.deeper (envOf "_rank" dRank.2.2 L a.rank cdv)) (letOwnedTupleGo (.Tuple [.Name "_" pu, .Name "g" pg] x1 pt) (.ref b.x) (.ref t)) (qTake prog w (A.deeper (envOf "_rank" dRank.2.2 L a.rank cdv)) (.Tuple [.Name "_" pu, .Name "g" pg] x1 pt) rankBody (envOf "_rank" dRank.2.2 L a.rank cdv) (RI a b κ H0 (A.deeper (envOf "_rank" dRank.2.2 L a.rank cdv)) (envOf "_rank" dRank.2.2 L a.rank cdv :: l) M sE L res z) (b.rows.length + 1 - j) R (.ref t)) (eNote prog w (A.deeper (envOf "_rank" dRank.2.2 L a.rank cdv)) (envOf "_rank" dRank.2.2 L a.rank cdv) R) s2 := by
    intro q n t₁ t₂ y dy t s2 _ hq htk2 C2
    refine own_inst (C2.at 3 rfl) ?_
    refine toE (wpAny_mono (rank_turn G F KR P hpn hq hup hmr hmi hiv hrk (htk.mono htk2) C2 hHx hHit hres hz hN hroom hh hE
      (Qf := qTurn (RI a b κ H0 (A.deeper (envOf "_rank" dRank.2.2 L a.rank cdv)) (envOf "_rank" dRank.2.2 L a.rank cdv :: l) M sE L res z) (b.rows.length + 1 - j) R) next) (fun _ s3 h3 => toE h3) fun _ _ z => z)
  have hM3 : ∀ p ∈ [b.x, b.it], p ∈ M ∨ sE.heap.get? p = none := fun p hp => by
    rcases List.mem_cons.mp hp with rfl | hp
    · exact hHx.2
    · rw [List.mem_singleton.mp hp]; exact hHit.2
  have fin : ∀ {M' : List Addr} {e : Addr} {a0 : Value} {led' : List (Addr × Obj)} {s' : Shared}, j = b.rows.length → Fly H0 M' s1 (envOf "_rank" dRank.2.2 L a.rank cdv :: l) e (.type "StopIteration") a0 led' s' → (∀ p ∈ M', p ∈ [b.x, b.it]) → R (.ok .next) s' := by
    intro M' e a0 led' s' hj Fl hM'
    have C2 := C.drop [(res, lstO rv c)] (.cons_cons _ (List.nil_sublist _))
    have C3 := C2.goN Fl.go (fun p hp => hM3 p (hM' p hp)) [(res, lstO rv c)] (fun p hp => by
      rw [List.mem_singleton.mp hp]
      refine (C2.ok 0 rfl).go Fl.go (fun hm => ?_)
      rcases List.mem_cons.mp (hM' _ hm) with e | h
      · exact C.ne (i := 0) (j := 1) rfl rfl (by decide) e
      · exact C.ne (i := 0) (j := 2) rfl rfl (by decide) (List.mem_singleton.mp h)) C2.dn C2.nodup
    exact k m rv c [] s' hmr (by rw [← hj]; exact hrk) (htk.mono Fl.toks) C3
  rcases hg with ⟨rfl, t, u, rfl, rfl⟩ | ⟨hj0, q, qp, cg, n, t, hq, hqp, hne, rfl, rfl⟩ | ⟨hj0, hjl, cg, se, key, rfl, rfl⟩
  · cases hq : b.rows[0]? with
    | none =>
      refine next_inst (C.st.X G) (C.ok 1 rfl) F.mgbN ?_
      have hN0 : 0 = b.rows.length := by have := List.getElem?_eq_none_iff.mp hq; lia
      refine gbNext_end G F C.st (C.ok 1 rfl) (C.at 2 rfl) (C.at 3 rfl) hHx.1 hHit.1 (refs_none hq) (by show A.depth + 1 + 2 < _; lia  ) hh fun e a0 s2 F2 => ?_
      exact stop_fly F2 (wpAny_execs_nil (fin hN0 F2 fun p hp => hp))
    | some q =>
      have hqm := List.mem_of_getElem? hq
      have Z := Lg.step (K := K) (H0 := H0) (s := s1) (pre := [(res, lstO rv c)]) (i := 0) (q := q) ⟨C.has, C.nodup⟩ hq hHx.1 hHit.1
      refine next_inst (C.st.X G) (C.ok 1 rfl) F.mgbN ?_
      refine gbNext_first G F C.st Z (κ.hd _ (KR.all q hqm).1) (by show A.depth + 1 + 3 < _; lia  ) hh fun y dy t u' s2 g2 ox hit oy ot ny ndy nt hyt => ?_
      have C2 := C.callAt2 1 2 rfl rfl (by decide) g2 ox (okk_it hit) hM3 rfl rfl
      have C3 := C2.addF C (by rw [set_map_fst (i := 2) rfl, set_map_fst (i := 1) rfl]) oy ny (hd := fun dx e => by cases e; exact ndy)
      have C4 := C3.add ot (fun p hp => by
        rcases List.mem_cons.mp hp with rfl | hp
        · exact hyt
        · have hm : p.1 ∈ _ := List.mem_map_of_mem (f := (·.1)) hp
          rw [set_map_fst (i := 2) rfl, set_map_fst (i := 1) rfl] at hm
          obtain ⟨p', hp', e⟩ := List.mem_map.mp hm
          rw [← e]; exact C.neN nt p' hp') (by intro e; cases e)
      exact turn (iv' := iv) hq g2.toks C4
  · refine next_inst (C.st.X G) (C.ok 1 rfl) F.mgbN ?_
    have hqm := List.mem_of_getElem? hq
    have C0 := C.drop (b.led a (b.st cg q.key (.ref q.r) true true true (.int n t) qp.key) (itO b.lst (j + 1))) (.cons _ (List.Sublist.refl _))
    refine gbNext_more G F C.st κ C0.has C0.nodup hHx.1 (KR.all q hqm).1 (KR.all qp hqp).1 (KR.all q hqm).2 (KR.all qp hqp).2 (KR.tok qp hqp q hqm) hne (κ.hd _ (KR.all q hqm).1) (κ.hd _ (KR.all qp hqp).1) (by show A.depth + 1 + 2 < _; lia  ) fun y dy t' u' s2 g2 ox oy ot hl ny ndy nt hyt => ?_
    have C2 := C.callAt 1 rfl g2 ox hHx.2 (C.dn (b.x, io a.gb b.dg (b.st cg q.key (.ref q.r) true true true (.int n t) qp.key)) (.tail _ (.head _)))
    have C3 := C2.addF C (by rw [set_map_fst (i := 1) rfl]) oy ny (hd := fun dx e => by cases e; exact ndy)
    have C4 := C3.add ot (fun p hp => by
      rcases List.mem_cons.mp hp with rfl | hp
      · exact hyt
      · have hm : p.1 ∈ _ := List.mem_map_of_mem (f := (·.1)) hp
        rw [set_map_fst (i := 1) rfl] at hm
        obtain ⟨p', hp', e⟩ := List.mem_map.mp hm
        rw [← e]; exact C.neN nt p' hp') (by intro e; cases e)
    exact turn (iv' := iv) hq g2.toks C4
  · refine next_inst (C.st.X G) (C.ok 1 rfl) F.mgbN ?_
    refine gbNext_endE G F C.st (C.ok 1 rfl) (C.at 2 rfl) hHx.1 (by show A.depth + 1 + 2 < _; lia  ) hh fun e a0 s2 F2 => ?_
    exact stop_fly F2 (wpAny_execs_nil (fin hjl F2 fun p hp => by rw [List.mem_singleton.mp hp]; exact .head _))
end
end Mine
end
section
set_option maxRecDepth 100000
set_option autoImplicit false
namespace Mine
open PySem PySem.W PySem.Calls PyProof.Rows PySem.Spec
section
variable {prog : Program} {w : World} {A : Around} {E : Value → Shared → Prop} {s : Shared}
theorem mul_list1 {l : Addr} {v : Value} {n : Nat} {x : Int} {u : Tok} {Q : Value → Shared → Prop} (hl : s.heap.get? l = some (lstO [v])) (hx : x = (n : Int)) (hn : n ≤ 1000)
    (h : Q (.ref s.heap.objs.size) { s with heap := s.heap.push (lstO (List.replicate n v)) }) : wpAny (model prog w) A (binaryOp .Mult (.ref l) (.int x u)) Q E s := by
  have hxn : x.toNat = n := by rw [hx]; rfl
  have e : List.foldl (fun x1 x2 => x1 ++ x2) (#[] : Array Value) (List.replicate (if ([v] : List Value).toArray.isEmpty = true then 0 else x.toNat) [v].toArray) = (List.replicate n v).toArray := by
    rw [listMul_foldl_if]
    have : ∀ k : Nat, (List.replicate k [v]).flatten = List.replicate k v := fun k => by
      induction k with
      | zero => rfl
      | succ k ih => rw [List.replicate_succ, List.flatten_cons, ih]; rfl
    show ((List.replicate x.toNat [v]).flatten).toArray = _
    rw [this, hxn]
  have h63 : ((2 : Nat) ^ 63 - 1) / 8 = 1152921504606846975 := by decide
  have c1 : ¬(!Builtin.List.listFitsIndex x) = true := by
    have : Builtin.List.listFitsIndex x = true := fitsIndex_of (by lia  ) (by have : (1000 : Int) < 2 ^ 63 := by decide
                                                                              lia  )
    rw [this]; decide
  have c2 : ¬([v] : List Value).toArray.size * x.toNat > (2 ^ 63 - 1) / 8 := by rw [h63, hxn]; show ¬ 1 * n > _; lia
  have c3 : ¬Builtin.List.listTooLong (([v] : List Value).toArray.size * x.toNat) = true := by
    rw [hxn]; show ¬ Builtin.List.listTooLong (1 * n) = true
    simp only [Builtin.List.listTooLong, sizeLine_eq, decide_eq_true_eq]; lia
  clear hx
  refine wpAny_binaryOp_repeat_ref (T := "list") (U := "int") (by decide) ⟨_, hl, rfl⟩ (fun s' => typeIs_int s' x u) noFill_list_mul PySem.F.fills_int_mul PySem.F.slot_int_rmul repeat_list PySem.F.slot_int_index.lookup
    (call_meets PySem.F.slot_int_rmul (typeIs_int s x u) PySem.F.entry_int_rmul (PySem.F.args_int_rmul_2 _ _) (int___rmul___int_list x u l _ 0) ⟨hl, rfl, ⟨_, hl, rfl⟩, ?_⟩)
  refine call_meets PySem.F.slot_list_mul ⟨_, hl, rfl⟩ PySem.F.entry_list_mul (PySem.F.args_list_mul_2 _ _) (AutoListH.list___mul___list_int_3 l _ 0 x u c1 c2 c3) ⟨hl, ?_⟩
  rw [e]; exact h
end
end Mine
end
section
set_option maxRecDepth 100000
set_option autoImplicit false
namespace Mine
open PySem PySem.W PySem.Calls PyProof.Rows PySem.Spec
section
variable {H0 : Heap} {A : Around} {l : List Env} {M : List Addr} {sE : Shared} {L : Addr} {m m' : Str → Option Value} {led led' : List (Addr × Obj)} {s s' : Shared}

noncomputable def wiped (s : Shared) (L : Addr) : Shared := { s with heap := s.heap.update L fun o => { o with data := .freed } }
theorem wiped_at {L b : Addr} {o : Obj} (h : (wiped s L).heap.get? b = some o) : b ≠ L ∧ s.heap.get? b = some o := by
  by_cases e : b = L
  · subst e
    exfalso
    unfold wiped at h
    simp only [Heap.update, Heap.get?, Array.getElem?_modify] at h
    cases q : s.heap.objs[b]? with
    | none => simp [q] at h
    | some o' => simp [q] at h
  · refine ⟨e, ?_⟩
    rw [← h]; exact (Heap.get?_update_other _ _ (fun q => e q.symm)).symm
theorem wiped_of {L b : Addr} (e : b ≠ L) : (wiped s L).heap.get? b = s.heap.get? b := Heap.get?_update_other _ _ (fun q => e q.symm)
theorem wiped_none {L : Addr} : (wiped s L).heap.get? L = none := by
  cases q : (wiped s L).heap.get? L with
  | none => rfl
  | some o => exact absurd rfl (wiped_at q).1
theorem Cx.rebase (C : Cx H0 A l M sE L m led s) : Cx H0 A l [] (wiped s L) L m led s :=
  { C with
    go := ⟨fun _ => C.st.glob, fun b o e _ _ => (wiped_at e).2, fun b o _ _ e _ => ⟨o.slots, (wiped_at e).2⟩, fun b o e hn => ⟨o, (wiped_at e).2, hn⟩, Nat.le_refl _, fun h => h, rfl⟩
    new := wiped_none }
theorem Cx.unbase (C : Cx H0 A l M sE L m led s) (C' : Cx H0 A l [] (wiped s L) L m' led' s') : Cx H0 A l M sE L m' led' s' := by
  have ne : ∀ {b o}, sE.heap.get? b = some o → b ≠ L := fun e q => by rw [q, C.new] at e; cases e
  refine { C' with
    new := C.new
    go := ⟨fun _ => C'.st.glob, fun b o e hm hn => C'.go.nd b o ((wiped_of (ne e)).trans (C.go.nd b o e hm hn)) (fun h => nomatch h) hn, fun b o es n e hd => ?_, fun b o e hn => ?_, Nat.le_trans C.go.toks C'.go.toks, fun h => C'.go.gens (C.go.gens h), C'.go.os.trans C.go.os⟩ }
  · obtain ⟨sl, h1⟩ := C.go.up b o es n e hd
    obtain ⟨sl', h2⟩ := C'.go.up b _ es n ((wiped_of (ne e)).trans h1) hd
    exact ⟨sl', h2⟩
  · obtain ⟨o', h1, h2⟩ := C.go.pres b o e hn
    exact C'.go.pres b o' ((wiped_of (ne e)).trans h1) h2
theorem Cx.frame (C' : Cx H0 A l [] (wiped s L) L m' led' s') {p : Addr × Obj} (h : Okk s.heap p) (hL : p.1 ≠ L) (hd : p.2.dict ≠ some L) : Okk s'.heap p := by
  have : Okk (wiped s L).heap p := ⟨(wiped_of hL).trans h.at_, h.nd, fun dx e => by
    obtain ⟨o, h1, h2⟩ := h.dx dx e
    exact ⟨o, (wiped_of (fun q => hd (by rw [e, q]))).trans h1, h2⟩⟩
  exact this.go C'.go (fun h => nomatch h)
theorem Cx.neL (C : Cx H0 A l M sE L m led s) {p : Addr × Obj} (h : Okk s.heap p) : p.1 ≠ L := fun e => by
  obtain ⟨o, es, n, h1, h2⟩ := ns_dict C.ns
  have := h.at_
  rw [e, h1] at this; cases this
  exact h.nd _ _ h2
end

structure Drawn (prog : Program) (w : World) (H0 : Heap) (A : Around) (l : List Env) (κ : KeyOps) (v : Value) (d n : Nat) (M : List Addr) (sE s0 s : Shared) (I : Addr) (own chg : List Addr) (Inv Fi : List Value → Shared → Prop) : Prop where
  src : Src prog w H0 l d I own chg n Inv Fi
  own : ∀ p ∈ own, s.heap.get? p = none ∨ ∃ o, s0.heap.get? p = some o
  chg : ∀ p ∈ chg, p ∈ M ∨ sE.heap.get? p = none
  hit : ∀ (A' : Around) (Q : Value → Shared → Prop) (E : Value → Shared → Prop), A'.handled = A.handled → A'.depth = A.depth → A'.frames = A.frames → (∀ s1, Go H0 [] s s1 → Inv [] s1 → Q (.ref I) s1) → wpAny (model prog w) A' (pyIter v) Q E s
  keys : ∀ (rows : List Row) s', rows.length = n → Fi (rows.map (·.key)) s' → KeyR κ rows
end Mine
end
section
set_option maxRecDepth 100000
set_option autoImplicit false
namespace Mine
open PySem PySem.W PySem.Calls PyProof.Rows PySem.Spec
section
variable {K : Frag} {a : Adr} {κ : KeyOps} {H0 : Heap} {mg mb : Str → Option Value} {A : Around} {l : List Env} {M : List Addr} {sE : Shared} {L : Addr} {m : Str → Option Value} {led : List (Addr × Obj)} {s : Shared} {prog : Program} {w : World} {E : Value → Shared → Prop} {cdv : Value} {z : Int}

theorem perm7 {α : Type} {a b c d e f g : α} {r : List α} : (e :: b :: a :: g :: d :: c :: f :: r).Perm (a :: b :: c :: d :: e :: f :: g :: r) := by
  haveI : DecidableEq α := fun a b => Classical.propDecidable (a = b)
  refine List.perm_iff_count.mpr fun p => ?_
  simp only [List.count_cons]
  lia
theorem Cx.perm (C : Cx H0 A l M sE L m led s) {led' : List (Addr × Obj)} (h : led'.Perm led) : Cx H0 A l M sE L m led' s :=
  { C with has := fun p hp => C.has p (h.mem_iff.mp hp), dn := fun p hp => C.dn p (h.mem_iff.mp hp), nodup := (h.map _).nodup_iff.mpr C.nodup }

set_option maxHeartbeats 4000000 in
theorem rank_tail (G : Gl K H0 mg mb) (F : KF K a) {v sv : Value} {rv : Bool} {n d : Nat} {P : List Value → Shared → Prop} {Qf : Flow → Shared → Prop}
    (C : Cx H0 (A.deeper (envOf "_rank" dRank.2.2 L a.rank cdv)) (envOf "_rank" dRank.2.2 L a.rank cdv :: l) M sE L m led s)
    (hmd : m "data" = some v) (hmv : m "reverse" = some (.bool rv)) (hms : m "start" = some sv) (hsv : NumV sv (z + 2)) (hz : z.natAbs ≤ 2 ^ 45) (hn : n < 64)
    (draw : ∀ s1, Go H0 [] s s1 → ∃ I own chg Inv Fi, Drawn prog w H0 (A.deeper (envOf "_rank" dRank.2.2 L a.rank cdv)) (envOf "_rank" dRank.2.2 L a.rank cdv :: l) κ v d n M sE s s1 I own chg Inv Fi ∧ ∀ acc s', Fi acc s' → P acc s')
    (hroom : A.depth + 5 + d < recursionLimit) (hh : A.handled = none) (hE : PassesOwn (model prog w) (A.deeper (envOf "_rank" dRank.2.2 L a.rank cdv)) (envOf "_rank" dRank.2.2 L a.rank cdv) E)
    (k : ∀ m' res rvals c (rows rows' : List Row) s2 s', rows.length = n → (∀ (j : Nat) (q : Row), rows[j]? = some q → ∃ t, q.pos = .int j t) → P (rows.map (·.key)) s2 → KeyR κ rows → rows'.Perm rows → OrdR κ rv rows' → RK κ rows' z n rvals → TK rvals s'.toks →
      Cx H0 (A.deeper (envOf "_rank" dRank.2.2 L a.rank cdv)) (envOf "_rank" dRank.2.2 L a.rank cdv :: l) M sE L m' [(res, lstO rvals c)] s' → Nw H0 sE res → (∀ p, Okk s2.heap p → p.2.dict ≠ some L → Okk s'.heap p ∧ p.1 ≠ res) → Qf (.ret (.ref res)) s') :
    wpAny (model prog w) (A.deeper (envOf "_rank" dRank.2.2 L a.rank cdv)) (execs (dRank.2.1.drop 2) (envOf "_rank" dRank.2.2 L a.rank cdv)) Qf E s := by
  refine wpAny_execs_cons (wpAny_Assign_Name (wpAny_Call_Name_kw ?_))
  refine C.boot G F.nsorted Boot.sorted (callWith_kw (args_cons (Call_ ?_)))
  refine C.boot G F.nzip Boot.zip (PySem.callWith_type rfl (evalArgs_plain (args_cons (C.name hmd (args_cons (Call_ ?_))))))
  refine C.global G F.nct (callWith_K0 (C.st.X G) F.kct (wpAny_call (ct_make G F C.st (by show A.depth + 1 + 2 < _; lia  ) fun ct dct t u s1 g1 oct nct ndct => args_nil ?_)))
  have C1 := C.call g1
  obtain ⟨I, own, chg, Inv, Fi, D, hFi⟩ := draw s1 g1
  have hcto : ct ∉ own := fun hm => (D.own ct hm).elim (fun e => by have := oct.at_; rw [e] at this; cases this) fun ⟨o, e⟩ => by rw [nct] at e; cases e
  have nwct := C.noE nct
  refine zip_make G F C1.st D.src oct nwct.h hcto (by show A.depth + 1 < _; lia  ) D.hit fun b s2 hb1 hb2 hb3 g2 Z nz hbH => ?_
  have C2 := C1.call g2
  refine args_nil (kws_cons (C2.name hmv (kws_nil ?_)))
  rw [← hb1] at hcto nwct
  have hbz : ∀ p ∈ [b.z, b.TI, b.TO], Nw H0 sE p := fun p hp => C1.noE (nz p hp)
  have hM : ∀ p ∈ b.M chg, p ∈ M ∨ sE.heap.get? p = none := fun p hp => by
    simp only [ZA.M, List.mem_cons] at hp
    rcases hp with rfl | rfl | rfl | hp
    · exact .inr (hbz _ (by simp)).e
    · exact .inr (hbz _ (by simp)).e
    · exact .inr nwct.e
    · exact D.chg p hp
  subst hb3
  refine sorted_zip G F C2.st κ D.src Z hbH hn hh (by show A.depth + 1 + d < _; lia  ) (by show A.depth + 1 < _; lia  ) D.keys fun dl rows rows' n' s3 hN hpos hfi hperm hord g3 L3 nrow ndl => ?_
  have KR := D.keys rows s3 hN hfi
  have C3 := C2.goN g3 hM _ L3.has (fun p hp => by
    rcases List.mem_cons.mp hp with rfl | hp
    · exact fun e => by cases e
    · obtain ⟨q, _, rfl⟩ := List.mem_map.mp hp
      exact fun e => by cases e) L3.nodup
  have CR := C3.rebase
  refine CR.set fun s4 CB => ?_
  refine wpAny_execs_cons (wpAny_Assign_Name (wpAny_BinOp (CB.name (upne (n := "val_pos") (x := "start") (v := .ref dl) (by decide) hms) (wpAny_Constant_int (num_sub1 hsv (by grind) fun iv hiv => ?_)))))
  have CB1 := CB.tok 2
  refine CB1.set fun s5 C5 => ?_
  have hNr : rows'.length = n := by rw [hperm.length_eq]; exact hN
  have hlen : (refs rows').length = n := by simp [refs, hNr]
  refine wpAny_execs_cons (wpAny_Assign_Name (wpAny_BinOp (lst_made (args_cons (wpAny_Constant_int (args_nil ?_))))))
  refine ⟨H0, _, _, [], wiped s3 L, L, _, _, C5.tok 1, by rw [sizeLine_eq]; show 1 ≤ _; decide, fun t0 s6 C6 nt0 nt0' => ?_⟩
  refine Call_ (C6.boot G F.nlen Boot.«len» (callWith_builtin1 (args_cons (C6.name rfl (args_nil (PyProof.Rows.len_list ⟨_, C6.at 1 rfl, rfl, _, rfl⟩ (by rw [List.size_toArray, hlen]; lia  ) ?_))))))
  have C7 := C6.tok 2
  rw [List.size_toArray, hlen]
  refine mul_list1 (n := n) (C7.at 0 rfl) rfl (by lia  ) ?_
  have C8 := C7.push (lstO (List.replicate n (.int 0 (s5.toks)))) rfl nd_seq rfl
  have nwr := C7.noE not_at
  show wpAny _ _ (storeName _ _ (.ref s6.heap.objs.size)) _ _ _
  change Nw H0 (wiped s3 L) s6.heap.objs.size at nwr
  change Cx _ _ _ _ _ _ _ ((s6.heap.objs.size, _) :: _) _ at C8
  generalize s6.heap.objs.size = res at C8 nwr ⊢
  have nresE : sE.heap.get? res = none := by
    cases q : sE.heap.get? res with
    | none => rfl
    | some o =>
      obtain ⟨o', h1⟩ := C3.go.there _ _ q
      have : res ≠ L := fun e => by rw [e, C3.new] at q; cases q
      have h2 := (wiped_of (s := s3) this).trans h1
      rw [nwr.e] at h2; cases h2
  have nres : Nw H0 sE res := ⟨nresE, nwr.h⟩
  refine C8.set fun s9 C9 => ?_
  refine wpAny_execs_cons (wpAny_For ?_)
  refine wpAny_Call_Name_kw (C9.global G F.ngb (callWith_KW (C9.st.X G) F.kgb rfl (args_cons (C9.name (v := .ref dl) rfl (args_nil (kws_cons ?_))))))
  refine C9.callFn G F.nig F.kig (args_cons (wpAny_Constant_int (args_nil ⟨(C9.tok 1).st.X G, wpAny_call (ig_make G F (C9.tok 1).st (by show A.depth + 1 + 1 < _; lia  ) fun ig di tp s10 g10 oig otp nig ndig ntp hitp => kws_nil ?_)⟩)))
  have D1 := (C9.tok 1).callN g10 oig nig (fun dx e => by cases e; exact ndig)
  have D2 := D1.add (okk_tup otp) (fun p hp => by
    rcases List.mem_cons.mp hp with rfl | hp
    · exact hitp
    · exact (C9.tok 1).neN ntp p hp) (by intro e; cases e)
  refine ⟨D2.st.X G, wpAny_call (gb_make G F D2.st (D2.at 4 rfl) (by show A.depth + 1 + 1 < _; lia  ) fun x dx it t1 u1 s11 g11 ox oit nx ndx nit hxit => ?_)⟩
  have D3 := D2.callN g11 ox nx (fun dx e => by cases e; exact ndx)
  have D4 := D3.add (okk_it oit) (fun p hp => by
    rcases List.mem_cons.mp hp with rfl | hp
    · exact hxit
    · exact D2.neN nit p hp) (by intro e; cases e)
  have nwx := D2.noE nx
  have nwit := D2.noE nit
  have hxO : Okk s11.heap (x, _) := ox
  refine iter_inst (D4.st.X G) ox F.mgbT F.mgbN (gbIter_spec G F D4.st (by show A.depth + 1 < _; lia  ) fun s12 g12 => ⟨rfl, (D4.st.go g12).X G, ox.go g12 (fun h => nomatch h), ?_⟩)
  have D5 := D4.call g12
  have PR : PosR rows := rowsPos hpos
  have PR' : PosR rows' := ⟨fun q hq => PR.int q (hperm.mem_iff.mp hq), fun q hq q' hq' => PR.ne q (hperm.mem_iff.mp hq) q' (hperm.mem_iff.mp hq')⟩
  have hpn : ∀ q ∈ rows', 0 ≤ posI q ∧ (posI q).toNat < rows'.length := fun q hq => by
    obtain ⟨j, hj, e⟩ := List.mem_iff_getElem.mp (hperm.mem_iff.mp hq)
    obtain ⟨t', ht'⟩ := hpos j q (by rw [List.getElem?_eq_getElem hj, e])
    have : posI q = j := by unfold posI; rw [ht']
    rw [this]; exact ⟨by lia  , by lia  ⟩
  have KR' : KeyR κ rows' := ⟨fun q hq => KR.all q (hperm.mem_iff.mp hq), fun q hq q' hq' => KR.tok q (hperm.mem_iff.mp hq) q' (hperm.mem_iff.mp hq')⟩
  have D6 := D5.perm (led' := (res, lstO (List.replicate n (.int 0 s5.toks))) :: (x, io a.gb dx (gbS (Value.int 0 t1) Value.none Value.none false false false (Value.ref it) (Value.ref ig) (Value.int 0 u1) Value.none)) :: (it, itO dl 0) :: (dl, lstO (refs rows') n') :: (ig, io a.ig di [some (Value.ref tp)]) :: (tp, tupO [Value.int 0 s9.toks]) :: (t0, lstO [Value.int 0 s5.toks]) :: rowL rows') perm7
  have D7 := D6.drop (_ :: _ :: _ :: _ :: _ :: _ :: rowL rows') (.cons_cons _ (.cons_cons _ (.cons_cons _ (.cons_cons _ (.cons_cons _ (.cons_cons _ (.cons _ (List.Sublist.refl _))))))))
  refine rank_loop (b := ⟨x, dx, it, dl, ig, di, tp, s9.toks, n', rows'⟩) (κ := κ) (z := z) (res := res) (M := []) (sE := wiped s3 L) (E := E) G F KR' PR' hpn ⟨_, _, _, iv, _, _, ?_, ?_, ?_, Nat.zero_le _, .inl rfl, .inl ⟨rfl, t1, u1, rfl, rfl⟩, ⟨?_, fun m q hm => absurd hm (Nat.not_lt_zero _)⟩, ⟨fun v hv => ?_, fun x t x' hv => ?_⟩, D7⟩ ⟨nwx.h, .inr nwx.e⟩ ⟨nwit.h, .inr nwit.e⟩ ⟨nwr.h, .inr nwr.e⟩ hz (by show rows'.length < _; lia  ) (by lia  ) hh hE ?_ fun e s' h => h
  · rfl
  · rfl
  · have : z + 2 * ((0 : Nat) : Int) = z + 2 - 2 := by lia
    rw [this]; exact hiv
  · rw [List.length_replicate]; exact hNr.symm
  · exact .inl ⟨_, (List.eq_of_mem_replicate hv)⟩
  · have := List.eq_of_mem_replicate hv
    cases this
  · intro m' rvals c led' s' hm' hrk htk CF
    refine wpAny_execs_cons (wpAny_Return_some (CF.name hm' ?_))
    have CU := C3.unbase (CF.drop [(res, lstO rvals c)] (.cons_cons _ (List.nil_sublist _)))
    refine k m' res rvals c rows rows' s3 s' hN hpos (hFi _ _ hfi) KR hperm hord (by rw [← hNr]; exact hrk) htk CU nres fun p hp hpd => ⟨CF.frame hp (C3.neL hp) hpd, fun e => ?_⟩
    have h2 := (wiped_of (s := s3) (C3.neL hp)).trans hp.at_
    rw [e, nwr.e] at h2; cases h2
end
end Mine
end
section
set_option maxRecDepth 100000
set_option autoImplicit false
namespace Mine
open PySem PySem.W PySem.Calls PyProof.Rows PySem.Spec
section
variable {K : Frag} {a : Adr} {κ : KeyOps} {H0 : Heap} {mg mb : Str → Option Value} {A : Around} {l : List Env} {M : List Addr} {sE : Shared} {L : Addr} {m : Str → Option Value} {led : List (Addr × Obj)} {s : Shared} {prog : Program} {w : World} {E : Value → Shared → Prop} {cdv : Value} {z : Int}

noncomputable def kwFill (dv : Str → Value) : List Str → List (Str × Value) → List (Str × Value)
  | [], sl => sl
  | n :: r, sl => kwFill dv r (if (List.lookup n sl).isNone = true then sl ++ [(n, dv n)] else sl)
theorem kw_loop {MM : Model} {d : Addr} (dv : Str → Value) {Q : List (Str × Value) × List Str → Shared → Prop} : ∀ (names : List Str) (slots : List (Str × Value)) (mis : List Str), (∀ n ∈ names, Looks MM s.heap (nsGet d n) (some (dv n))) → Q (kwFill dv names slots, mis) s →
    wpAny MM A (forIn names (slots, mis) fun name __s =>
      if (List.lookup name __s.fst).isNone = true then do
        let dflt ← nsGet d name
        match dflt with
          | some v => pure (ForInStep.yield (__s.fst ++ [(name, v)], __s.snd))
          | none => pure (ForInStep.yield (__s.fst, __s.snd ++ [name]))
      else pure (ForInStep.yield (__s.fst, __s.snd))) Q E s
  | [], slots, mis, _, k => wpAny_pure k
  | n :: r, slots, mis, hd, k => by
    simp only [List.forIn_cons]
    have step : ∀ sl', kwFill dv r sl' = kwFill dv (n :: r) slots → wpAny MM A (forIn r (sl', mis) fun name __s =>
      if (List.lookup name __s.fst).isNone = true then do
        let dflt ← nsGet d name
        match dflt with
          | some v => pure (ForInStep.yield (__s.fst ++ [(name, v)], __s.snd))
          | none => pure (ForInStep.yield (__s.fst, __s.snd ++ [name]))
      else pure (ForInStep.yield (__s.fst, __s.snd))) Q E s := fun sl' e => kw_loop dv r sl' mis (fun x hx => hd x (.tail _ hx)) (by rw [e]; exact k)
    refine wpAny_bind ?_
    split
    · rename_i h
      exact wpAny_bind (hd n (.head _) _ _ _ _ (fun _ _ e => e) (wpAny_pure (step _ (by rw [kwFill, if_pos h]))))
    · rename_i h
      exact wpAny_pure (step _ (by rw [kwFill, if_neg h]))
noncomputable def rkD (t u : Tok) (n : Str) : Value := if n = "key" then .none else if n = "reverse" then .bool false else if n = "ties" then .str "average" t else .int 1 u
theorem rk_looks (F : KF K a) : ∃ t u, ∀ {MM : Model} {h : Heap}, K.In h → ∀ n ∈ [Str.ofString "key", Str.ofString "reverse", Str.ofString "ties", Str.ofString "start"], Looks MM h (nsGet a.rankK n) (some (rkD t u n)) := by
  obtain ⟨t, ht⟩ := F.dties
  obtain ⟨u, hu⟩ := F.dstart
  refine ⟨t, u, fun {MM h} X n hn => ?_⟩
  simp only [List.mem_cons, List.not_mem_nil, or_false] at hn
  rcases hn with rfl | rfl | rfl | rfl
  · exact looks_nsIn X F.dkey
  · exact looks_nsIn X F.drev
  · exact looks_nsIn X ht
  · exact looks_nsIn X hu
theorem rank_bind_start (F : KF K a) (X : K.In s.heap) {v sv : Value} {t u : Tok} (hk : ∀ {MM : Model} {h : Heap}, K.In h → ∀ n ∈ [Str.ofString "key", Str.ofString "reverse", Str.ofString "ties", Str.ofString "start"], Looks MM h (nsGet a.rankK n) (some (rkD t u n))) {name : Str} {doc pm : Value} {an : Option Addr} {cdv ct : Value} {Q : List (Str × Value) → Shared → Prop}
    (k : Q [(Str.ofString "data", v), (Str.ofString "key", .none), (Str.ofString "reverse", .bool false), (Str.ofString "ties", .str "average" t), (Str.ofString "start", sv)] s) :
    wpAny (model prog w) A (bindArgs (fnOf name "_rank" dRank.1 dRank.2.1 dRank.2.2 .none (.ref a.rankK) doc pm an cdv ct) ⟨[v], [(Str.ofString "start", sv)]⟩) Q E s := by
  unfold bindArgs

  refine wpAny_bind (wpAny_of_eq (a := ([(Str.ofString "data", v), (Str.ofString "start", sv)], [])) rfl ?_)
  refine wpAny_bind (wpAny_of_eq (a := none) rfl ?_)
  refine ite_no Bool.false_ne_true ?_
  refine ite_no Bool.false_ne_true ?_
  refine wpAny_bind (wpAny_of_eq (a := [(Str.ofString "data", v), (Str.ofString "start", sv)]) rfl ?_)
  refine wpAny_bind (kw_loop (rkD t u) _ _ _ (hk X) ?_)
  refine ite_no Bool.false_ne_true ?_
  exact wpAny_pure k
end
end Mine
end
section
set_option maxRecDepth 100000
set_option autoImplicit false
namespace Mine
open PySem PySem.W PySem.Calls PyProof.Rows PySem.Spec
section
variable {K : Frag} {a : Adr} {H0 : Heap} {mg mb : Str → Option Value} {A : Around} {l : List Env} {s : Shared} {prog : Program} {w : World} {z : Int}

structure Ranked (κ : KeyOps) (rv : Bool) (z : Int) (vals rvals : List Value) (tk : Nat) : Prop where
  ex : ∃ rows rows' : List Row, rows.map (·.key) = vals ∧ (∀ (j : Nat) (q : Row), rows[j]? = some q → ∃ t, q.pos = .int j t) ∧ rows'.Perm rows ∧ OrdR κ rv rows' ∧ RK κ rows' z vals.length rvals
  tk : TK rvals tk

theorem keyR_of {κ : KeyOps} {vals : List Value} (h : KeyL κ vals) {rows : List Row} (e : rows.map (·.key) = vals) : KeyR κ rows :=
  ⟨fun q hq => h.all _ (e ▸ List.mem_map_of_mem (f := (·.key)) hq), fun q hq q' hq' => h.tok _ (e ▸ List.mem_map_of_mem (f := (·.key)) hq) _ (e ▸ List.mem_map_of_mem (f := (·.key)) hq')⟩

theorem drawn_list {κ : KeyOps} {vals : List Value} {ep : Nat} {lst : Addr} {M : List Addr} {sE s0 s : Shared} (S : St H0 A l s) (h0 : Okk s0.heap (lst, lstO vals ep)) (h : Okk s.heap (lst, lstO vals ep)) (hnew : sE.heap.get? s.heap.objs.size = none) (KL : KeyL κ vals) :
    Drawn prog w H0 A l κ (.ref lst) 0 vals.length M sE s0 s s.heap.objs.size [s.heap.objs.size, lst] [s.heap.objs.size]
      (fun acc s' => Lg s'.heap [(s.heap.objs.size, itO lst acc.length), (lst, lstO vals ep)] ∧ acc = vals.take acc.length) (fun acc _ => acc = vals) := by
  have hI : H0.get? s.heap.objs.size = none := by
    cases q : H0.get? s.heap.objs.size with
    | none => rfl
    | some o => exact absurd (Heap.lt_size (S.glob _ _ q)) (Nat.lt_irrefl _)
  refine ⟨srcList (prog := prog) (w := w) (l := l) (lst := lst) (vals := vals) (ep := ep) 0 hI, fun p hp => ?_, fun p hp => ?_, fun A' Q E h1 h2 h3 h4 => ?_, fun rows s' hN e => keyR_of KL e⟩
  · rcases List.mem_cons.mp hp with rfl | hp
    · exact .inl not_at
    · rw [List.mem_singleton.mp hp]; exact .inr ⟨_, h0.at_⟩
  · rw [List.mem_singleton.mp hp]; exact .inr hnew
  · have g : Go H0 [] s { s with heap := s.heap.push (itO lst 0) } := Go.push _
    refine wpAny_pyIter_list ⟨_, h.at_, rfl, _, rfl⟩ (h4 _ g ⟨⟨fun p hp => ?_, ?_⟩, rfl⟩)
    · rcases List.mem_cons.mp hp with rfl | hp
      · exact okk_it (Heap.get?_push_size _ rfl)
      · rw [List.mem_singleton.mp hp]; exact h.go g (fun h => nomatch h)
    · have : s.heap.objs.size ≠ lst := fun e => by have := Heap.lt_size h.at_; rw [← e] at this; exact absurd this (Nat.lt_irrefl _)
      simp [this]

set_option maxHeartbeats 1000000 in
theorem rank_list (G : Gl K H0 mg mb) (F : KF K a) (S : St H0 A l s) (κ : KeyOps) {lst : Addr} {vals : List Value} {ep : Nat} {sv : Value} (hl : Okk s.heap (lst, lstO vals ep)) (hsv : NumV sv (z + 2)) (hz : z.natAbs ≤ 2 ^ 45) (hn : vals.length < 64) (KL : KeyL κ vals)
    (hroom : A.depth + 5 < recursionLimit) (hh : A.handled = none) {R : Result → Shared → Prop}
    (k : ∀ res rvals c s', Ranked κ false z vals rvals s'.toks → Go H0 [] s s' → Okk s'.heap (res, lstO rvals c) → s.heap.get? res = none → R (.ok (.ret (.ref res))) s') :
    codeAny (model prog w) A (.call (.ref a.rank) ⟨[.ref lst], [(Str.ofString "start", sv)]⟩) R s := by
  refine enterFX G S F.rank [] (by lia  ) (by decide) fun name doc pm an cdv ct E' => ?_
  obtain ⟨t, u, hk⟩ := rk_looks F
  refine rank_bind_start F (S.X G) hk ⟨fun b o h => h, Nat.le_refl _, rfl, rfl, locs rfl, [(lst, lstO vals ep)], fun p hp => by rw [List.mem_singleton.mp hp]; exact hl, by simp, fun L cdv s1 C => ?_⟩
  refine wpAny_execs_cons (wpAny_If (wpAny_isTrue_Compare1 (C.name rfl (wpAny_Constant_str (PySem.P.ne_str (wpAny_truthy_bool ?_))))))
  refine ite_no' (by decide) (wpAny_execs_nil ?_)
  have C1 := C.tok 1
  refine wpAny_execs_cons (wpAny_If (wpAny_isTrue_Compare1 (C1.name (v := .none) rfl (wpAny_Constant_none (isNot_none (wpAny_truthy_bool ?_))))))
  refine ite_no' (by decide) (wpAny_execs_nil ?_)
  refine rank_tail (d := 0) (n := vals.length) (P := fun acc _ => acc = vals) (κ := κ) G F C1 rfl rfl rfl hsv hz hn (fun s2 g2 => ⟨_, _, _, _, _, drawn_list (C1.st.go g2) (C1.ok 0 rfl) ((C1.ok 0 rfl).go g2 (fun h => nomatch h)) ?_ KL, fun _ _ h => h⟩) (by omega) hh PassesOwn.leaving fun m' res rvals c rows rows' s2 s3 hN hpos hP KR hperm hord hrk htk C3 nres hfr => ?_
  · exact ((C1.call g2).noE not_at).e
  · exact k res rvals c s3 ⟨⟨rows, rows', hP, hpos, hperm, hord, hrk⟩, htk⟩ C3.go (C3.ok 0 rfl) nres.e
end
end Mine
end
section
set_option maxRecDepth 100000
set_option autoImplicit false
namespace Mine
open PySem PySem.W PySem.Calls PyProof.Rows PySem.Spec

theorem countP_range {α : Type} {p : α → Bool} : ∀ {rows : List α} {i0 i1 : Nat}, i0 ≤ i1 → i1 ≤ rows.length → (∀ m q, rows[m]? = some q → (p q = true ↔ i0 ≤ m ∧ m < i1)) → rows.countP p = i1 - i0
  | [], i0, i1, h0, h1, _ => by simp at h1; subst h1; simp
  | x :: r, i0, i1, h0, h1, h => by
    have hx := h 0 x rfl
    have ht := countP_range (p := p) (rows := r) (i0 := i0 - 1) (i1 := i1 - 1) (by omega) (by simp only [List.length_cons] at h1; omega) (fun m q hq => by
      have := h (m + 1) q (by simpa using hq)
      rw [this]; omega)
    rw [List.countP_cons, ht]
    by_cases hp : p x = true
    · have := hx.mp hp
      rw [if_pos hp]; grind
    · have : ¬ (i0 ≤ 0 ∧ 0 < i1) := fun q => hp (hx.mpr q)
      rw [if_neg hp]; grind

section
variable {κ : KeyOps}
theorem kle_of {x y : Row} (hx : κ.P x.key) (hy : κ.P y.key) (h : ltR κ x y = true) : κ.lt y.key x.key = false := by
  simp only [ltR, Bool.or_eq_true, Bool.and_eq_true, decide_eq_true_eq] at h
  rcases h with h | ⟨h, _⟩
  · cases q : κ.lt y.key x.key with
    | false => rfl
    | true => have := κ.trans _ _ _ hx hy hx h q; rw [κ.irrefl _ hx] at this; cases this
  · exact ((κ.eq_iff _ _ hx hy).mp h).2
theorem kle_trans {x y z : Value} (hx : κ.P x) (hy : κ.P y) (hz : κ.P z) (h1 : κ.lt y x = false) (h2 : κ.lt z y = false) : κ.lt z x = false := by
  cases q : κ.lt z x with
  | false => rfl
  | true =>
    rcases κ.neg z y x hz hy hx q with h | h
    · rw [h2] at h; cases h
    · rw [h1] at h; cases h

variable {rows : List Row}
theorem ord_le (hk : ∀ q ∈ rows, κ.P q.key) (ho : OrdR κ false rows) {i j : Nat} {x y : Row} (hij : i ≤ j) (hi : rows[i]? = some x) (hj : rows[j]? = some y) : κ.lt y.key x.key = false := by
  rcases Nat.eq_or_lt_of_le hij with e | h
  · subst e; rw [hi] at hj; cases hj; exact κ.irrefl _ (hk _ (List.mem_of_getElem? hi))
  · obtain ⟨a1, b1⟩ := List.getElem?_eq_some_iff.mp hi
    obtain ⟨a2, b2⟩ := List.getElem?_eq_some_iff.mp hj
    have ho' : rows.Pairwise (fun x y => ltR κ x y = true) := ho
    have := List.pairwise_iff_getElem.mp ho' i j a1 a2 h
    rw [b1, b2] at this
    exact kle_of (hk _ (List.mem_of_getElem? hi)) (hk _ (List.mem_of_getElem? hj)) this

theorem grp_counts (hk : ∀ q ∈ rows, κ.P q.key) (ho : OrdR κ false rows) {i0 i1 m : Nat} {q : Row} (hg : Grp κ rows i0 i1) (hu : Upto κ rows i0) (hm : rows[m]? = some q) (h0 : i0 ≤ m) (h1 : m < i1) :
    rows.countP (fun r => κ.lt r.key q.key) = i0 ∧ rows.countP (fun r => κ.eq r.key q.key) = i1 - i0 := by
  have get : ∀ i, i < rows.length → ∃ r, rows[i]? = some r := fun i hi => ⟨_, List.getElem?_eq_getElem hi⟩
  have P : ∀ {i : Nat} {r : Row}, rows[i]? = some r → κ.P r.key := fun h => hk _ (List.mem_of_getElem? h)
  have hlt := hg.lt
  have hle := hg.le
  obtain ⟨q0, hq0⟩ := get i0 (by lia  )
  have hq0q := (κ.eq_iff _ _ (P hq0) (P hm)).mp (hg.same q0 m q hq0 h0 h1 hm)
  -- below
  have below : ∀ i r, rows[i]? = some r → i < i0 → κ.lt r.key q.key = true := by
    intro i r hr hi
    cases hc : κ.lt r.key q.key with
    | true => rfl
    | false =>
      exfalso
      rcases hu with rfl | ⟨ip, hp⟩
      · lia
      · have := hp.lt
        obtain ⟨qp, hqp⟩ := get ip (by lia  )
        obtain ⟨ql, hql⟩ := get (i0 - 1) (by lia  )
        have e1 := (κ.eq_iff _ _ (P hqp) (P hql)).mp (hp.same qp (i0 - 1) ql hqp (by lia  ) (by lia  ) hql)
        have e2 := hp.stop qp q0 hqp hq0
        -- r <= ql <= q0, and not r < q0
        have a1 : κ.lt ql.key r.key = false := ord_le hk ho (i := i) (j := i0 - 1) (by lia  ) hr hql
        have a2 : κ.lt r.key q0.key = false := kle_trans (P hq0) (P hm) (P hr) hq0q.2 hc
        have a3 : κ.lt ql.key q0.key = false := kle_trans (P hq0) (P hr) (P hql) a2 a1
        have a4 : κ.lt qp.key q0.key = false := kle_trans (P hq0) (P hql) (P hqp) a3 e1.1
        have a5 : κ.lt q0.key qp.key = false := ord_le hk ho (i := ip) (j := i0) (by lia  ) hqp hq0
        rw [(κ.eq_iff _ _ (P hqp) (P hq0)).mpr ⟨a4, a5⟩] at e2; cases e2
  have same : ∀ i r, rows[i]? = some r → i0 ≤ i → i < i1 → κ.eq r.key q.key = true := by
    intro i r hr ha hb
    have e := (κ.eq_iff _ _ (P hq0) (P hr)).mp (hg.same q0 i r hq0 ha hb hr)
    exact (κ.eq_iff _ _ (P hr) (P hm)).mpr ⟨kle_trans (P hm) (P hq0) (P hr) hq0q.1 e.2, kle_trans (P hr) (P hq0) (P hm) e.1 hq0q.2⟩
  have above : ∀ i r, rows[i]? = some r → i1 ≤ i → κ.lt q.key r.key = true := by
    intro i r hr hi
    cases hc : κ.lt q.key r.key with
    | true => rfl
    | false =>
      exfalso
      have hil := (List.getElem?_eq_some_iff.mp hr).1
      obtain ⟨q1, hq1⟩ := get i1 (by lia  )
      have e2 := hg.stop q0 q1 hq0 hq1
      have a1 : κ.lt r.key q1.key = false := ord_le hk ho hi hq1 hr
      have a2 : κ.lt q.key q1.key = false := kle_trans (P hq1) (P hr) (P hm) a1 hc
      have a3 : κ.lt q0.key q1.key = false := kle_trans (P hq1) (P hm) (P hq0) a2 hq0q.1
      have a4 : κ.lt q1.key q0.key = false := ord_le hk ho (by lia  ) hq0 hq1
      rw [(κ.eq_iff _ _ (P hq0) (P hq1)).mpr ⟨a3, a4⟩] at e2; cases e2
  constructor
  · have := countP_range (p := fun r => κ.lt r.key q.key) (rows := rows) (i0 := 0) (i1 := i0) (Nat.zero_le _) (by lia  ) (fun i r hr => by
      constructor
      · intro h
        refine ⟨Nat.zero_le _, ?_⟩
        apply Classical.byContradiction
        intro hc
        by_cases h2 : i < i1
        · have := (κ.eq_iff _ _ (P hr) (P hm)).mp (same i r hr (by lia  ) h2)
          rw [this.1] at h; cases h
        · have h3 := above i r hr (by lia  )
          have := κ.trans _ _ _ (P hr) (P hm) (P hr) h h3
          rw [κ.irrefl _ (P hr)] at this; cases this
      · intro h; exact below i r hr h.2)
    simpa using this
  · refine countP_range (p := fun r => κ.eq r.key q.key) (rows := rows) (i0 := i0) (i1 := i1) (by lia  ) (by omega) (fun i r hr => ?_)
    constructor
    · intro h
      have h' := (κ.eq_iff _ _ (P hr) (P hm)).mp h
      apply Classical.byContradiction
      intro hc
      by_cases h2 : i < i0
      · rw [below i r hr h2] at h'; cases h'.1
      · rw [above i r hr (by lia  )] at h'; cases h'.2
    · intro h; exact same i r hr h.1 h.2

theorem Ranked.at {z : Int} {vals rvals : List Value} {tk : Nat} (h : Ranked κ false z vals rvals tk) (KL : KeyL κ vals) : rvals.length = vals.length ∧ ∀ (j : Nat) (v : Value), vals[j]? = some v →
    ∃ t, rvals[j]? = some (.float (hf (z + 2 * (vals.countP fun x => κ.lt x v) + (vals.countP fun x => κ.eq x v) + 1)) t) := by
  obtain ⟨rows, rows', hv, hpos, hperm, hord, hl, hr⟩ := h.ex
  have hlen : rows'.length = rows.length := hperm.length_eq
  have hlr : rows.length = vals.length := by rw [← hv, List.length_map]
  refine ⟨by lia  , fun j v hj => ?_⟩
  have KR := keyR_of KL hv
  obtain ⟨q, hq⟩ : ∃ q, rows[j]? = some q := ⟨_, List.getElem?_eq_getElem (by have := (List.getElem?_eq_some_iff.mp hj).1; lia  )⟩
  have hqv : q.key = v := by
    have : (rows.map (·.key))[j]? = some q.key := by rw [List.getElem?_map, hq]; rfl
    rw [hv, hj] at this; exact (Option.some.inj this).symm
  obtain ⟨t', ht'⟩ := hpos j q hq
  have hpj : (posI q).toNat = j := by unfold posI; rw [ht']; rfl
  obtain ⟨m, hm⟩ := List.mem_iff_getElem?.mp (hperm.mem_iff.mpr (List.mem_of_getElem? hq))
  have hk' : ∀ x ∈ rows', κ.P x.key := fun x hx => (KR.all x (hperm.mem_iff.mp hx)).1
  obtain ⟨i0, i1, hg, hu, h0, h1, t, ht⟩ := hr m q (by have := (List.getElem?_eq_some_iff.mp hm).1; lia  ) hm
  obtain ⟨c1, c2⟩ := grp_counts hk' hord hg hu hm h0 h1
  rw [hperm.countP_eq] at c1 c2
  have d1 : vals.countP (fun x => κ.lt x v) = i0 := by rw [← c1, ← hv, List.countP_map, ← hqv]; rfl
  have d2 : vals.countP (fun x => κ.eq x v) = i1 - i0 := by rw [← c2, ← hv, List.countP_map, ← hqv]; rfl
  refine ⟨t, ?_⟩
  rw [hpj] at ht
  rw [ht, d1, d2]
  have : z + 2 * (i0 : Int) + ((i1 - i0 : Nat) : Int) + 1 = z + i0 + i1 + 1 := by have := hg.lt; lia
  rw [this]
end
end Mine
end
section
set_option maxRecDepth 100000
set_option autoImplicit false
namespace Mine
open PySem PySem.W PySem.Calls PyProof.Rows PySem.Spec

structure Itr (prog : Program) (w : World) (H0 : Heap) (I : Addr) (own : List Addr) (vals : List Value) (Inv : Nat → Shared → Prop) : Prop where
  item : ∀ (A : Around) (E : Value → Shared → Prop) (s : Shared) (Q : Option Value → Shared → Prop) (i : Nat) (v : Value), A.handled = none → Inv i s → vals[i]? = some v →
    (∀ s', Go H0 [I] s s' → Inv (i + 1) s' → Q (some v) s') → wpAny (model prog w) A (pyNext (.ref I)) Q E s
  done : ∀ (A : Around) (E : Value → Shared → Prop) (s : Shared) (Q : Option Value → Shared → Prop) (i : Nat), A.handled = none → Inv i s → vals[i]? = none →
    (∀ s', Go H0 [I] s s' → Q none s') → wpAny (model prog w) A (pyNext (.ref I)) Q E s
  keep : ∀ i s s' M, Inv i s → Go H0 M s s' → (∀ p ∈ M, p ∉ own) → Inv i s'

section
variable {prog : Program} {w : World} {A : Around} {E : Value → Shared → Prop} {s : Shared} {H0 : Heap}

noncomputable abbrev itT (tp : Addr) (i : Nat) : Obj := { cls := .type "tuple_iterator", data := .fields #[.ref tp, .int i 0] }
theorem pyNextT_item {it tp : Addr} {i : Nat} {vs : List Value} {x : Value} {Q : Option Value → Shared → Prop} (hit : s.heap.get? it = some (itT tp i)) (hl : s.heap.get? tp = some (tupO vs)) (hx : vs[i]? = some x)
    (hQ : Q (some x) { s with heap := s.heap.update it (Obj.mapFields (·.setIfInBounds 1 (rawInt ((i : Int) + 1)))) }) : wpAny (model prog w) A (pyNext (.ref it)) Q E s := by
  have hT : s.TypeIs (.ref it) "tuple_iterator" := ⟨_, hit, rfl⟩
  unfold pyNext
  refine wpAny_bind (wpAny_attempt (wpAny_callSpecial?_slot (name := Str.ofString "__next__") hT F.slot_tuple_iterator_next (wpAny_call_entry F.slot_tuple_iterator_next hT F.entry_tuple_iterator_next ?_ (F.args_tuple_iterator_next_1 _))))
  show wpAny _ _ (field (.ref it) 0 >>= _) _ _ s
  refine wpAny_bind (wpAny_field hit rfl (x := .ref tp) rfl ?_)
  show wpAny _ _ (if (Value.ref tp == Value.none) = true then _ else _) _ _ s
  first | refine ite_no' rfl ?_ | refine ite_no (show ¬ ((Value.ref tp == Value.none) = true) from Bool.false_ne_true) ?_ | rw [if_neg (show ¬ ((Value.ref tp == Value.none) = true) from Bool.false_ne_true)]
  show wpAny _ _ (field (.ref it) 1 >>= _) _ _ s
  refine wpAny_bind (wpAny_field hit rfl (x := .int i 0) rfl ?_)
  show wpAny _ _ (seqItems? (.ref tp) >>= _) _ _ s
  refine wpAny_bind (wpAny_seqItems hl rfl ?_)
  simp only [Int.toNat_natCast, List.getElem?_toArray, hx]
  exact wpAny_bind (wpAny_setField hit rfl (by simp) (wpAny_pure ⟨x, rfl, wpAny_pure hQ⟩))
theorem pyNextT_end {it tp : Addr} {i : Nat} {vs : List Value} {Q : Option Value → Shared → Prop} (hh : A.handled = none) (hit : s.heap.get? it = some (itT tp i)) (hl : s.heap.get? tp = some (tupO vs)) (hx : vs[i]? = none)
    (hQ : ∀ h' e, Heap.MadeExc (s.heap.update it (Obj.mapFields (·.setIfInBounds 0 .none))) h' e "StopIteration" [] → Q none { s with heap := h' }) : wpAny (model prog w) A (pyNext (.ref it)) Q E s := by
  have hT : s.TypeIs (.ref it) "tuple_iterator" := ⟨_, hit, rfl⟩
  unfold pyNext
  refine wpAny_bind (wpAny_attempt (wpAny_callSpecial?_slot (name := Str.ofString "__next__") hT F.slot_tuple_iterator_next (wpAny_call_entry F.slot_tuple_iterator_next hT F.entry_tuple_iterator_next ?_ (F.args_tuple_iterator_next_1 _))))
  show wpAny _ _ (field (.ref it) 0 >>= _) _ _ s
  refine wpAny_bind (wpAny_field hit rfl (x := .ref tp) rfl ?_)
  show wpAny _ _ (if (Value.ref tp == Value.none) = true then _ else _) _ _ s
  first | refine ite_no' rfl ?_ | refine ite_no (show ¬ ((Value.ref tp == Value.none) = true) from Bool.false_ne_true) ?_ | rw [if_neg (show ¬ ((Value.ref tp == Value.none) = true) from Bool.false_ne_true)]
  show wpAny _ _ (field (.ref it) 1 >>= _) _ _ s
  refine wpAny_bind (wpAny_field hit rfl (x := .int i 0) rfl ?_)
  show wpAny _ _ (seqItems? (.ref tp) >>= _) _ _ s
  refine wpAny_bind (wpAny_seqItems hl rfl ?_)
  simp only [Int.toNat_natCast, List.getElem?_toArray, hx]
  refine wpAny_bind (wpAny_rule (wpAny_bind (wpAny_setField hit rfl (by simp) ?_)))
  show wpAny _ _ (newExc (.type "StopIteration") [] >>= _) _ _ _
  refine wpAny_bind (newExc_stop (fun h' e hm => ?_))
  simp only [raiseNew]
  refine wpAny_bind (wpAny_handled ?_)
  rw [show A.in1.handled = none from hh]
  obtain ⟨t, ht, _⟩ := hm.there
  refine wpAny_bind (wpAny_pure (wpAny_throw ?_))
  refine wpAny_bind (wpAny_isInstance (T := "StopIteration") (b := true) (s := { s with heap := h' }) (show Shared.TypeIs { s with heap := h' } (.ref e) "StopIteration" from ⟨_, ht, rfl⟩) owsi_facts.sub ?_)
  exact wpAny_pure (hQ h' e hm)

theorem itrList {I lst : Addr} {vals : List Value} {ep : Nat} (hI : H0.get? I = none) : Itr prog w H0 I [I, lst] vals (fun i s => Lg s.heap [(I, itO lst i), (lst, lstO vals ep)]) where
  item := fun A E s Q i v hh C hx k => by
    refine pyNext_item (C.at 0 rfl) (C.at 1 rfl) hx ?_
    obtain ⟨g, C'⟩ := C.upd (H0 := H0) (s := s) 0 (f := Obj.mapFields (·.setIfInBounds 1 (rawInt ((i : Int) + 1)))) rfl rfl nd_fields rfl hI
    exact k _ g C'
  done := fun A E s Q i hh C hx k => by
    refine pyNext_end hh (C.at 0 rfl) (C.at 1 rfl) hx fun h' e hm => ?_
    obtain ⟨g, C'⟩ := C.upd (H0 := H0) (s := s) 0 (f := Obj.mapFields (·.setIfInBounds 0 .none)) rfl rfl nd_fields rfl hI
    exact k _ (g.trans (made_go (s := { s with heap := s.heap.update I (Obj.mapFields (·.setIfInBounds 0 .none)) }) hm))
  keep := fun i s s' M C g hM => C.turn g _ rfl fun p hp => .inl ⟨hp, fun q => by
    rcases List.mem_cons.mp hp with rfl | hp
    · exact hM _ q (by simp)
    · rw [List.mem_singleton.mp hp] at q; exact hM _ q (by simp)⟩
theorem itrTup {I tp : Addr} {vals : List Value} (hI : H0.get? I = none) : Itr prog w H0 I [I, tp] vals (fun i s => Lg s.heap [(I, itT tp i), (tp, tupO vals)]) where
  item := fun A E s Q i v hh C hx k => by
    refine pyNextT_item (C.at 0 rfl) (C.at 1 rfl) hx ?_
    obtain ⟨g, C'⟩ := C.upd (H0 := H0) (s := s) 0 (f := Obj.mapFields (·.setIfInBounds 1 (rawInt ((i : Int) + 1)))) rfl rfl nd_fields rfl hI
    exact k _ g C'
  done := fun A E s Q i hh C hx k => by
    refine pyNextT_end hh (C.at 0 rfl) (C.at 1 rfl) hx fun h' e hm => ?_
    obtain ⟨g, C'⟩ := C.upd (H0 := H0) (s := s) 0 (f := Obj.mapFields (·.setIfInBounds 0 .none)) rfl rfl nd_fields rfl hI
    exact k _ (g.trans (made_go (s := { s with heap := s.heap.update I (Obj.mapFields (·.setIfInBounds 0 .none)) }) hm))
  keep := fun i s s' M C g hM => C.turn g _ rfl fun p hp => .inl ⟨hp, fun q => by
    rcases List.mem_cons.mp hp with rfl | hp
    · exact hM _ q (by simp)
    · rw [List.mem_singleton.mp hp] at q; exact hM _ q (by simp)⟩
end
end Mine
end
section
set_option maxRecDepth 100000
set_option autoImplicit false
namespace Mine
open PySem PySem.W PySem.Calls PyProof.Rows PySem.Spec

noncomputable abbrev T3 := UInt64 × UInt64 × UInt64
noncomputable def tlRun : List (UInt64 × UInt64) → T3 → T3
  | [], t => t
  | p :: r, t => tlRun r (Builtin.Math.tlFma p.1 p.2 t)
noncomputable def tlOk : List (UInt64 × UInt64) → T3 → Prop
  | [], _ => True
  | p :: r, t => Float64.isFinite (Builtin.Math.tlFma p.1 p.2 t).1 = true ∧ tlOk r (Builtin.Math.tlFma p.1 p.2 t)
structure FV (vals : List Value) (xs : List UInt64) : Prop where
  len : vals.length = xs.length
  at_ : ∀ (i : Nat) x, xs[i]? = some x → ∃ t, vals[i]? = some (.float x t)
noncomputable def t3V (t : T3) : List Value := [rawInt t.1.toNat, rawInt t.2.1.toNat, rawInt t.2.2.toNat]

section
variable {prog : Program} {w : World} {A : Around} {E : Value → Shared → Prop} {s : Shared} {H0 : Heap}
theorem plain_sp : plainId "math.sumprod.loop" = true := by decide +kernel
theorem entry_sp : entryFor table "math.sumprod.loop" = some Builtin.«math.sumprod.loop» := entryFor_of_fast (by kernel_rfl)

theorem sp_loop {I J : Addr} {ownI ownJ : List Addr} {ps qs : List Value} {InvI InvJ : Nat → Shared → Prop} (hI : Itr prog w H0 I ownI ps InvI) (hJ : Itr prog w H0 J ownJ qs InvJ) (hIJ : I ∉ ownJ) (hJI : J ∉ ownI) {xs ys : List UInt64} (hx : FV ps xs) (hy : FV qs ys) (hlen : xs.length = ys.length)
    (hh : A.handled = none) {R : Result → Shared → Prop} :
    ∀ (n i : Nat) (th : T3) (s : Shared) (T : Addr) (t0 : Tok) (io fu : Bool), xs.length - i = n → i ≤ xs.length → InvI i s → InvJ i s → s.heap.get? T = some (tupO (t3V th)) → tlOk ((xs.zip ys).drop i) th → (i = xs.length → fu = true) →
      (∀ t s', Go H0 [I, J] s s' → R (.ok (.ret (.float (Float64.add (Float64.ofInt 0) (Builtin.Math.tlToFloat (tlRun ((xs.zip ys).drop i) th))) t))) s') →
      codeAny (model prog w) A (.builtin "math.sumprod.loop" ⟨[.ref I, .ref J, .int 0 t0, .bool io, rawInt 0, .bool false, .bool true, .ref T, .bool fu], []⟩) R s := by
  intro n
  induction n with
  | zero =>
    intro i th s T t0 io fu hn hi hIi hJi hT hok hfu k
    have hil : i = xs.length := by grind
    have hfu := hfu hil
    subst hfu
    have hd : (xs.zip ys).drop i = [] := List.drop_eq_nil_of_le (by rw [List.length_zip]; lia  )
    rw [hd] at k
    have hpn : ps[i]? = none := List.getElem?_eq_none (by rw [hx.len]; lia  )
    have hqn : qs[i]? = none := List.getElem?_eq_none (by rw [hy.len]; lia  )
    refine codeAny_plain entry_sp plain_sp ?_
    unfold Builtin.«math.sumprod.loop»
    show wpAny _ A.in1 (seqItems? (.ref T) >>= _) _ _ s
    refine wpAny_bind (wpAny_seqItems hT rfl ?_)
    refine wpAny_bind (hI.done _ _ _ _ i hh hIi hpn fun s1 g1 => ?_)
    have hJ1 := hJ.keep _ _ _ _ hJi g1 (fun p hp => by rw [List.mem_singleton.mp hp]; exact hIJ)
    refine wpAny_bind (wpAny_holding (hJ.done _ _ _ _ i hh hJ1 hqn fun s2 g2 => ?_))
    refine ite_no Bool.false_ne_true ?_
    have e3 : ((th.1.toNat : Int).toNat.toUInt64, (th.2.1.toNat : Int).toNat.toUInt64, (th.2.2.toNat : Int).toNat.toUInt64) = th := by
      simp
    have g12 : Go H0 [I, J] s s2 := (g1.mono (fun p hp => by rw [List.mem_singleton.mp hp]; simp)).trans (g2.mono (fun p hp => by rw [List.mem_singleton.mp hp]; simp))
    dsimp only
    rw [e3]
    have rest : wpAny (model prog w) A.in1 (do
        let f ← mkFloat (Builtin.Math.tlToFloat th)
        let total ← holding (Value.int 0 t0 :: ((none : Option Value).toList ++ (none : Option Value).toList)) (binaryOp Operator.Add (Value.int 0 t0) f)
        ret total) (fun fin s' => match fin with | .done f => R (.ok f) s' | .again c' => c'.quiet = true ∧ codeAny (model prog w) A c' R s') (eErr R) s2 := by
      refine wpAny_bind (wpAny_mkFloat (wpAny_bind (wpAny_holding (add_if_fits (by decide) ?_))))
      exact wpAny_pure (k _ _ (g12.trans (.ext (s := s2) (s' := { s2 with toks := s2.toks + 1 + 1 }) (fun _ _ h => h) (Nat.le_add_right s2.toks 2) rfl rfl _)))
    cases io with
    | true => exact ite_yes rfl (wpAny_bind (wpAny_rule (ite_no Bool.false_ne_true (ite_yes rfl (wpAny_bind (wpAny_rule (ite_yes rfl rest)))))))
    | false => exact ite_no Bool.false_ne_true (ite_yes rfl (wpAny_bind (wpAny_rule (ite_yes rfl rest))))
  | succ n ih =>
    intro i th s T t0 io fu hn hi hIi hJi hT hok hfu k
    refine codeAny_plain entry_sp plain_sp ?_
    unfold Builtin.«math.sumprod.loop»
    show wpAny _ A.in1 (seqItems? (.ref T) >>= _) _ _ s
    refine wpAny_bind (wpAny_seqItems hT rfl ?_)
    obtain ⟨x, hxi⟩ : ∃ x, xs[i]? = some x := ⟨_, List.getElem?_eq_getElem (by grind)⟩
    obtain ⟨y, hyi⟩ : ∃ y, ys[i]? = some y := ⟨_, List.getElem?_eq_getElem (by grind)⟩
    obtain ⟨tx, hpx⟩ := hx.at_ i x hxi
    obtain ⟨ty, hqy⟩ := hy.at_ i y hyi
    have hdrop : (xs.zip ys).drop i = (x, y) :: (xs.zip ys).drop (i + 1) := by
      have hz : (xs.zip ys)[i]? = some (x, y) := by rw [List.getElem?_zip_eq_some]; exact ⟨hxi, hyi⟩
      obtain ⟨hl, hz⟩ := List.getElem?_eq_some_iff.mp hz
      rw [List.drop_eq_getElem_cons hl, hz]
    rw [hdrop] at hok k
    obtain ⟨hfin, hok⟩ := hok
    have e3 : ((th.1.toNat : Int).toNat.toUInt64, (th.2.1.toNat : Int).toNat.toUInt64, (th.2.2.toNat : Int).toNat.toUInt64) = th := by
      simp
    refine wpAny_bind (hI.item _ _ _ _ i _ hh hIi hpx fun s1 g1 hIi1 => ?_)
    have hJ1 := hJ.keep _ _ _ _ hJi g1 (fun p hp => by rw [List.mem_singleton.mp hp]; exact hIJ)
    refine wpAny_bind (wpAny_holding (hJ.item _ _ _ _ i _ hh hJ1 hqy fun s2 g2 hJ2 => ?_))
    have hI2 := hI.keep _ _ _ _ hIi1 g2 (fun p hp => by rw [List.mem_singleton.mp hp]; exact hJI)
    refine ite_no Bool.false_ne_true ?_
    have rest : wpAny (model prog w) A.in1 (do
        let t ← newTuple (t3V (Builtin.Math.tlFma x y th))
        again (Code.builtin "math.sumprod.loop" ⟨[.ref I, .ref J, .int 0 t0, .bool false, rawInt 0, .bool false, .bool true, t, .bool true], []⟩)) (fun fin s' => match fin with | .done f => R (.ok f) s' | .again c' => c'.quiet = true ∧ codeAny (model prog w) A c' R s') (eErr R) s2 := by
      have gp : Go H0 [] s2 { s2 with heap := s2.heap.push (tupO (t3V (Builtin.Math.tlFma x y th))) } := Go.push _
      refine wpAny_bind (wpAny_newObj_type (wpAny_pure ⟨plainId_quiet plain_sp _, ?_⟩) (by show 3 ≤ _; rw [sizeLine_eq]; decide))
      refine ih (i + 1) (Builtin.Math.tlFma x y th) _ s2.heap.objs.size t0 false true (by grind) (by grind) (hI.keep _ _ _ _ hI2 gp (fun p hp => nomatch hp)) (hJ.keep _ _ _ _ hJ2 gp (fun p hp => nomatch hp)) (Heap.get?_push_size _ rfl) hok (fun _ => rfl) fun t s' g => ?_
      exact k t s' (((g1.mono (fun p hp => by rw [List.mem_singleton.mp hp]; simp)).trans (g2.mono (fun p hp => by rw [List.mem_singleton.mp hp]; simp))).trans ((gp.mono (fun p hp => nomatch hp)).trans g))
    cases io with
    | true =>
      dsimp only
      rw [e3]
      refine ite_yes rfl (wpAny_bind (wpAny_rule ?_))
      refine ite_no Bool.false_ne_true (ite_yes rfl (ite_yes rfl (ite_yes hfin ?_)))
      exact rest
    | false =>
      dsimp only
      rw [e3]
      refine ite_no Bool.false_ne_true (ite_yes rfl (ite_yes rfl (ite_yes hfin ?_)))
      exact rest
end
end Mine
end
section
set_option maxRecDepth 100000
set_option autoImplicit false
namespace Mine
open PySem PySem.W PySem.Calls PyProof.Rows PySem.Spec

section
variable {prog : Program} {w : World} {A : Around} {E : Value → Shared → Prop} {s : Shared} {H0 : Heap}
noncomputable def SqO (o : Obj) (vals : List Value) : Prop := (∃ n, o = lstO vals n) ∨ o = tupO vals

theorem new_ne {h : Heap} {l : Addr} {o : Obj} (e : h.get? l = some o) : h.objs.size ≠ l := fun q => by have := Heap.lt_size e; rw [← q] at this; exact absurd this (Nat.lt_irrefl _)
theorem h0_none (S : ∀ b o, H0.get? b = some o → s.heap.get? b = some o) {I : Addr} (h : s.heap.get? I = none) : H0.get? I = none := by
  cases q : H0.get? I with
  | none => rfl
  | some o => rw [S _ _ q] at h; cases h
theorem iter_of {l : Addr} {o : Obj} {vals : List Value} (S : ∀ b o, H0.get? b = some o → s.heap.get? b = some o) (h : Okk s.heap (l, o)) (hs : SqO o vals) :
    ∃ Inv, Itr prog w H0 s.heap.objs.size [s.heap.objs.size, l] vals Inv ∧ ∀ (A : Around) (Q : Value → Shared → Prop) (E : Value → Shared → Prop), (∀ s1, Go H0 [] s s1 → Inv 0 s1 → s1.heap.objs.size ≠ s.heap.objs.size → s1.heap.get? s.heap.objs.size ≠ none → Q (.ref s.heap.objs.size) s1) → wpAny (model prog w) A (pyIter (.ref l)) Q E s := by
  have hI := h0_none S (not_at (h := s.heap))
  have hne := new_ne h.at_
  have sz : ∀ o : Obj, (s.heap.push o).objs.size ≠ s.heap.objs.size := fun o => by rw [Heap.size_push]; lia
  rcases hs with ⟨n, rfl⟩ | rfl
  · refine ⟨_, itrList (lst := l) (ep := n) hI, fun A Q E k => ?_⟩
    have g : Go H0 [] s { s with heap := s.heap.push (itO l 0) } := Go.push _
    refine wpAny_pyIter_list ⟨_, h.at_, rfl, _, rfl⟩ (k _ g ⟨fun p hp => ?_, by simp [hne]⟩ (sz _) ?_)
    · rcases List.mem_cons.mp hp with rfl | hp
      · exact okk_it (Heap.get?_push_size _ rfl)
      · rw [List.mem_singleton.mp hp]; exact h.go g (fun h => nomatch h)
    · show (s.heap.push (itO l 0)).get? s.heap.objs.size ≠ none
      rw [Heap.get?_push_size _ rfl]; simp
  · refine ⟨_, itrTup (tp := l) hI, fun A Q E k => ?_⟩
    have g : Go H0 [] s { s with heap := s.heap.push (itT l 0) } := Go.push _
    refine wpAny_pyIter_tuple ⟨_, h.at_, rfl, _, rfl⟩ (k _ g ⟨fun p hp => ?_, by simp [hne]⟩ (sz _) ?_)
    · rcases List.mem_cons.mp hp with rfl | hp
      · exact .of (Heap.get?_push_size _ rfl) nd_fields rfl
      · rw [List.mem_singleton.mp hp]; exact h.go g (fun h => nomatch h)
    · show (s.heap.push (itT l 0)).get? s.heap.objs.size ≠ none
      rw [Heap.get?_push_size _ rfl]; simp

theorem call_again {id : String} {b : Builtin} {args : List Value} {Q : Value → Shared → Prop} (hk : builtinKind id = none) (hp : plainId id = true)
    (hb : entryFor table id = some b) (ha : argsOk id ⟨args, []⟩)
    (hc : wpAny (model prog w) A.in1 (b ⟨args, []⟩) (fun fin s' => match fin with
      | .done f => wants Q E (.ok f) s'
      | .again c' => c'.quiet = true ∧ codeAny (model prog w) A c' (wants Q E) s') (fun e s' => wants Q E (.error e) s') s) : wpAny (model prog w) A (PySem.call (.builtin id) args) Q E s := by
  refine wpAny_call (codeAny_call_builtin hp hb ?_)
  simp only [checkBuiltinCall, hk]
  cases hsig : Manifest.signature? id with
  | none => exact wpAny_pure hc
  | some sig =>
    simp only [argsOk, hsig] at ha
    have h2 : Bind.checkArgs id sig ⟨args, []⟩ = pure () := ha
    show wpAny _ A.in1 (Bind.checkArgs id sig ⟨args, []⟩) _ _ s
    rw [h2]
    exact wpAny_pure hc

theorem kind_sumprod : builtinKind "math.sumprod" = none := by decide +kernel
theorem plain_sumprod : plainId "math.sumprod" = true := by decide +kernel
theorem entry_sumprod : entryFor table "math.sumprod" = some Builtin.«math.sumprod» := entryFor_of_fast (by kernel_rfl)
theorem args_sumprod (a b : Value) : argsOk "math.sumprod" ⟨[a, b], []⟩ := by unfold argsOk; kernel_rfl
noncomputable def z3 : T3 := (Float64.zero false, Float64.zero false, Float64.zero false)
noncomputable def dotF (ps : List (UInt64 × UInt64)) : UInt64 := Float64.add (Float64.ofInt 0) (Builtin.Math.tlToFloat (tlRun ps z3))

theorem sumprod_spec (S : ∀ b o, H0.get? b = some o → s.heap.get? b = some o) {l l' : Addr} {o o' : Obj} {ps qs : List Value} {xs ys : List UInt64} (h : Okk s.heap (l, o)) (h' : Okk s.heap (l', o')) (hs : SqO o ps) (hs' : SqO o' qs) (hx : FV ps xs) (hy : FV qs ys) (hlen : xs.length = ys.length) (h0 : 0 < xs.length)
    (hok : tlOk (xs.zip ys) z3) (hh : A.handled = none) {Q : Value → Shared → Prop} (k : ∀ t s', Go H0 [] s s' → Q (.float (dotF (xs.zip ys)) t) s') : wpAny (model prog w) A (call (.builtin "math.sumprod") [.ref l, .ref l']) Q E s := by
  refine call_again kind_sumprod plain_sumprod entry_sumprod (args_sumprod _ _) ?_
  unfold Builtin.«math.sumprod»
  refine wpAny_bind (wpAny_of_eq (a := [.ref l, .ref l']) rfl ?_)
  dsimp only
  obtain ⟨InvI, hI, hIit⟩ := iter_of (prog := prog) (w := w) S h hs
  refine wpAny_bind (hIit _ _ _ fun s1 g1 i1 hz1 hp1 => ?_)
  obtain ⟨InvJ, hJ, hJit⟩ := iter_of (prog := prog) (w := w) (s := s1) (fun b o e => g1.glob S b o e) (h'.go g1 (fun h => nomatch h)) hs'
  refine wpAny_bind (wpAny_holding (hJit _ _ _ fun s2 g2 j2 hz2 hp2 => ?_))
  refine wpAny_bind (wpAny_mkInt ?_)
  have gp : Go H0 [] s2 { s2 with toks := s2.toks + 1, heap := s2.heap.push (tupO (t3V z3)) } := (Go.ext (s := s2) (s' := { s2 with toks := s2.toks + 1 }) (fun _ _ h => h) (Nat.le_add_right s2.toks 1) rfl rfl []).trans (Go.push (s := { s2 with toks := s2.toks + 1 }) _)
  have hJI : s1.heap.objs.size ∉ [s.heap.objs.size, l] := by
    have := new_ne (h.go g1 (fun h => nomatch h)).at_
    simp [hz1, this]
  have hIJ : s.heap.objs.size ∉ [s1.heap.objs.size, l'] := by
    have := new_ne h'.at_
    simp [this, Ne.symm hz1]
  have i2 := hI.keep _ _ _ _ i1 g2 (fun p hp => nomatch hp)
  refine wpAny_bind (wpAny_newObj_type (wpAny_pure ⟨plainId_quiet plain_sp _, ?_⟩) (by show 3 ≤ _; rw [sizeLine_eq]; decide))
  refine sp_loop hI hJ hIJ hJI hx hy hlen hh _ 0 z3 _ s2.heap.objs.size _ true false rfl (Nat.zero_le _) (hI.keep _ _ _ _ i2 gp (fun p hp => nomatch hp)) (hJ.keep _ _ _ _ j2 gp (fun p hp => nomatch hp)) (Heap.get?_push_size _ rfl) hok (fun e => by lia  ) fun t s' g => ?_
  refine k t s' (((g1.trans g2).trans gp).step g fun p hp => .inr ?_)
  rcases List.mem_cons.mp hp with rfl | hp
  · exact not_at
  · rw [List.mem_singleton.mp hp]
    cases q : s.heap.get? s1.heap.objs.size with
    | none => rfl
    | some o => obtain ⟨o', z⟩ := g1.there _ _ q; rw [not_at] at z; cases z
end
end Mine
end
section
set_option maxRecDepth 100000
set_option autoImplicit false
namespace Mine
open PySem PySem.W PySem.Calls PyProof.Rows PySem.Spec
open PySem.Float64 (decode isZero isFinite fsumAdd fsumEnd fsumTop val sgn)

theorem hf_isFinite {z : Int} (h : z.natAbs ≤ 2 ^ 52) : isFinite (hf z) = true := by
  obtain ⟨m, e, hd, _⟩ := hf_dec h
  unfold isFinite; rw [hd]
theorem hf_isZero {z : Int} (h : z.natAbs ≤ 2 ^ 52) : isZero (hf z) = decide (z = 0) := by
  obtain ⟨m, e, hd, hv⟩ := hf_dec h
  have h1 := PySem.Float64.val_natAbs hd
  rw [hv] at h1
  unfold isZero; rw [hd]
  cases m with
  | zero =>
    simp only [Nat.zero_mul] at h1
    have : z = 0 := (zero_iff z).mp (Int.natAbs_eq_zero.mp h1)
    simp [this]
  | succ m =>
    have : z ≠ 0 := fun q => by
      rw [q] at h1; simp only [Int.zero_mul, Int.natAbs_zero] at h1
      have := Nat.mul_pos (Nat.succ_pos m) (Nat.two_pow_pos (e + 1074).toNat)
      rw [Nat.succ_eq_add_one] at this
      rw [← h1] at this; exact Nat.lt_irrefl _ this
    simp [this]
noncomputable def psOf (S : Int) : List UInt64 := if S = 0 then [] else [hf (2 * S)]
theorem fsum_two {a b : Int} (ha : a.natAbs ≤ 2 ^ 51) (hb : b.natAbs ≤ 2 ^ 51) : isZero (Float64.sub (hf b) (Float64.sub (Float64.add (hf a) (hf b)) (hf a))) = true ∧ Float64.add (hf a) (hf b) = hf (a + b) := by
  have h1 : Float64.add (hf a) (hf b) = hf (a + b) := hf_add (by lia  ) (by lia  ) (by omega)
  refine ⟨?_, h1⟩
  rw [h1, hf_sub (a := a + b) (b := a) (by omega) (by lia  ) (by lia  ), show a + b - a = b by lia  , hf_sub (by lia  ) (by lia  ) (by lia  ), hf_isZero (by lia  )]
  simp
theorem fsum_add {S n : Int} (hS : S.natAbs ≤ 2 ^ 50) (hn : n.natAbs ≤ 2 ^ 50) : fsumAdd (psOf S) (hf (2 * n)) = ([], hf (2 * (S + n))) := by
  unfold psOf
  split
  · rename_i h; subst h; simp [fsumAdd]
  · obtain ⟨z1, s1⟩ := fsum_two (a := 2 * S) (b := 2 * n) (by lia  ) (by lia  )
    obtain ⟨z2, s2⟩ := fsum_two (a := 2 * n) (b := 2 * S) (by lia  ) (by lia  )
    unfold fsumAdd
    have e1 : 2 * S + 2 * n = 2 * (S + n) := by lia
    have e2 : 2 * n + 2 * S = 2 * (S + n) := by lia
    by_cases hc : Float64.lt (Float64.abs (hf (2 * n))) (Float64.abs (hf (2 * S))) = true
    · first | refine ite_yes' hc ?_ | refine ite_yes hc ?_ | rw [if_pos hc]
      dsimp only
      rw [z1, s1, e1]; simp [fsumAdd]
    · first | refine ite_no' hc ?_ | refine ite_no hc ?_ | rw [if_neg hc]
      dsimp only
      rw [z2, s2, e2]; simp [fsumAdd]
theorem fsum_end (S : Int) : fsumEnd (psOf S) = hf (2 * S) := by
  unfold psOf
  split
  · rename_i h; subst h; simp only [fsumEnd, List.reverse_nil, Int.mul_zero]; rw [hf_zero]
  · simp [fsumEnd, fsumTop]

structure IV (vals : List Value) (ns : List Int) : Prop where
  len : vals.length = ns.length
  at_ : ∀ (i : Nat) n, ns[i]? = some n → ∃ t, vals[i]? = some (.int n t)
noncomputable def bitsV (xs : List UInt64) : List Value := xs.map fun x => rawInt x.toNat

section
variable {prog : Program} {w : World} {A : Around} {E : Value → Shared → Prop} {s : Shared} {H0 : Heap}
theorem plain_fs : plainId "math.fsum.loop" = true := by decide +kernel
theorem entry_fs : entryFor table "math.fsum.loop" = some Builtin.«math.fsum.loop» := entryFor_of_fast (by kernel_rfl)
theorem kind_fsum : builtinKind "math.fsum" = none := by decide +kernel
theorem plain_fsum : plainId "math.fsum" = true := by decide +kernel
theorem entry_fsum : entryFor table "math.fsum" = some Builtin.«math.fsum» := entryFor_of_fast (by kernel_rfl)
theorem args_fsum (a : Value) : argsOk "math.fsum" ⟨[a], []⟩ := by unfold argsOk; kernel_rfl

theorem not_over {n : Int} (h : (2 * n).natAbs ≤ 2 ^ 52) : ¬ PySem.Flt.Over n := by
  unfold PySem.Flt.Over
  have : 2 ^ 52 < 2 ^ 1024 - 2 ^ 970 := by decide +kernel
  lia
theorem sum_le {B : Nat} : ∀ (ns : List Int), (∀ x ∈ ns, x.natAbs ≤ B) → ns.sum.natAbs ≤ ns.length * B
  | [], _ => by simp
  | x :: r, h => by
    have h1 := sum_le r (fun y hy => h y (.tail _ hy))
    have h2 := h x (.head _)
    rw [List.sum_cons, List.length_cons, Nat.add_mul, Nat.one_mul]
    omega
theorem bits_map (xs : List UInt64) : (bitsV xs).map (fun | .int i _ => i.toNat.toUInt64 | _ => 0) = xs := by
  unfold bitsV
  rw [List.map_map]
  conv => rhs; rw [← List.map_id xs]
  refine List.map_congr_left fun x _ => ?_
  simp [rawInt]
theorem bits_un {P : Addr} {xs : List UInt64} {Q : List UInt64 → Shared → Prop} (h : s.heap.get? P = some (tupO (bitsV xs))) (k : Q xs s) :
    wpAny (model prog w) A (do return ((← seqItems? (.ref P)).getD #[]).toList.map fun | .int i _ => i.toNat.toUInt64 | _ => 0) Q E s := by
  refine wpAny_bind (wpAny_seqItems h rfl (wpAny_pure ?_))
  simp only [Option.getD_some, List.toList_toArray]
  rw [bits_map]; exact k
theorem bits_pk {xs : List UInt64} {Q : Value → Shared → Prop} (hz : xs.length ≤ 100) (k : Q (.ref s.heap.objs.size) { s with heap := s.heap.push (tupO (bitsV xs)) }) : wpAny (model prog w) A (newTuple (xs.map fun x => rawInt x.toNat)) Q E s :=
  wpAny_newObj_type k (by show (List.map _ xs).toArray.size ≤ sizeLine; rw [List.size_toArray, List.length_map, sizeLine_eq]; lia  )
theorem fs_loop {I : Addr} {own : List Addr} {vals : List Value} {Inv : Nat → Shared → Prop} (hI : Itr prog w H0 I own vals Inv) {ns : List Int} (hv : IV vals ns) (hb : ∀ x ∈ ns, x.natAbs ≤ 2 ^ 40) (hl : ns.length ≤ 1000)
    (hh : A.handled = none) {R : Result → Shared → Prop} :
    ∀ (n i : Nat) (s : Shared) (P Z : Addr), ns.length - i = n → i ≤ ns.length → Inv i s → s.heap.get? P = some (tupO (bitsV (psOf (ns.take i).sum))) → s.heap.get? Z = some (tupO (bitsV [Float64.zero false, Float64.zero false])) → Z ≠ I →
      (∀ t s', Go H0 [I] s s' → R (.ok (.ret (.float (hf (2 * ns.sum)) t))) s') →
      codeAny (model prog w) A (.builtin "math.fsum.loop" ⟨[.ref I, .ref P, .ref Z], []⟩) R s := by
  intro n
  induction n with
  | zero =>
    intro i s P Z hn hi hIi hP hZ hZI k
    have hil : i = ns.length := by grind
    subst hil
    have hvn : vals[ns.length]? = none := List.getElem?_eq_none (by rw [hv.len]; omega)
    refine codeAny_plain entry_fs plain_fs ?_
    unfold Builtin.«math.fsum.loop»
    refine wpAny_bind (bits_un hP ?_)
    refine wpAny_bind (bits_un hZ ?_)
    refine wpAny_bind (hI.done _ _ _ _ _ hh hIi hvn fun s1 g1 => ?_)
    dsimp only
    rw [List.take_length, fsum_end]
    refine ite_no (by decide +kernel) ?_
    exact wpAny_bind (wpAny_mkFloat (wpAny_pure (k _ _ (g1.trans (.ext (s := s1) (s' := { s1 with toks := s1.toks + 1 }) (fun _ _ h => h) (Nat.le_add_right s1.toks 1) rfl rfl _)))))
  | succ n ih =>
    intro i s P Z hn hi hIi hP hZ hZI k
    refine codeAny_plain entry_fs plain_fs ?_
    unfold Builtin.«math.fsum.loop»
    obtain ⟨x, hx⟩ : ∃ x, ns[i]? = some x := ⟨_, List.getElem?_eq_getElem (by lia  )⟩
    obtain ⟨tx, hvx⟩ := hv.at_ i x hx
    have hxb := hb x (List.mem_of_getElem? hx)
    refine wpAny_bind (bits_un hP ?_)
    refine wpAny_bind (bits_un hZ ?_)
    refine wpAny_bind (hI.item _ _ _ _ i _ hh hIi hvx fun s1 g1 hI1 => ?_)
    refine wpAny_bind (wpAny_holding (PySem.Flt.realArg_int hh (fun h => absurd h (not_over (by omega))) fun _ => ?_))
    have hS := sum_le (B := 2 ^ 40) (ns.take i) (fun y hy => hb y (List.mem_of_mem_take hy))
    have hS' : (ns.take i).sum.natAbs ≤ 1000 * 2 ^ 40 := Nat.le_trans hS (Nat.mul_le_mul_right _ (by rw [List.length_take]; lia  ))
    have hT : (ns.take (i + 1)).sum = (ns.take i).sum + x := by rw [List.take_add_one, hx, List.sum_append]; simp
    rw [hf_ofInt (by (clear hT; lia)  ), fsum_add (by lia  ) (by lia  )]
    dsimp only
    refine ite_yes (hf_isFinite (by (clear hT; omega))) ?_
    have e4 : (if isZero (hf (2 * ((ns.take i).sum + x))) = true then ([] : List UInt64) else [] ++ [hf (2 * ((ns.take i).sum + x))]) = psOf (ns.take (i + 1)).sum := by
      rw [hf_isZero (by omega), hT]
      unfold psOf
      by_cases h0 : (ns.take i).sum + x = 0
      · simp [h0]
      · have : ¬ 2 * ((ns.take i).sum + x) = 0 := by lia
        simp [h0, this]
    rw [e4]
    have gp : Go H0 [] s1 { s1 with toks := s1.toks + 1, heap := s1.heap.push (tupO (bitsV (psOf (ns.take (i + 1)).sum))) } := (Go.ext (s := s1) (s' := { s1 with toks := s1.toks + 1 }) (fun _ _ h => h) (Nat.le_add_right s1.toks 1) rfl rfl []).trans (Go.push (s := { s1 with toks := s1.toks + 1 }) _)
    refine wpAny_bind (bits_pk (by unfold psOf; split <;> simp) (wpAny_pure ⟨plainId_quiet plain_fs _, ?_⟩))
    refine ih (i + 1) _ s1.heap.objs.size Z (by grind) (by lia  ) (hI.keep _ _ _ _ hI1 gp (fun p hp => nomatch hp)) (Heap.get?_push_size _ rfl) (gp.nd _ _ (g1.nd _ _ hZ (fun h => hZI (List.mem_singleton.mp h)) nd_seq) (fun h => nomatch h) nd_seq) hZI fun t s' g => ?_
    exact k t s' (g1.trans ((gp.mono (fun p hp => nomatch hp)).trans g))
theorem fsum_spec (S : ∀ b o, H0.get? b = some o → s.heap.get? b = some o) {l : Addr} {o : Obj} {vals : List Value} {ns : List Int} (h : Okk s.heap (l, o)) (hs : SqO o vals) (hv : IV vals ns) (hb : ∀ x ∈ ns, x.natAbs ≤ 2 ^ 40) (hl : ns.length ≤ 1000)
    (hh : A.handled = none) {Q : Value → Shared → Prop} (k : ∀ t s', Go H0 [] s s' → Q (.float (hf (2 * ns.sum)) t) s') : wpAny (model prog w) A (call (.builtin "math.fsum") [.ref l]) Q E s := by
  refine call_again kind_fsum plain_fsum entry_fsum (args_fsum _) ?_
  unfold Builtin.«math.fsum»
  refine wpAny_bind (wpAny_of_eq (a := .ref l) rfl ?_)
  obtain ⟨Inv, hI, hit⟩ := iter_of (prog := prog) (w := w) S h hs
  refine wpAny_bind (hit _ _ _ fun s1 g1 i1 hz1 hp1 => ?_)
  have gp1 : Go H0 [] s1 { s1 with heap := s1.heap.push (tupO (bitsV [])) } := Go.push _
  refine wpAny_bind (bits_pk (xs := []) (by simp) ?_)
  have gp2 : Go H0 [] { s1 with heap := s1.heap.push (tupO (bitsV [])) } { s1 with heap := (s1.heap.push (tupO (bitsV []))).push (tupO (bitsV [Float64.zero false, Float64.zero false])) } := Go.push (s := { s1 with heap := s1.heap.push (tupO (bitsV [])) }) _
  refine wpAny_bind (bits_pk (xs := [Float64.zero false, Float64.zero false]) (by simp) (wpAny_pure ⟨plainId_quiet plain_fs _, ?_⟩))
  have i3 := hI.keep _ _ _ _ (hI.keep _ _ _ _ i1 gp1 (fun p hp => nomatch hp)) gp2 (fun p hp => nomatch hp)
  have hP : ((s1.heap.push (tupO (bitsV []))).push (tupO (bitsV [Float64.zero false, Float64.zero false]))).get? s1.heap.objs.size = some (tupO (bitsV [])) := Heap.get?_push_of_some _ (Heap.get?_push_size _ rfl)
  refine fs_loop hI hv hb hl hh _ 0 _ s1.heap.objs.size _ rfl (Nat.zero_le _) i3 (by simpa [psOf] using hP) (Heap.get?_push_size _ rfl) ?_ fun t s' g => ?_
  · intro e
    have := Heap.lt_size (h := s1.heap) (a := s.heap.objs.size) (o := (s1.heap.get? s.heap.objs.size).get (Option.isSome_iff_ne_none.mpr hp1)) (by simp)
    have h3 : (s1.heap.push (tupO (bitsV []))).objs.size = s.heap.objs.size := e
    rw [← h3, Heap.size_push] at this
    exact absurd this (Nat.not_lt.mpr (Nat.le_succ _))
  · exact k t s' (((g1.trans gp1).trans gp2).step g fun p hp => .inr (by rw [List.mem_singleton.mp hp]; exact not_at))
end
end Mine
end
section
set_option maxRecDepth 100000
set_option autoImplicit false
set_option genInjectivity false
set_option genSizeOf false
namespace Mine
open PySem PySem.W PySem.Calls PyProof.Rows PySem.Spec

structure Ad2 where
  sqrt : Addr
  corr : Addr
  near : Addr
  plac : Addr
  told : Addr
  hold : Addr
  law : Addr
  se : Addr
  corrK : Addr
  rank : Addr
inductive ExcK (K : Frag) (C : Addr) (bmB : List Value) (newId : String) : Prop
  | mk {bm : List Value} {N : Addr} {nm qn : Str} {bs : List Value} {hdct : Bool} {sn : List Str} {sub : List Value} {ab : Bool} {col : Option Bool} {dd : Option Addr} {k0 k1 k2 k3 k5 : Option Value} (h : K.lookup C = some (excClassObj nm qn C N bs bm hdct sn sub ab col dd k0 k1 k2 k3 k5 newId))
    (hok : nsOkIn K N = true) (hni : nsIn K N "__init__" = some none) (ht : tailIn K bmB bm = true) : ExcK K C bmB newId
structure KG (K : Frag) (b : Ad2) : Prop where
  sqrt : FnK K b.sqrt "_sqrtprod" dSqrt .none .none
  corr : FnK K b.corr "correlation" dCorr .none (.ref b.corrK)
  near : FnK K b.near "_law_is_nearest" dNear .none .none
  plac : FnK K b.plac "_law_places" dPlac .none .none
  told : FnK K b.told "_law_told" dTold .none .none
  hold : FnK K b.hold "_law_holds" dHold .none .none
  law : FnK K b.law "law" dLaw .none .none
  nfsum : nsIn K mainGlobals "fsum" = some (some (.builtin "math.fsum"))
  nisfin : nsIn K mainGlobals "isfinite" = some (some (.builtin "math.isfinite"))
  nsqrt : nsIn K mainGlobals "sqrt" = some (some (.builtin "math.sqrt"))
  nsump : nsIn K mainGlobals "sumprod" = some (some (.builtin "math.sumprod"))
  nrank : nsIn K mainGlobals "_rank" = some (some (.ref b.rank))
  krank : keepIn K (.ref b.rank) = true
  nsqp : nsIn K mainGlobals "_sqrtprod" = some (some (.ref b.sqrt))
  ksqp : keepIn K (.ref b.sqrt) = true
  dmeth : ∃ t, nsIn K b.corrK "method" = some (some (.str "linear" t))
  nse : nsIn K mainGlobals "StatisticsError" = some (some (.ref b.se))
  exc : ExcK K b.se [.type "ValueError", .type "Exception", .type "BaseException", .type "object"] "ValueError.__new__"
  sestr : findIn K (.ref b.se) "__str__" = some (some (.builtin "BaseException.__str__"))
  semro : mroIn K b.se (.type "BaseException") = some true
  ncorr : nsIn K mainGlobals "correlation" = some (some (.ref b.corr))
  nnear : nsIn K mainGlobals "_law_is_nearest" = some (some (.ref b.near))
  nplac : nsIn K mainGlobals "_law_places" = some (some (.ref b.plac))
  ntold : nsIn K mainGlobals "_law_told" = some (some (.ref b.told))
  nhold : nsIn K mainGlobals "_law_holds" = some (some (.ref b.hold))
  kcorr : keepIn K (.ref b.corr) = true
  knear : keepIn K (.ref b.near) = true
  kplac : keepIn K (.ref b.plac) = true
  ktold : keepIn K (.ref b.told) = true
  khold : keepIn K (.ref b.hold) = true
  nzde : nsIn K mainGlobals "ZeroDivisionError" = some none
  nmin : nsIn K mainGlobals "min" = some none
  nmax2 : nsIn K mainGlobals "max" = some none
  nabs : nsIn K mainGlobals "abs" = some none
  nsum : nsIn K mainGlobals "sum" = some none
  nstr : nsIn K mainGlobals "str" = some none
  nlen2 : nsIn K mainGlobals "len" = some none
  ntype2 : nsIn K mainGlobals "type" = some none
  nfloat2 : nsIn K mainGlobals "float" = some none
  nzip2 : nsIn K mainGlobals "zip" = some none
  nlist2 : nsIn K mainGlobals "list" = some none

noncomputable def twoF : UInt64 := 0x4000000000000000
noncomputable def hF (x y : UInt64) : UInt64 := Float64.sqrt (Float64.mul x y)
noncomputable def sqrtF (x y : UInt64) : UInt64 := if Float64.isZero (hF x y) = true then hF x y else Float64.add (hF x y) (Float64.div (dotF [(x, y), (hF x y, Float64.neg (hF x y))]) (Float64.mul twoF (hF x y)))
structure SqOk (x y : UInt64) : Prop where
  nan : ¬ (Float64.isNaN (hF x y) && !Float64.isNaN (Float64.mul x y)) = true
  fin : Float64.isFinite (hF x y) = true
  zero : Float64.isZero (hF x y) = true → Float64.isZero x = true ∨ Float64.isZero y = true
  ok : Float64.isZero (hF x y) ≠ true → tlOk [(x, y), (hF x y, Float64.neg (hF x y))] z3 ∧ Float64.isZero (Float64.mul twoF (hF x y)) = false

section
variable {K : Frag} {b : Ad2} {H0 : Heap} {mg mb : Str → Option Value} {A : Around} {l : List Env} {s : Shared} {prog : Program} {w : World} {E : Value → Shared → Prop}

theorem fv2 {x y : UInt64} {t u : Tok} : FV [.float x t, .float y u] [x, y] := ⟨rfl, fun i z h => by
  match i with
  | 0 => cases h; exact ⟨t, rfl⟩
  | 1 => cases h; exact ⟨u, rfl⟩
  | n + 2 => cases h⟩

theorem sqrtprod_spec (G : Gl K H0 mg mb) (F : KG K b) (S : St H0 A l s) {x y : UInt64} {t u : Tok} (ok : SqOk x y) (hroom : A.depth < recursionLimit) (hh : A.handled = none) {Q : Value → Shared → Prop}
    (k : ∀ t s', Go H0 [] s s' → Q (.float (sqrtF x y) t) s') : wpAny (model prog w) A (call (.ref b.sqrt) [.float x t, .float y u]) Q E s := by
  refine wpAny_call (enterF (binds := [(Str.ofString "x", .float x t), (Str.ofString "y", .float y u)]) G S F.sqrt [] [] (fun p hp => nomatch hp) List.nodup_nil hroom (fun _ _ _ _ _ _ => BindsTo.of_eq rfl) (by decide) (locs rfl) fun L cdv s1 _ C => ?_)
  refine wpAny_execs_cons (wpAny_Assign_Name (Call_ (C.global G F.nsqrt (callWith_builtin1 (args_cons (wpAny_BinOp (C.name rfl (C.name rfl (mul_float (args_nil ?_))))))))))
  refine PySem.Flt.call_sqrt_float hh (fun h => absurd h ok.nan) fun _ => ?_
  have C1 := C.tok 2
  refine C1.set fun s2 C2 => ?_
  refine wpAny_execs_cons (wpAny_If (wpAny_isTrue_Not (wpAny_isTrue_value (Call_ (C2.global G F.nisfin (callWith_builtin1 (args_cons (C2.name rfl (args_nil (PySem.Flt.call_isfinite_float (wpAny_truthy_bool ?_)))))))))))
  refine ite_no' (by rw [show Float64.isFinite (Float64.sqrt (Float64.mul x y)) = true from ok.fin]; rfl) (wpAny_execs_nil ?_)
  refine wpAny_execs_cons (wpAny_If (wpAny_isTrue_Not (wpAny_isTrue_value (C2.name rfl (AutoFloatOps.truthy_0 ?_)))))
  by_cases hz : Float64.isZero (hF x y) = true
  · have hz' : Float64.isZero (Float64.sqrt (Float64.mul x y)) = true := hz
    refine ite_yes' (by rw [hz']; rfl) ?_
    refine wpAny_execs_cons (wpAny_If (wpAny_isTrue_BoolOp (wpAny_allTrue_And_cons (wpAny_isTrue_value (C2.name rfl (AutoFloatOps.truthy_0 ?_))))))
    have kk : ∀ tt, Q (.float (Float64.sqrt (Float64.mul x y)) tt) s2 := fun tt => by
      have := k tt s2 C2.go
      unfold sqrtF at this
      rw [if_pos hz] at this; exact this
    by_cases hx : Float64.isZero x = true
    · refine ite_no' (by rw [hx]; rfl) ?_
      refine ite_no' rfl ?_
      exact wpAny_execs_nil (wpAny_execs_cons (wpAny_Return_some (C2.name rfl (kk _))))
    · have hy : Float64.isZero y = true := (ok.zero hz).resolve_left hx
      refine ite_yes' (by rw [eq_false_of_ne_true hx]; rfl) ?_
      refine wpAny_allTrue_And_cons (wpAny_isTrue_value (C2.name rfl (AutoFloatOps.truthy_0 ?_)))
      refine ite_no' (by rw [hy]; rfl) ?_
      refine ite_no' rfl ?_
      exact wpAny_execs_nil (wpAny_execs_cons (wpAny_Return_some (C2.name rfl (kk _))))
  · have hz' : Float64.isZero (Float64.sqrt (Float64.mul x y)) = false := eq_false_of_ne_true hz
    obtain ⟨ok1, ok2⟩ := ok.ok hz
    refine ite_no' (by rw [hz']; rfl) (wpAny_execs_nil ?_)
    refine wpAny_execs_cons (wpAny_Assign_Name (Call_ (C2.global G F.nsump (PyProof.Rows.callWith_builtin1 ?_))))
    refine args_cons (tup_made ?_)
    refine args_cons (C2.name (v := .float x t) rfl (args_cons (C2.name (v := .float (Float64.sqrt (Float64.mul x y)) (s1.toks + 1)) rfl (args_nil ⟨_, _, _, _, _, _, _, _, C2, by rw [sizeLine_eq]; show 2 ≤ _; decide, fun t1 s3 C3 n1 n1' => ?_⟩))))
    refine args_cons (tup_made ?_)
    refine args_cons (C3.name (v := .float y u) rfl (args_cons (wpAny_UnaryOp (C3.name (v := .float (Float64.sqrt (Float64.mul x y)) (s1.toks + 1)) rfl (neg_float (args_nil ⟨_, _, _, _, _, _, _, _, C3.tok 1, by rw [sizeLine_eq]; show 2 ≤ _; decide, fun t2 s4 C4 n2 n2' => args_nil ?_⟩))))))
    refine sumprod_spec (H0 := H0) C4.st.glob (C4.ok 1 rfl) (C4.ok 0 rfl) (.inr rfl) (.inr rfl) fv2 fv2 rfl (by show 0 < 2; decide) ok1 (by exact hh) fun t3 s5 g5 => ?_
    have C5 := C4.call g5
    refine C5.set fun s6 C6 => ?_
    refine wpAny_execs_cons (wpAny_Return_some (wpAny_BinOp (C6.name rfl (wpAny_BinOp (C6.name rfl (wpAny_BinOp (wpAny_Constant_float ((C6.tok 1).name rfl (mul_float (truediv_float_or (by exact hh) (fun h => ?_) fun _ => add_float ?_))))))))))
    · have h2 : Float64.isZero (Float64.mul twoF (hF x y)) = true := h
      rw [ok2] at h2; cases h2
    · have := k (s6.toks + 1 + 1 + 1) _ (C6.tok 4).go
      unfold sqrtF at this
      rw [if_neg hz] at this
      exact this
end
end Mine
end
section
set_option maxRecDepth 100000
set_option autoImplicit false
namespace Mine
open PySem PySem.W PySem.Calls PyProof.Rows PySem.Spec

noncomputable abbrev cellO (v : Option Value) : Obj := { cls := .type "cell", data := .cell v }
noncomputable def ledC (cs : List (Str × Addr)) (cm : Str → Option Value) : List (Addr × Obj) := cs.map fun x => (x.2, cellO (cm x.1))

section
variable {H0 : Heap} {A : Around} {l : List Env} {M : List Addr} {sE : Shared} {L : Addr} {m : Str → Option Value} {led : List (Addr × Obj)} {s : Shared} {MM : Model} {E : Value → Shared → Prop} {env : Env}

theorem Cx.setCell (C : Cx H0 A l M sE L m led s) {x : Str} {v : Value} {c : Addr} {v₀ : Option Value} {Q : Unit → Shared → Prop} (i : Nat) (hi : led[i]? = some (c, cellO v₀)) (hc : env.cells.lookup x = some c) (hM : c ∈ M ∨ sE.heap.get? c = none) (hH : H0.get? c = none)
    (h : ∀ s', Cx H0 A l M sE L m (led.set i (c, cellO (some v))) s' → Q () s') (hk : env.scope.kind = .function := by rfl) (hl : env.kindOf x = some .cell := by rfl) : wpAny MM A (storeName env x v) Q E s := by
  unfold storeName
  simp only [hl, hk]
  refine wpAny_bind (wpAny_cellOf hc ?_)
  unfold cellSet
  refine wpAny_bind (wpAny_load (C.at i hi) ?_)
  refine wpAny_update (C.at i hi) (h _ ?_)
  exact C.upd i (f := fun o => { o with data := .cell (some v) }) hi rfl nd_cell rfl hM hH
theorem Cx.ldCell (C : Cx H0 A l M sE L m led s) {x : Str} {pos : Pos} {v : Value} {c : Addr} {Q : Value → Shared → Prop} (i : Nat) (hi : led[i]? = some (c, cellO (some v))) (hc : env.cells.lookup x = some c) (h : Q v s)
    (hk : env.scope.kind = .function := by rfl) (hl : env.kindOf x = some .cell := by rfl) (hb : (x == ("__debug__" : Str)) = false := by decide) : wpAny MM A (eval (.Name x pos) env) Q E s :=
  wpAny_Name (wpAny_loadName_cell hk hl hc ⟨_, C.at i hi, rfl⟩ h) hb
theorem Cx.ldFree (C : Cx H0 A l M sE L m led s) {x : Str} {pos : Pos} {v : Value} {c : Addr} {Q : Value → Shared → Prop} (i : Nat) (hi : led[i]? = some (c, cellO (some v))) (hc : env.cells.lookup x = some c) (h : Q v s)
    (hk : env.scope.kind = .function := by rfl) (hl : env.kindOf x = some .free := by rfl) (hb : (x == ("__debug__" : Str)) = false := by decide) (hn : (x == ("__classdict__" : Str)) = false := by decide) : wpAny MM A (eval (.Name x pos) env) Q E s :=
  wpAny_Name (wpAny_loadName_free hk hl hc ⟨_, C.at i hi, rfl⟩ h hn) hb

theorem ledC_set {cs : List (Str × Addr)} (hn : (cs.map (·.1)).Nodup) {cm : Str → Option Value} {x : Str} {v : Value} {c : Addr} (hc : cs.lookup x = some c) :
    ∃ i, (ledC cs cm)[i]? = some (c, cellO (cm x)) ∧ (ledC cs cm).set i (c, cellO (some v)) = ledC cs (updM cm x v) := by
  induction cs with
  | nil => cases hc
  | cons p r ih =>
    obtain ⟨n, a⟩ := p
    rw [List.map_cons, List.nodup_cons] at hn
    rw [List.lookup_cons] at hc
    cases hb : x == n with
    | true =>
      rw [hb] at hc
      cases hc
      have e : x = n := beq_iff_eq.mp hb
      subst e
      refine ⟨0, rfl, ?_⟩
      show (c, cellO (some v)) :: ledC r cm = (c, cellO (if x = x then some v else cm x)) :: ledC r (updM cm x v)
      first | refine ite_yes' rfl ?_ | refine ite_yes rfl ?_ | rw [if_pos rfl]
      congr 1
      unfold ledC
      refine List.map_congr_left fun y hy => ?_
      have : y.1 ≠ x := fun e => hn.1 (e ▸ List.mem_map_of_mem (f := (·.1)) hy)
      simp only [if_neg this]
    | false =>
      rw [hb] at hc
      obtain ⟨i, h1, h2⟩ := ih hn.2 hc
      refine ⟨i + 1, h1, ?_⟩
      have : n ≠ x := fun e => by rw [e] at hb; simp at hb
      show (a, cellO (cm n)) :: (ledC r cm).set i (c, cellO (some v)) = (a, cellO (if n = x then some v else cm n)) :: ledC r (updM cm x v)
      rw [h2, if_neg this]

theorem bind_cx (f : Str × Value → PUnit → Sem (ForInStep PUnit)) (hf : ∀ n v u, f (n, v) u = (do storeName env n v; pure (.yield ⟨⟩))) (hk : env.scope.kind = .function) (hL : env.locals = L) (hnd : (env.cells.map (·.1)).Nodup)
    (hM : ∀ x ∈ env.cells, sE.heap.get? x.2 = none ∧ H0.get? x.2 = none) :
    ∀ (binds : List (Str × Value)) (m cm : Str → Option Value) (s : Shared) (Q : PUnit → Shared → Prop), Cx H0 A l M sE L m (ledC env.cells cm ++ led) s →
      (∀ x ∈ binds, env.kindOf x.1 = some .local ∨ (env.kindOf x.1 = some .cell ∧ (env.cells.lookup x.1).isSome = true)) →
      (∀ s', Cx H0 A l M sE L (bindL env.kindOf binds m) (ledC env.cells (bindC env.kindOf binds cm) ++ led) s' → Q ⟨⟩ s') → wpAny MM A (forIn binds ⟨⟩ f) Q E s
  | [], m, cm, s, Q, C, _, h => by rw [List.forIn_nil]; exact wpAny_pure (h s C)
  | (n, v) :: r, m, cm, s, Q, C, hkind, h => by
    rw [List.forIn_cons, hf]
    have hr : ∀ y ∈ r, env.kindOf y.1 = some .local ∨ (env.kindOf y.1 = some .cell ∧ (env.cells.lookup y.1).isSome = true) := fun y hy => hkind y (List.mem_cons_of_mem _ hy)
    rcases hkind (n, v) List.mem_cons_self with hl | ⟨hl, hc⟩
    · refine wpAny_bind (wpAny_bind (C.store (env := env) hL (fun s' C' => wpAny_pure (bind_cx f hf hk hL hnd hM r _ _ s' Q C' hr fun s'' C'' => h s'' ?_)) hl (by rw [hk]; rfl)))
      unfold bindL bindC; rw [if_pos hl, if_pos hl]; exact C''
    · obtain ⟨c, hc⟩ := Option.isSome_iff_exists.mp hc
      have hnl : ¬ env.kindOf n = some .local := by rw [hl]; decide
      obtain ⟨i, h1, h2⟩ := ledC_set (cm := cm) (v := v) hnd hc
      have hil : i < (ledC env.cells cm).length := (List.getElem?_eq_some_iff.mp h1).1
      have h1' : (ledC env.cells cm ++ led)[i]? = some (c, cellO (cm n)) := by rw [List.getElem?_append_left hil]; exact h1
      have hcm := hM _ (mem_of_lookup hc)
      refine wpAny_bind (wpAny_bind (C.setCell i h1' hc (.inr hcm.1) hcm.2 (fun s' C' => wpAny_pure (bind_cx f hf hk hL hnd hM r m (updM cm n v) s' Q (by rw [List.set_append_left _ _ hil, h2] at C'; exact C') hr fun s'' C'' => h s'' (by unfold bindL bindC; rw [if_neg hnl, if_neg hnl]; exact C''))) hk hl))
end
end Mine
end
section
set_option maxRecDepth 100000
set_option autoImplicit false
namespace Mine
open PySem PySem.W PySem.Calls PyProof.Rows PySem.Spec

theorem cells_made : ∀ (names : List (Str × NameKind)) (h : Heap) (lo : Nat) (acc : List (Str × Addr)), (∀ x ∈ acc, h.get? x.2 = some (cellO none) ∧ lo ≤ x.2) → (acc.map (·.2)).Nodup → lo ≤ h.objs.size →
    (∀ x ∈ cellsFrom h.objs.size names acc, (pushCells h names).get? x.2 = some (cellO none) ∧ lo ≤ x.2) ∧ ((cellsFrom h.objs.size names acc).map (·.2)).Nodup
  | [], _, _, _, x, hn, _ => ⟨x, hn⟩
  | (name, kind) :: r, h, lo, acc, x, hn, hlo => by
    unfold pushCells cellsFrom
    split
    · have := cells_made r (h.push (cellO none)) lo ((name, h.objs.size) :: acc) (fun y hy => by
        rcases List.mem_cons.mp hy with rfl | hy
        · exact ⟨Heap.get?_push_size _ rfl, hlo⟩
        · exact ⟨Heap.get?_push_of_some _ (x y hy).1, (x y hy).2⟩) (by
        rw [List.map_cons]
        refine List.nodup_cons.mpr ⟨fun hm => ?_, hn⟩
        obtain ⟨y, hy, e⟩ := List.mem_map.mp hm
        have := Heap.lt_size (x y hy).1
        have e' : y.2 = h.objs.size := e
        rw [e'] at this
        exact Nat.lt_irrefl _ this) (by rw [Heap.size_push]; exact Nat.le_succ_of_le hlo)
      rwa [Heap.size_push] at this
    · exact cells_made r h lo acc x hn hlo

section
variable {K : Frag} {H0 : Heap} {mg mb : Str → Option Value} {A : Around} {l : List Env} {s : Shared} {prog : Program} {w : World}

theorem enterCX {R : Result → Shared → Prop} {f : Addr} {qual : Str} {d : Arguments × List Stmt × Scope} {dV kV : Value} {args : Args} (G : Gl K H0 mg mb) (S : St H0 A l s) (fk : FnK K f qual d dV kV) (M : List Addr)
    (hroom : A.depth < recursionLimit) (hnd : ∀ n, ((cellsFrom n d.2.2.names []).map (·.1)).Nodup)
    (hbind : ∀ name doc pm an cdv ct E', wpAny (model prog w) A.in1 (bindArgs (fnOf name qual d.1 d.2.1 d.2.2 dV kV doc pm an cdv ct) args) (fun binds s₁ => (∀ b o, s.heap.get? b = some o → s₁.heap.get? b = some o) ∧ s.toks ≤ s₁.toks ∧ s₁.gens = s.gens ∧ s₁.os = s.os ∧
      (∀ n, ∀ x ∈ binds, d.2.2.names.lookup x.1 = some .local ∨ (d.2.2.names.lookup x.1 = some .cell ∧ ((cellsFrom n d.2.2.names []).lookup x.1).isSome = true)) ∧ ∃ led, (∀ p ∈ led, Okk s₁.heap p) ∧ (led.map (·.1)).Nodup ∧
      ∀ L cdv s', codeIn K cdv qual = true → Cx H0 (A.deeper (envOfC qual d.2.2 L f cdv)) (envOfC qual d.2.2 L f cdv :: l) M s L (bindL (envOfC qual d.2.2 L f cdv).kindOf binds fun _ => none) (ledC (cellsFrom (L + 1) d.2.2.names []) (bindC (envOfC qual d.2.2 L f cdv).kindOf binds fun _ => none) ++ led) s' →
      (∀ x ∈ cellsFrom (L + 1) d.2.2.names [], Nw H0 s x.2) →
      wpAny (model prog w) (A.deeper (envOfC qual d.2.2 L f cdv)) (execs d.2.1 (envOfC qual d.2.2 L f cdv)) (qRet R)
        (eOut prog w (A.deeper (envOfC qual d.2.2 L f cdv)) (envOfC qual d.2.2 L f cdv) R) s') E' s)
    (hco : d.2.2.isCoroutine = false := by rfl) (hgen : d.2.2.isGenerator = false := by rfl) (hk : d.2.2.kind = .function := by rfl) :
    codeAny (model prog w) A (.call (.ref f) args) R s := by
  obtain ⟨name, doc, pm, an, cdv, ct, oc, od, osl, ho, hcd⟩ := fk.ex
  refine codeAny_call_function (fd := fnOf name qual d.1 d.2.1 d.2.2 dV kV doc pm an cdv ct) hroom (S.X G _ _ ho) rfl hco hgen rfl (codeRec_of (S.X G) hcd) (wpAny_mono (hbind _ _ _ _ _ _ _) (fun binds s₁ ⟨k1, k2, k3, k4, hkind, led, hled, hnod, h⟩ => ?_) fun _ _ z => z)
  simp only [newFunctionEnv, Option.isSome_none, Bool.false_eq_true, if_false]
  refine wpAny_bind (wpAny_alloc ?_)
  refine wpAny_bind (wpAny_layCells _ (fun name kind cells => by cases hkc : kind == NameKind.cell <;> simp [hkc]) _ _ _ _ ?_)
  have hsz : (s₁.heap.push { cls := .type "frame", data := .dict #[] }).objs.size = s₁.heap.objs.size + 1 := Heap.size_push ..
  rw [show ({ s₁ with heap := s₁.heap.push { cls := .type "frame", data := .dict #[] } } : Shared).heap.objs.size = s₁.heap.objs.size + 1 from hsz]
  obtain ⟨cm1, cm2⟩ := cells_made d.2.2.names (s₁.heap.push { cls := .type "frame", data := .dict #[] }) (s₁.heap.objs.size + 1) [] (fun x hx => nomatch hx) List.nodup_nil (Nat.le_of_eq hsz.symm)
  rw [hsz] at cm1 cm2
  have keep : ∀ b o, s₁.heap.get? b = some o → (pushCells (s₁.heap.push { cls := .type "frame", data := .dict #[] }) d.2.2.names).get? b = some o := fun b o e => pushCells_keeps _ _ b o (Heap.get?_push_of_some _ e)
  have hs1 : ∀ {x : Addr}, s₁.heap.objs.size ≤ x → s₁.heap.get? x = none := fun {x} hx => by
    cases q : s₁.heap.get? x with
    | none => rfl
    | some o => exact absurd (Heap.lt_size q) (Nat.not_lt.mpr hx)
  have hs0 : ∀ {x : Addr}, s₁.heap.objs.size ≤ x → s.heap.get? x = none := fun {x} hx => by
    cases q : s.heap.get? x with
    | none => rfl
    | some o => have := k1 _ _ q; rw [hs1 hx] at this; cases this
  have hH0 : ∀ {x : Addr}, s₁.heap.objs.size ≤ x → H0.get? x = none := fun {x} hx => by
    cases q : H0.get? x with
    | none => rfl
    | some o => have := S.glob _ _ q; rw [hs0 hx] at this; cases this
  have hcl : ∀ x ∈ cellsFrom (s₁.heap.objs.size + 1) d.2.2.names [], s₁.heap.objs.size ≤ x.2 := fun x hx => Nat.le_of_succ_le (cm1 x hx).2
  generalize hhp : pushCells (s₁.heap.push { cls := .type "frame", data := .dict #[] }) d.2.2.names = hp at cm1 keep
  have gg : Go H0 [] s { s₁ with heap := hp } := Go.ext (s := s) (s' := { s₁ with heap := hp }) (fun b o e => keep _ _ (k1 _ _ e)) k2 k3 k4 _
  have C0 : Cx H0 A l M s s₁.heap.objs.size (fun _ => none) (ledC (cellsFrom (s₁.heap.objs.size + 1) d.2.2.names []) (fun _ => none) ++ led) { s₁ with heap := hp } := by
    refine ⟨S.go gg, gg.mono (fun p h => nomatch h), ?_, hs0 (Nat.le_refl _), hH0 (Nat.le_refl _), fun p hp' => ?_, fun p hp' => ?_, ?_⟩
    · rw [← hhp]; exact (Heap.Ns.new s₁.heap (.type "frame")).keeps (pushCells_keeps _ _)
    · rcases List.mem_append.mp hp' with h1 | h1
      · obtain ⟨x, hx, rfl⟩ := List.mem_map.mp h1
        exact .of (cm1 x hx).1 nd_cell rfl
      · have := hled p h1
        exact ⟨keep _ _ this.at_, this.nd, fun dx e => by obtain ⟨o, e1, e2⟩ := this.dx dx e; exact ⟨o, keep _ _ e1, e2⟩⟩
    · rcases List.mem_append.mp hp' with h1 | h1
      · obtain ⟨x, hx, rfl⟩ := List.mem_map.mp h1
        exact fun e => by cases e
      · intro e
        obtain ⟨o, e1, e2⟩ := (hled p h1).dx _ e
        rw [hs1 (Nat.le_refl _)] at e1; cases e1
    · rw [List.map_append]
      refine List.nodup_append.mpr ⟨?_, hnod, fun a ha b hb e => ?_⟩
      · have : (ledC (cellsFrom (s₁.heap.objs.size + 1) d.2.2.names []) fun _ => none).map (·.1) = (cellsFrom (s₁.heap.objs.size + 1) d.2.2.names []).map (·.2) := by unfold ledC; rw [List.map_map]; rfl
        rw [this]; exact cm2
      · obtain ⟨p, hp1, rfl⟩ := List.mem_map.mp ha
        obtain ⟨x, hx, rfl⟩ := List.mem_map.mp hp1
        obtain ⟨q, hq, e2⟩ := List.mem_map.mp hb
        have h1 := (hled q hq).at_
        have e3 : q.1 = x.2 := e2.trans e.symm
        rw [e3, hs1 (hcl x hx)] at h1; cases h1
  refine wpAny_bind (bind_cx (env := envOfC qual d.2.2 s₁.heap.objs.size f cdv) _ (fun _ _ _ => rfl) hk rfl (hnd _) (fun x hx => ⟨hs0 (hcl x hx), hH0 (hcl x hx)⟩) binds (fun _ => none) (fun _ => none) _ _ (C0.around (A' := A.in1) rfl) (hkind _) fun s' C' => wpAny_pure ⟨C'.st.lim G, codeAny_func ?_⟩)
  refine h s₁.heap.objs.size cdv s' hcd ?_ fun x hx => ⟨hs0 (hcl x hx), hH0 (hcl x hx)⟩
  refine { C' with st := ⟨C'.st.glob, ?_, fun env he => ?_, C'.st.toks⟩ }
  · show (Around.deeper A _).frames = _
    unfold Around.deeper; rw [S.frames]; rfl
  · rcases List.mem_cons.mp he with rfl | he
    · obtain ⟨oL, es, n, h1, h2⟩ := ns_dict C'.ns
      exact ⟨by show d.2.2.kind ≠ _; rw [hk]; decide, _, oL, es, n, rfl, hH0 (Nat.le_refl _), h1, h2⟩
    · exact C'.st.fr env he
end
end Mine
end
section
set_option maxRecDepth 100000
set_option autoImplicit false
namespace Mine
open PySem PySem.W PySem.Calls PyProof.Rows PySem.Spec

section
variable {H0 : Heap} {A : Around} {l : List Env} {M : List Addr} {sE : Shared} {L : Addr} {m : Str → Option Value} {led : List (Addr × Obj)} {s : Shared} {prog : Program} {w : World} {E : Value → Shared → Prop} {env : Env}

theorem append_list {D : Addr} {acc : List Value} {c : Nat} {x : Value} {Q : Value → Shared → Prop} (hD : s.heap.get? D = some (lstO acc c)) (hz : acc.length ≤ 1000)
    (hQ : Q .none { s with heap := s.heap.update D (Obj.mapSeq (·.push x)) }) : wpAny (model prog w) A (call (.builtin "list.append") [.ref D, x]) Q E s := by
  have hT : s.TypeIs (.ref D) "list" := ⟨_, hD, rfl⟩
  refine wpAny_call_entry slot_list_append hT entry_list_append ?_ (args_list_append _ _)
  show wpAny _ _ (updateSeq D (·.push x) >>= fun _ => ret .none) _ _ s
  refine wpAny_bind ?_
  exact wpAny_updateSeq hD rfl (wpAny_pure ⟨.none, rfl, hQ⟩) (by rw [List.size_toArray, sizeLine_eq]; lia  ) (by show (acc.toArray.push x).size ≤ _; rw [Array.size_push, List.size_toArray, sizeLine_eq]; lia  )

theorem same_go {C : Addr} {s₀ s' : Shared} {h' : Heap} (g : Go H0 [] s₀ s') (hn : s₀.heap.get? C = none) (S : ∀ b o, H0.get? b = some o → s₀.heap.get? b = some o) (hs : Heap.SameBut C s'.heap h') : Go H0 [] s₀ { s' with heap := h' } := by
  have ne : ∀ {b o}, s₀.heap.get? b = some o → b ≠ C := fun e q => by rw [q, hn] at e; cases e
  refine ⟨fun _ b o e => ?_, fun b o e hm hnd => ?_, fun b o es n e hd => ?_, fun b o e hnd => ?_, g.toks, g.gens, g.os⟩
  · exact (hs.2 b (ne (S b o e))).trans (g.glob S b o e)
  · exact (hs.2 b (ne e)).trans (g.nd b o e hm hnd)
  · obtain ⟨sl, h1⟩ := g.up b o es n e hd
    exact ⟨sl, (hs.2 b (ne e)).trans h1⟩
  · obtain ⟨o', h1, h2⟩ := g.pres b o e hnd
    exact ⟨o', (hs.2 b (ne e)).trans h1, h2⟩

inductive CInv (N : Nat) (P : Nat → List Value → Tok → Prop) (F : Nat → List Value → Nat → (Str → Option Value) → Shared → Prop) (n : Nat) (s : Shared) : Prop
  | mk (i : Nat) (acc : List Value) (c : Nat) (mC : Str → Option Value) (hn : n = N + 1 - i) (hi : i ≤ N) (ha : acc.length ≤ i) (hP : P i acc s.toks) (hF : F i acc c mC s) : CInv N P F n s
noncomputable abbrev cApp (prog : Program) (w : World) (A : Around) (env : Env) (acc : Value) (I : Nat → Shared → Prop) (n : Nat) (R : Result → Shared → Prop) : Value → Shared → Prop := fun x s₄ =>
  wpAny (model prog w) A (PySem.call (.builtin "list.append") [acc, x]) (fun _ s₅ => ∃ m, m < n ∧ I m s₅) (eNote prog w A env R) s₄
noncomputable abbrev cOk (prog : Program) (w : World) (A : Around) (elt : Expr) (env : Env) (acc : Value) (I : Nat → Shared → Prop) (n : Nat) (R : Result → Shared → Prop) : Bool → Shared → Prop := fun ok s₃ =>
  if ok = true then wpAny (model prog w) A (eval elt env) (cApp prog w A env acc I n R) (eNote prog w A env R) s₃ else ∃ m, m < n ∧ I m s₃
noncomputable abbrev cSet (prog : Program) (w : World) (A : Around) (elt : Expr) (ifs : List Expr) (env : Env) (acc : Value) (I : Nat → Shared → Prop) (n : Nat) (R : Result → Shared → Prop) : Unit → Shared → Prop := fun _ s₂ =>
  wpAny (model prog w) A (forIn ifs true fun c r => if r = true then do let ok ← isTrue c env (eval c env); pure (ForInStep.yield ok) else pure (ForInStep.yield r)) (cOk prog w A elt env acc I n R) (eNote prog w A env R) s₂
noncomputable abbrev cItem (prog : Program) (w : World) (A : Around) (elt target : Expr) (ifs : List Expr) (env : Env) (acc : Value) (I : Nat → Shared → Prop) (n : Nat) (R : Result → Shared → Prop) : Option Value → Shared → Prop := fun r s₁ => match r with
  | none => R (.ok .next) s₁
  | some v => wpAny (model prog w) A (assign target env v) (cSet prog w A elt ifs env acc I n R) (eNote prog w A env R) s₁
theorem codeAny_compLoop_tests {A : Around} {s : Shared} {prog : Program} {w : World} {R : Result → Shared → Prop} {elt target iter : Expr} {ifs : List Expr} {scope : Scope} {pos : Pos} {it acc : Value} {env : Env} (I : Nat → Shared → Prop)
    (step : ∀ n s, I n s → wpAny (model prog w) A (pyNext it) (cItem prog w A elt target ifs env acc I n R) (eNote prog w A env R) s)
    (n : Nat) (h : I n s) (ht : ∀ v, letOwnedTupleGo target it v = pure () := by intro _; rfl) : codeAny (model prog w) A (.compLoop (.ListComp elt [⟨target, iter, ifs, 0⟩] scope pos) 0 it acc env) R s :=
  PySem.codeAny_compLoop_tests I (fun n s hI => wpAny_mono (step n s hI) (fun r _ z => by cases r <;> exact z) fun _ _ z => z) n h ht
noncomputable abbrev TurnP (prog : Program) (w : World) (H0 : Heap) (A : Around) (l : List Env) (led : List (Addr × Obj)) (vals : List Value) (I a D C : Addr) (sB : Shared) (x : Str) (ifs : List Expr) (elt : Expr) (cenv : Env) (P : Nat → List Value → Tok → Prop) : Prop :=
  ∀ (i : Nat) (v : Value) (acc : List Value) (c : Nat) (mC : Str → Option Value) (s : Shared) (E' : Value → Shared → Prop), vals[i]? = some v → P i acc s.toks → mC x = some v → Cx H0 A l [] sB C mC ((D, lstO acc c) :: (I, itO a (i + 1)) :: led) s →
      wpAny (model prog w) A (forIn ifs true fun c r => if r = true then do let ok ← isTrue c cenv (eval c cenv); pure (ForInStep.yield ok) else pure (ForInStep.yield r)) (fun ok s₃ =>
        if ok = true then wpAny (model prog w) A (eval elt cenv) (fun y s₄ => Cx H0 A l [] sB C mC ((D, lstO acc c) :: (I, itO a (i + 1)) :: led) s₄ ∧ P (i + 1) (acc ++ [y]) s₄.toks) E' s₃
        else Cx H0 A l [] sB C mC ((D, lstO acc c) :: (I, itO a (i + 1)) :: led) s₃ ∧ P (i + 1) acc s₃.toks) E' s

theorem comp_loop {elt iter : Expr} {x : Str} {px : Pos} {ifs : List Expr} {scope : Scope} {pos : Pos} {cenv : Env} {I a D : Addr} {vals : List Value} {ep : Nat} {j : Nat} {P : Nat → List Value → Tok → Prop} {R : Result → Shared → Prop} {sB : Shared} {C : Addr}
    (hh : A.handled = none) (hL : cenv.locals = C) (hx : cenv.kindOf x = some .local) (hp : (cenv.scope.kind == .class || (cenv.scope.kind == .module && cenv.locals != cenv.globals)) = false)
    (ha : led[j]? = some (a, lstO vals ep)) (hI0 : H0.get? I = none) (hI1 : sB.heap.get? I = none) (hD0 : H0.get? D = none) (hD1 : sB.heap.get? D = none) (hlen : vals.length ≤ 1000) (mono : ∀ i acc n n', P i acc n → n ≤ n' → P i acc n')
    (turn : TurnP prog w H0 A l led vals I a D C sB x ifs elt cenv P)
    (k : ∀ mC acc c s', Cx H0 A l [] sB C mC ((D, lstO acc c) :: led) s' → P vals.length acc s'.toks → R (.ok .next) s')
    {mC : Str → Option Value} {c : Nat} {s : Shared} (C0 : Cx H0 A l [] sB C mC ((D, lstO [] c) :: (I, itO a 0) :: led) s) (h0 : P 0 [] s.toks) :
    codeAny (model prog w) A (.compLoop (.ListComp elt [⟨.Name x px, iter, ifs, 0⟩] scope pos) 0 (.ref I) (.ref D) cenv) R s := by
  refine codeAny_compLoop_tests (CInv vals.length P fun i acc c mC s => Cx H0 A l [] sB C mC ((D, lstO acc c) :: (I, itO a i) :: led) s) ?_ (vals.length + 1) ⟨0, [], c, mC, rfl, Nat.zero_le _, Nat.le_refl _, h0, C0⟩
  rintro n s1 ⟨i, acc, c1, mC1, rfl, hi, hal, hP, C1⟩
  cases hv : vals[i]? with
  | none =>
    have hil : i = vals.length := by have := List.getElem?_eq_none_iff.mp hv; lia
    refine pyNext_end hh (C1.at 1 rfl) (C1.at (j + 2) (by simpa using ha)) hv fun h' e hm => ?_
    have C2 := C1.upd 1 (f := Obj.mapFields (·.setIfInBounds 0 .none)) rfl rfl nd_fields rfl (.inr hI1) hI0
    have C3 := C2.call (made_go (H0 := H0) (M := []) (s := { s1 with heap := s1.heap.update I (Obj.mapFields (·.setIfInBounds 0 .none)) }) hm)
    exact k mC1 acc c1 _ (C3.drop ((D, lstO acc c1) :: led) (.cons_cons _ (.cons _ (List.Sublist.refl _)))) (by rw [← hil]; exact hP)
  | some v =>
    have hlt : i < vals.length := (List.getElem?_eq_some_iff.mp hv).1
    refine pyNext_item (C1.at 1 rfl) (C1.at (j + 2) (by simpa using ha)) hv ?_
    have C2 := C1.upd 1 (f := Obj.mapFields (·.setIfInBounds 1 (rawInt ((i : Int) + 1)))) rfl rfl nd_fields rfl (.inr hI1) hI0
    refine PySem.wpAny_assign_Name (C2.mark.store (env := cenv) hL (fun s3 C3 => ?_) hx hp)
    have hts : s1.toks ≤ s3.toks := C3.go.toks
    have C3' : Cx H0 A l [] sB C (updM mC1 x v) ((D, lstO acc c1) :: (I, itO a (i + 1)) :: led) s3 := Cx.unmark (sE := sB) (n := s1.toks) C3 C1.go.toks
    refine wpAny_mono (turn i v acc c1 _ s3 _ hv (mono _ _ _ _ hP hts) (if_pos rfl) C3') (fun ok s4 h4 => ?_) fun _ _ z => z
    cases ok with
    | false =>
      rw [if_neg (by decide)] at h4
      refine ite_no' rfl ?_
      exact ⟨vals.length + 1 - (i + 1), by grind, i + 1, acc, c1, _, rfl, hlt, by lia  , h4.2, h4.1⟩
    | true =>
      rw [if_pos rfl] at h4
      refine ite_yes' rfl ?_
      refine wpAny_mono h4 (fun y s5 h5 => ?_) fun _ _ z => z
      refine append_list (h5.1.at 0 rfl) (by lia  ) ?_
      have C6 := h5.1.upd 0 (f := Obj.mapSeq (·.push y)) rfl rfl nd_seq rfl (.inr hD1) hD0
      have e : (Obj.mapSeq (·.push y) (lstO acc c1)) = lstO (acc ++ [y]) (c1 + 1) := by simp [Obj.mapSeq]
      rw [e] at C6
      exact ⟨vals.length + 1 - (i + 1), by grind, i + 1, acc ++ [y], c1 + 1, _, rfl, hlt, by simp; omega, h5.2, C6⟩
end
end Mine
end
section
set_option maxRecDepth 100000
set_option autoImplicit false
namespace Mine
open PySem PySem.W PySem.Calls PyProof.Rows PySem.Spec

section
variable {H0 : Heap} {A : Around} {l : List Env} {M : List Addr} {sE : Shared} {L : Addr} {m : Str → Option Value} {led : List (Addr × Obj)} {s : Shared} {prog : Program} {w : World} {E : Value → Shared → Prop} {env : Env}

theorem none_ge {h : Heap} {x : Addr} (hx : h.objs.size ≤ x) : h.get? x = none := by
  cases q : h.get? x with
  | none => rfl
  | some o => exact absurd (Heap.lt_size q) (Nat.not_lt.mpr hx)
theorem Cx.inner (C : Cx H0 A l M sE L m led s) {sB : Shared} (g : Go H0 [] sB s) {h₁ : Heap} {o : Obj} {k : Nat} {mC : Str → Option Value} (hns : h₁.Ns s.heap.objs.size mC) (hsb : Heap.SameBut s.heap.objs.size (s.heap.push o) h₁) :
    Cx H0 A l [] sB s.heap.objs.size mC led { s with heap := h₁, toks := s.toks + k } := by
  have keep : ∀ b o', s.heap.get? b = some o' → h₁.get? b = some o' := fun b o' e => hsb.extBut b o' (Nat.ne_of_lt (Heap.lt_size e)) (Heap.get?_push_of_some _ e)
  have gg : Go H0 [] s { s with heap := h₁, toks := s.toks + k } := Go.ext (s := s) (s' := { s with heap := h₁, toks := s.toks + k }) keep (Nat.le_add_right _ _) rfl rfl _
  have nB : sB.heap.get? s.heap.objs.size = none := by
    cases q : sB.heap.get? s.heap.objs.size with
    | none => rfl
    | some o => obtain ⟨o', z⟩ := g.there _ _ q; rw [not_at] at z; cases z
  refine ⟨C.st.go gg, g.trans gg, hns, nB, (C.noE not_at).h, fun p hp => (C.has p hp).go gg (fun h => nomatch h), fun p hp e => ?_, C.nodup⟩
  obtain ⟨o', e1, e2⟩ := (C.has p hp).dx _ e
  rw [not_at] at e1; cases e1
theorem Cx.listComp {elt iter : Expr} {x : Str} {px : Pos} {ifs : List Expr} {scope : Scope} {cl : List (Str × Addr)} {pos : Pos} {Q : Value → Shared → Prop} {P : Nat → List Value → Tok → Prop}
    (hh : A.handled = none) (hclos : closureFor scope env = pure cl) (hcell : ∀ y ∈ scope.names, y.2 ≠ .cell) (hkind : scope.kind = .function)
    (hnames : ∀ y ∈ scope.names, y.2 = .local → scope.names.lookup y.1 = some .local) (hx : scope.names.lookup x = some .local) (mono : ∀ i acc n n', P i acc n → n ≤ n' → P i acc n')
    (h : wpAny (model prog w) A (eval iter env) (fun xv s₁ => ∃ (a : Addr) (vals : List Value) (ep j : Nat), xv = .ref a ∧ vals.length ≤ 1000 ∧ led[j]? = some (a, lstO vals ep) ∧ Cx H0 A l M sE L m led s₁ ∧ P 0 [] s₁.toks ∧
      (∀ I D C, TurnP prog w H0 A l led vals I a D C s₁ x ifs elt (compEnvC scope cl C env) P) ∧
      (∀ D acc c s', Go H0 [] s₁ s' → P vals.length acc s'.toks → Okk s'.heap (D, lstO acc c) → s₁.heap.get? D = none → Q (.ref D) s')) E s)
    (hs : ∀ x, foldedSetIterable iter env x = pure x := by intro _; rfl) :
    wpAny (model prog w) A (eval (.ListComp elt [⟨.Name x px, iter, ifs, 0⟩] scope pos) env) Q E s := by
  rw [eval_ListComp]
  refine wpAny_comprehension_free (use := none) rfl hs hclos hkind hnames (wpAny_mono h (fun xv s₁ h₁ => ?_) fun _ _ e => e)
  obtain ⟨a, vals, ep, j, rfl, hlen, ha, C, h0, turn, k⟩ := h₁
  have hal := C.at j ha
  refine wpAny_pyIter_list ⟨_, hal, rfl, _, rfl⟩ (wpAny_newObj_type (wpAny_newFunctionEnv hcell (by intro y hy; simp at hy) (fun h₁ hns₁ hsb₁ => ?_) hkind) (by show 0 ≤ _; exact Nat.zero_le _))
  dsimp only at hns₁ hsb₁ ⊢
  have C2 := (C.push (itO a 0) rfl nd_fields rfl).push (lstO []) rfl nd_seq rfl
  have g2 : Go H0 [] s₁ { s₁ with heap := (s₁.heap.push (itO a 0)).push (lstO []) } := (Go.push (s := s₁) _).trans (Go.push (s := { s₁ with heap := s₁.heap.push (itO a 0) }) _)
  have C3 := C2.inner (k := 0) g2 hns₁ hsb₁
  have nI : s₁.heap.get? s₁.heap.objs.size = none := not_at
  have nD : s₁.heap.get? (s₁.heap.push (itO a 0)).objs.size = none := none_ge (by rw [Heap.size_push]; exact Nat.le_succ _)
  have hI := C.noE nI
  have hD := C.noE nD
  have nC := C3.new
  have loop : codeAny (model prog w) A (.compLoop (.ListComp elt [⟨.Name x px, iter, ifs, 0⟩] scope pos) 0 (.ref s₁.heap.objs.size) (.ref (s₁.heap.push (itO a 0)).objs.size) (compEnvC scope cl ((s₁.heap.push (itO a 0)).push (lstO [])).objs.size env))
      (compPost (model prog w) A E none Q (.ref (s₁.heap.push (itO a 0)).objs.size) ((s₁.heap.push (itO a 0)).push (lstO [])).objs.size) { s₁ with heap := h₁, toks := s₁.toks + 0 } := by
    refine comp_loop (cenv := compEnvC scope cl ((s₁.heap.push (itO a 0)).push (lstO [])).objs.size env) (j := j) (P := P) hh rfl (show Env.kindOf _ x = _ from lookup_relabel_local hx) (by show (scope.kind == .class || (scope.kind == .module && _)) = false; rw [hkind]; rfl) ha hI.h nI hD.h nD hlen mono (turn _ _ _) (fun mC acc c s' C4 hP => ?_) C3 h0
    refine ⟨mC, C4.ns, fun h' hs' => ?_⟩
    have g4 := same_go C4.go nC C.st.glob hs'
    have hDC : (s₁.heap.push (itO a 0)).objs.size ≠ ((s₁.heap.push (itO a 0)).push (lstO [])).objs.size := by rw [Heap.size_push (s₁.heap.push (itO a 0))]; exact Nat.ne_of_lt (Nat.lt_succ_self _)
    exact k _ acc c _ g4 hP (okk_lst ((hs'.2 _ hDC).trans (C4.at 0 rfl))) nD
  refine codeAny_compStart_list loop (wpAny_pyIter_listiter ⟨_, C3.at 1 rfl, rfl, rfl⟩ loop)
end
end Mine
end
section
set_option maxRecDepth 100000
set_option autoImplicit false
namespace Mine
open PySem PySem.W PySem.Calls PyProof.Rows PySem.Spec

section
variable {K : Frag} {H0 : Heap} {mg mb : Str → Option Value} {A : Around} {l : List Env} {M : List Addr} {sE : Shared} {L : Addr} {m : Str → Option Value} {led : List (Addr × Obj)} {s : Shared} {prog : Program} {w : World} {E : Value → Shared → Prop} {env : Env}
theorem Cx.globalE (C : Cx H0 A l M sE L m led s) (G : Gl K H0 mg mb) {x : Str} {pos : Pos} {v : Value} {Q : Value → Shared → Prop} (e : nsIn K mainGlobals x = some (some v)) (h : Q v s)
    (hg : env.globals = mainGlobals := by rfl) (hk : env.scope.kind = .function := by rfl) (hx : env.kindOf x = some .globalImplicit := by rfl) (hd : (x == ("__debug__" : Str)) = false := by decide) : wpAny (model prog w) A (eval (.Name x pos) env) Q E s :=
  Name_function_global hk hx (loadGlobal_global (env := env) (by rw [hg]; exact G.g.keeps C.st.glob) (mg_of G.X G.g e) h) hd
theorem Cx.bootE (C : Cx H0 A l M sE L m led s) (G : Gl K H0 mg mb) {x : Str} {pos : Pos} {v : Value} {Q : Value → Shared → Prop} (e : nsIn K mainGlobals x = some none) (hv : bootBuiltins x = some v) (h : Q v s) (hn : x ≠ "__name__" := by decide)
    (hg : env.globals = mainGlobals := by rfl) (hb : env.builtins = builtinsNs := by rfl) (hk : env.scope.kind = .function := by rfl) (hx : env.kindOf x = some .globalImplicit := by rfl) (hd : (x == ("__debug__" : Str)) = false := by decide) : wpAny (model prog w) A (eval (.Name x pos) env) Q E s :=
  Name_function_global hk hx (loadGlobal_builtin (env := env) (by rw [hg]; exact G.g.keeps C.st.glob) (mg_none_of G.X G.g e) (by rw [hb]; exact G.b.keeps C.st.glob) ((G.boot x hn).trans hv) h) hd
theorem Cx.nameE (C : Cx H0 A l M sE L m led s) {x : Str} {pos : Pos} {v : Value} {Q : Value → Shared → Prop} (hv : m x = some v) (h : Q v s)
    (hL : env.locals = L := by rfl) (hk : env.scope.kind = .function := by rfl) (hl : env.kindOf x = some .local := by rfl) (hd : (x == ("__debug__" : Str)) = false := by decide) : wpAny (model prog w) A (eval (.Name x pos) env) Q E s :=
  wpAny_Name (C.ld (env := env) hL hv h hk hl) hd
theorem Cx.setE (C : Cx H0 A l M sE L m led s) {x : Str} {v : Value} {Q : Unit → Shared → Prop} (h : ∀ s', Cx H0 A l M sE L (updM m x v) led s' → Q () s')
    (hL : env.locals = L := by rfl) (hl : env.kindOf x = some .local := by rfl) (hp : (env.scope.kind == .class || (env.scope.kind == .module && env.locals != env.globals)) = false := by rfl) : wpAny (model prog w) A (storeName env x v) Q E s :=
  C.store (env := env) hL h hl hp
end
end Mine
end
section
set_option maxRecDepth 100000
set_option autoImplicit false
namespace Mine
open PySem PySem.W PySem.Calls PyProof.Rows PySem.Spec
section
variable {K : Frag} {b : Ad2} {A : Around} {s : Shared} {prog : Program} {w : World} {E : Value → Shared → Prop}
theorem corr_bind_kw {x y mv : Value} {name : Str} {doc pm : Value} {an : Option Addr} {cdv ct : Value} {Q : List (Str × Value) → Shared → Prop}
    (k : Q [(Str.ofString "x", x), (Str.ofString "y", y), (Str.ofString "method", mv)] s) :
    wpAny (model prog w) A (bindArgs (fnOf name "correlation" dCorr.1 dCorr.2.1 dCorr.2.2 .none (.ref b.corrK) doc pm an cdv ct) ⟨[x, y], [(Str.ofString "method", mv)]⟩) Q E s :=
  wpAny_of_eq (a := [(Str.ofString "x", x), (Str.ofString "y", y), (Str.ofString "method", mv)]) rfl k
theorem corr_bind_def (F : KG K b) (X : K.In s.heap) {x y : Value} {name : Str} {doc pm : Value} {an : Option Addr} {cdv ct : Value} {Q : List (Str × Value) → Shared → Prop}
    (k : ∀ t, Q [(Str.ofString "x", x), (Str.ofString "y", y), (Str.ofString "method", .str "linear" t)] s) :
    wpAny (model prog w) A (bindArgs (fnOf name "correlation" dCorr.1 dCorr.2.1 dCorr.2.2 .none (.ref b.corrK) doc pm an cdv ct) ⟨[x, y], []⟩) Q E s := by
  obtain ⟨t, ht⟩ := F.dmeth
  unfold bindArgs

  refine wpAny_bind (wpAny_of_eq (a := ([(Str.ofString "x", x), (Str.ofString "y", y)], [])) rfl ?_)
  refine wpAny_bind (wpAny_of_eq (a := none) rfl ?_)
  refine ite_no Bool.false_ne_true ?_
  refine ite_no Bool.false_ne_true ?_
  refine wpAny_bind (wpAny_of_eq (a := [(Str.ofString "x", x), (Str.ofString "y", y)]) rfl ?_)
  refine wpAny_bind (kw_loop (fun _ => .str "linear" t) _ _ _ (fun n hn => ?_) ?_)
  · have hn2 : n ∈ [Str.ofString "method"] := hn
    rw [List.mem_singleton.mp hn2]; exact looks_nsIn X ht
  refine ite_no Bool.false_ne_true ?_
  exact wpAny_pure (k t)
end
end Mine
end
section
set_option maxRecDepth 100000
set_option autoImplicit false
namespace Mine
open PySem PySem.W PySem.Calls PyProof.Rows PySem.Spec

section
variable {K : Frag} {H0 : Heap} {mg mb : Str → Option Value} {A : Around} {l : List Env} {M : List Addr} {sE : Shared} {L : Addr} {m : Str → Option Value} {led : List (Addr × Obj)} {s : Shared} {prog : Program} {w : World} {E : Value → Shared → Prop} {env : Env}
theorem Go.same {a : Addr} {h' : Heap} {k : Nat} (hs : Heap.SameBut a s.heap h') (ho : ∃ o', h'.get? a = some o' ∧ Mine.nd o') (hH : H0.get? a = none) (hn : ∀ o, s.heap.get? a = some o → Mine.nd o) : Go H0 [a] s { s with heap := h', toks := s.toks + k } := by
  refine ⟨fun h b o e => ?_, fun b o e hm _ => ?_, fun b o es n e hd => ?_, fun b o e hnb => ?_, Nat.le_add_right _ _, fun h => h, rfl⟩
  · have : b ≠ a := fun q => by rw [q, hH] at e; cases e
    exact (hs.2 b this).trans (h b o e)
  · exact (hs.2 b (fun q => hm (List.mem_singleton.mpr q))).trans e
  · have : b ≠ a := fun q => by rw [q] at e; exact hn o e es n hd
    exact ⟨o.slots, (hs.2 b this).trans e⟩
  · by_cases q : b = a
    · subst q; exact ho
    · exact ⟨o, (hs.2 b q).trans e, hnb⟩
theorem kds_of {cd : Value} {q : Str} (e : codeIn K cd q = true) : kdsCode K cd = true := by
  unfold codeIn at e
  unfold kdsCode
  cases cd <;> simp at e ⊢
  rename_i c
  cases hl : K.lookup c with
  | none => rw [hl] at e; simp at e
  | some o =>
    obtain ⟨a, b, d, f⟩ := o
    rw [hl] at e
    cases d <;> simp at e ⊢
theorem setOf_nd {Kt : Type} [DecidableEq Kt] [BEq Kt] [LawfulBEq Kt] {knd : KeyKind prog w Kt} {h : Heap} {a : Addr} {S : Kt → Bool} {n : Nat} (x : h.SetOf knd a S n) : ∃ o, h.get? a = some o ∧ nd o := by
  obtain ⟨o, es, ep, t, ho, hex, hd, _⟩ := x
  exact ⟨o, ho, fun es' n' q => by rw [hd] at q; cases q⟩

section
variable {Kt : Type} [DecidableEq Kt] [BEq Kt] [LawfulBEq Kt] {knd : KeyKind prog w Kt} {S : Kt → Bool} {n : Nat} {k : Kt} {key : Value} {sa : Addr}
theorem set_add {Q : Bool → Shared → Prop} (hS : s.heap.SetOf knd sa S n) (hb : n + 1 < scanBound) (hkey : knd.is k key = true) (hsc : key.scannable = true)
    (h : ∀ h', Heap.SameBut sa s.heap h' → h'.SetOf knd sa (fun k' => S k' || decide (k' = k)) (if S k then n else n + 1) → Q (!S k) { s with heap := h', toks := s.toks + 1 }) : wpAny (model prog w) A (setAdd sa key) Q E s := by
  unfold setAdd
  refine wpAny_holding (wpAny_bind (knd.pyHash hkey ?_))
  exact wpAny_setAddHashed_of (s := { s with toks := s.toks + 1 }) hkey hsc hS hb fun h' hsb hS' => h h' hsb hS'
theorem set_unled {Q : Unit → Shared → Prop} (hS : s.heap.SetOf knd sa S n) (hb : n < scanBound) (h : ∀ h', Heap.SameBut sa s.heap h' → h'.SetOf knd sa S n → Q () { s with heap := h' }) : wpAny (model prog w) A (setUnled sa) Q E s := by
  obtain ⟨o, es, ep, t, ho, hex, hd, hel, hmem, hb0, hf, hn⟩ := hS
  have hb' : es.size < scanBound := by rw [hn]; exact hb
  have hf' : ({ t with led := false } : SetTable).fits es.size = true := by cases t; exact hf
  unfold setUnled
  refine wpAny_bind (wpAny_setState_of ho hd hf ?_)
  dsimp only
  refine wpAny_storeSet_of ho hd ?_ (fits_of_scanBound hb')
  obtain ⟨_, hS⟩ := SetOf_store (knd := knd) ho hex hd hel hmem hb' hf'
  rw [hn] at hS
  exact h _ (Heap.SameBut.update s.heap sa (Obj.putSet es { t with led := false })) hS
end
theorem Cx.notinTwo (C : Cx H0 A l M sE L m led s) (G : Gl K H0 mg mb) {nm x1 x2 : Str} {p1 p2 p3 p4 p5 : Pos} {k1 k2 : Nat} {mv : Str} {t : Tok} {whole : Sem Value} {Q : Bool → Shared → Prop} (hm : m nm = some (.str mv t)) (hc : kdsCode K env.code = true)
    (h : ∀ s', Cx H0 A l M sE L m led s' → Q (!(decide (mv = x1) || decide (mv = x2))) s')
    (hL : env.locals = L := by rfl) (hk : env.scope.kind = .function := by rfl) (hl : env.kindOf nm = some .local := by rfl) (hd : (nm == ("__debug__" : Str)) = false := by decide) :
    wpAny (model prog w) A (isTrue (.Compare (.Name nm p1) [.NotIn] [.Set [.Constant (.str x1) k1 p2, .Constant (.str x2) k2 p3] 0 p4] p5) env whole) Q E s := by
  refine kdi_test rfl (C.nameE hm ?_ hL hk hl hd)
  rw [arm_eval_Set]
  refine wpAny_bind (wpAny_standAt (wpAny_bind (kds_main (C.st.X G) hc fun b => ?_)))
  rw [kds_star _ rfl, List.map_map]
  refine kds_core (ts := (evalEach [Expr.Constant (.str x1) k1 p2, Expr.Constant (.str x2) k2 p3] env).map fun t => do let v ← t; standAt p4; pure v) rfl ?_ ?_ ?_ fun led' => ?_
  · refine List.findIdx?_eq_none_iff.mpr fun x hx => ?_
    obtain ⟨t, _, rfl⟩ := List.mem_map.mp hx
    rfl
  · rw [List.length_map, kds_len]; show 2 ≤ 30; decide
  · rw [List.map_map]; try rfl
  refine kds_all p4 _ _ _ ?_
  have eN : s.heap.get? s.heap.objs.size = none := not_at
  have hH0 := h0_none C.st.glob eN
  let o0 : Obj := { cls := .type "set", dict := none, data := .set #[] 0 (.fresh 0 0 led') }
  have g0 : Go H0 [] s { s with heap := s.heap.push o0 } := .ext (s' := { s with heap := s.heap.push o0 }) (fun _ _ e => Heap.get?_push_of_some _ e) (Nat.le_refl _) rfl rfl _
  have S0 : (s.heap.push o0).SetOf (PySem.strKind prog w) s.heap.objs.size (fun _ => false) 0 := (setObjOf_fresh led').setOf (Heap.get?_push_size _ rfl) (by unfold scanBound; lia  )
  have step : ∀ {s₁ : Shared} {h' : Heap} {S : Str → Bool} {n : Nat} (k : Nat), Go H0 [] s s₁ → (∀ o, s₁.heap.get? s.heap.objs.size = some o → nd o) → Heap.SameBut s.heap.objs.size s₁.heap h' → h'.SetOf (PySem.strKind prog w) s.heap.objs.size S n →
      Go H0 [] s { s₁ with heap := h', toks := s₁.toks + k } ∧ (∀ o, h'.get? s.heap.objs.size = some o → nd o) := fun k g hn hs hS => by
    obtain ⟨o', ho', hn'⟩ := setOf_nd hS
    refine ⟨g.step (Go.same hs ⟨o', ho', hn'⟩ hH0 hn) (fun p hp => by rw [List.mem_singleton.mp hp]; exact .inr eN), fun o e => by rw [ho'] at e; cases e; exact hn'⟩
  refine wpAny_Constant_str (wpAny_Constant_str ?_)
  have gA : Go H0 [] s { s with heap := s.heap.push o0, toks := s.toks + 1 + 1 } := ⟨g0.glob, g0.nd, g0.up, g0.pres, Nat.le_add_right _ 2, g0.gens, g0.os⟩
  have nA : ∀ o, (s.heap.push o0).get? s.heap.objs.size = some o → nd o := fun o e => by
    have e' : (s.heap.push o0).get? s.heap.objs.size = some o0 := Heap.get?_push_size _ rfl
    rw [e'] at e; cases e; exact fun _ _ q => by cases q
  refine kds_fill_cons (set_add (knd := PySem.strKind prog w) (k := x1) S0 (by unfold scanBound; lia  ) (by show decide _ = true; exact decide_eq_true rfl) rfl fun h1 hs1 hS1 => ?_)
  obtain ⟨g1, n1⟩ := step (s₁ := { s with heap := s.heap.push o0, toks := s.toks + 1 + 1 }) 1 gA nA hs1 hS1
  refine kds_fill_cons (set_add (knd := PySem.strKind prog w) (k := x2) hS1 (by unfold scanBound; simp) (by show decide _ = true; exact decide_eq_true rfl) rfl fun h2 hs2 hS2 => ?_)
  obtain ⟨g2, n2⟩ := step 1 g1 n1 hs2 hS2
  have fin : ∀ {s₂ : Shared} {h3 : Heap} {S : Str → Bool} {n : Nat}, Go H0 [] s s₂ → (∀ o, s₂.heap.get? s.heap.objs.size = some o → nd o) → h3 = h3 → s₂.heap.SetOf (PySem.strKind prog w) s.heap.objs.size S n → n < scanBound → S mv = (decide (mv = x1) || decide (mv = x2)) →
      KdiMark (model prog w) A E (.ref s.heap.objs.size) (fun s₃ => wpAny (model prog w) A (compareOp .NotIn (.str mv t) (.ref s.heap.objs.size)) (fun c s₄ => wpAny (model prog w) A (truthy c) Q E s₄) E s₃) s₂ := fun {s₂ h3 S n} g hn _ hS hb hv => by
    refine kdi_mark (set_unled hS hb fun h4 hs4 hS4 => ?_)
    obtain ⟨g4, n4⟩ := step 0 g hn hs4 hS4
    refine wpAny_notInSet_of (knd := PySem.strKind prog w) (k := mv) (by show decide _ = true; exact decide_eq_true rfl) rfl hS4 ?_
    rw [hv]
    exact wpAny_truthy_bool (h _ ((C.call g4).tok 1))
  have hv2 : (fun k' => ((fun k' => (false || decide (k' = x1))) k' || decide (k' = x2))) mv = (decide (mv = x1) || decide (mv = x2)) := by simp
  have hb3 : (if (fun k' => (false || decide (k' = x1))) x2 = true then (if (fun _ : Str => false) x1 = true then 0 else 0 + 1) else (if (fun _ : Str => false) x1 = true then 0 else 0 + 1) + 1) < scanBound := by
    unfold scanBound; split <;> simp
  cases hu : (displayRoad 0 [Expr.Constant (Const.str x1) k1 p2, Expr.Constant (Const.str x2) k2 p3] == DisplayRoad.unsure)
  · exact kds_fill_nil rfl (fin (h3 := h2) g2 n2 rfl hS2 hb3 hv2)
  · refine kds_fill_unled rfl (set_unled hS2 hb3 fun h5 hs5 hS5 => ?_)
    obtain ⟨g5, n5⟩ := step 0 g2 n2 hs5 hS5
    exact fin (h3 := h5) g5 n5 rfl hS5 hb3 hv2
end
end Mine
end
section
set_option maxRecDepth 100000
set_option autoImplicit false
namespace Mine
open PySem PySem.W PySem.Calls PyProof.Rows PySem.Spec

inductive TrC (h base : Heap) (e : Addr) (cls a0 c fl : Value) : Prop
  | mk (oe : Obj) (vs : Array Value) (T : Addr) (oT : Obj) (ts : Array Value) (h1 : h.get? e = some oe) (h2 : oe.cls = cls ∧ vs[0]? = some a0) (h3 : oe.data = .fields vs) (h4 : vs[1]? = some (.ref T)) (h5 : base.get? T = none) (h6 : T ≠ e) (h7 : h.get? T = some oT)
    (h8 : oT.data = .fields ts) (h9 : ts[3]? = some fl) (hc : vs[2]? = some c) : TrC h base e cls a0 c fl
theorem TrC.at {h base : Heap} {e : Addr} {cls a0 c fl : Value} (x : TrC h base e cls a0 c fl) : h.TracedAtW base e cls a0 fl := by
  obtain ⟨oe, vs, T, oT, ts, a1, a2, a3, a4, a5, a6, a7, a8, a9, _⟩ := x
  exact ⟨oe, vs, T, oT, ts, a1, a2, a3, a4, a5, a6, a7, a8, a9⟩
noncomputable def flV (f : Option Addr) : Value := f.elim Value.none fun x => rawInt x
structure FlC (base : Heap) (l : List Env) (e : Addr) (cls a0 c fl : Value) (h : Heap) : Prop where
  stays : base.StaysIn h
  new : base.get? e = none
  fr : h.FunFrames base l
  tr : TrC h base e cls a0 c fl
theorem FlC.flying {base h : Heap} {l : List Env} {e : Addr} {cls a0 c : Value} (x : FlC base l e cls a0 c .none h) : Heap.FlyingW base l e cls a0 h := ⟨x.stays, x.new, x.fr, x.tr.at⟩
theorem FlC.held {base h : Heap} {l : List Env} {e L : Addr} {cls a0 c : Value} (x : FlC base l e cls a0 c (rawInt L) h) : Heap.HeldW base l e cls a0 L h := ⟨x.stays, x.new, x.fr, x.tr.at⟩

section
variable {M : Model} {A : Around} {E : Value → Shared → Prop} {s : Shared}
theorem note_c {base : Heap} {env : Env} {outer : List Env} {L e : Addr} {oe : Obj} {vs : Array Value} {a0 c : Value} {Q : Unit → Shared → Prop}
    (hfr : A.frames = some (env :: outer)) (hl : s.heap.FunFrames base (env :: outer)) (hf : env.frame = some L)
    (he : s.heap.get? e = some oe) (hkb : base.StaysIn s.heap) (hen : base.get? e = none) (hd : oe.data = .fields vs) (h1 : vs[1]? = some .none) (h0 : vs[0]? = some a0) (hc : vs[2]? = some c)
    (h : ∀ h', FlC base (env :: outer) e oe.cls a0 c (rawInt L) h' → (∀ b o, s.heap.get? b = some o → (∀ vs, o.data ≠ .fields vs) → ∃ sl, h'.get? b = some { o with slots := sl }) → Q () { s with heap := h' }) :
    wpAny M A (noteFrame (.ref e) env) Q E s := by
  have hsz : 1 < vs.size := (Array.getElem?_eq_some_iff.mp h1).1
  unfold noteFrame
  simp only [hf]
  refine wpAny_bind (wpAny_field he hd h1 ?_)
  first | refine ite_no' (by decide) ?_ | refine ite_no (by decide) ?_ | rw [if_neg (by decide)]
  have hene : e ∉ (env :: outer).filterMap (·.frame) := fun hm => by
    obtain ⟨_, o, ho, hnf⟩ := hl.mem hm
    rw [he] at ho; injection ho with ho; subst ho; exact hnf vs hd
  refine wpAny_bind (wpAny_frameOf_fun hfr hl hf fun h₁ hs₁ => ?_)
  refine wpAny_bind (wpAny_entryPlaceOf fun pl hpl => ?_)
  unfold EntryCells.newEntry newFields
  refine wpAny_bind (wpAny_newObj_type ?_ (hpl.sizeOk5 _ _ _ _ _))
  have he₁ : h₁.get? e = some oe := (hs₁.2.1 e hene).trans he
  have kb₁ : base.StaysIn h₁ := fun b o hbo => (hs₁.2.1 b fun hm => by rw [(hl.mem hm).1] at hbo; cases hbo).trans (hkb b o hbo)
  generalize hT0 : ({ cls := .type "traceback", dict := none, data := .fields ([Value.none, .ref L, .none, rawInt L, .none] ++ (if pl.isEmpty then List.replicate 6 Value.none else pl)).toArray } : Obj) = T0
  have hTd : T0.data = .fields ([Value.none, .ref L, .none, rawInt L, .none] ++ (if pl.isEmpty then List.replicate 6 Value.none else pl)).toArray := by rw [← hT0]
  have hTf : T0.isFreed = false := by rw [← hT0]; rfl
  have he₂ := Heap.get?_push_of_some (h := h₁) T0 he₁
  refine wpAny_setField (s := { s with heap := h₁.push T0 }) he₂ hd hsz (h _ ?_ ?_)
  · have hTe : h₁.objs.size ≠ e := Nat.ne_of_gt (Heap.lt_size he₁)
    have hd₃ := Obj.data_mapFields hd (·.setIfInBounds 1 (Value.ref h₁.objs.size))
    have he₃ := Heap.get?_update_self (Obj.mapFields (·.setIfInBounds 1 (Value.ref h₁.objs.size))) he₂ (Obj.isFreed_of_fields hd₃)
    have hT₃ := (Heap.get?_update_other (h₁.push T0) (Obj.mapFields (·.setIfInBounds 1 (Value.ref h₁.objs.size))) (Ne.symm hTe)).trans (Heap.get?_push_size h₁ hTf)
    have keep : ∀ b o, b ≠ e → h₁.get? b = some o → ((h₁.push T0).update e (Obj.mapFields (·.setIfInBounds 1 (Value.ref h₁.objs.size)))).get? b = some o := fun b o hbe hb => by
      rw [Heap.get?_update_other _ _ (Ne.symm hbe)]
      exact Heap.get?_push_of_some _ hb
    have noRecord : ∀ b o, s.heap.get? b = some o → (∀ vs, o.data ≠ .fields vs) → b ≠ e := fun b o hb hnf q => by
      rw [q, he] at hb; injection hb with hb; subst hb; exact hnf vs hd
    refine ⟨fun b o hbo => keep b o (fun q => by rw [q, hen] at hbo; cases hbo) (kb₁ b o hbo), hen, hl.of_keeps fun b o hb hnf => ?_, ?_⟩
    · obtain ⟨sl, hs⟩ := hs₁.2.2 b o hb
      exact ⟨_, keep b _ (noRecord b o hb hnf) hs, rfl⟩
    · refine ⟨_, _, h₁.objs.size, _, _, he₃, ⟨Obj.cls_mapFields _ _, by rw [Array.getElem?_setIfInBounds_ne (by decide)]; exact h0⟩, hd₃, by simp [hsz], kb₁.fresh, hTe, hT₃, hTd, ?_, by rw [Array.getElem?_setIfInBounds_ne (by decide)]; exact hc⟩
      first | (simp; done) | (rcases hpl with rfl | ⟨_, _, _, _, _, _, _, rfl⟩ <;> simp)
  · intro b o hb hnf
    obtain ⟨sl, hs⟩ := hs₁.2.2 b o hb
    refine ⟨sl, ?_⟩
    have hbe : b ≠ e := fun q => by rw [q, he] at hb; injection hb with hb; subst hb; exact hnf vs hd
    show ((h₁.push T0).update e _).get? b = _
    rw [Heap.get?_update_other _ _ (Ne.symm hbe)]
    exact Heap.get?_push_of_some _ hs
theorem flight_c {base : Heap} {l : List Env} {e : Addr} {cls a0 c fl : Value} {f : Option Addr} {Q : Unit → Shared → Prop} (x : FlC base l e cls a0 c fl s.heap)
    (h : ∀ h', FlC base l e cls a0 c (flV f) h' → s.heap.UpToSlots h' → Q () { s with heap := h' }) : wpAny M A (setFlight (.ref e) f) Q E s := by
  obtain ⟨hkb, hen, hl, oe, vs, T, oT, ts, he, hcls, hd, h1, hnT, hTe, hT, hdT, h3, hc⟩ := x
  have hsz3 : 3 < ts.size := (Array.getElem?_eq_some_iff.mp h3).1
  have other : ∀ b, b ≠ T → (s.heap.update T (Obj.mapFields (·.setIfInBounds 3 (flV f)))).get? b = s.heap.get? b := fun b hb => Heap.get?_update_other _ _ (Ne.symm hb)
  have noRecord : ∀ b o, s.heap.get? b = some o → (∀ vs, o.data ≠ .fields vs) → b ≠ T := fun b o hb hnf q => by
    rw [q, hT] at hb; injection hb with hb; subst hb; exact hnf ts hdT
  unfold setFlight
  refine wpAny_bind (wpAny_field he hd h1 ?_)
  first | refine ite_yes' (show (Value.ref T != Value.none) = true from by simp) ?_ | refine ite_yes (show (Value.ref T != Value.none) = true from by simp) ?_ | rw [if_pos (show (Value.ref T != Value.none) = true from by simp)]
  refine wpAny_setField hT hdT hsz3 (h _ ⟨fun b o hbo => (other b fun q => by rw [q, hnT] at hbo; cases hbo).trans (hkb b o hbo), hen,
    hl.of_keeps fun b o hb hnf => ⟨o, (other b (noRecord b o hb hnf)).trans hb, rfl⟩, ?_⟩ fun b o hb hnf => ⟨o.slots, (other b (noRecord b o hb hnf)).trans hb⟩)
  exact ⟨oe, vs, T, _, _, (other e (Ne.symm hTe)).trans he, hcls, hd, h1, hnT, hTe, Heap.get?_update_self _ hT (Obj.isFreed_of_fields (Obj.data_mapFields hdT _)), Obj.data_mapFields hdT _, by simp [hsz3]; rfl, hc⟩
theorem back_c {base : Heap} {env : Env} {l : List Env} {e L : Addr} {cls a0 c fl : Value} (hf : env.frame = some L) (x : FlC base l e cls a0 c fl s.heap)
    (h : ∀ h', FlC base l e cls a0 c (rawInt L) h' → s.heap.UpToSlots h' → E (.ref e) { s with heap := h' }) : cameBackBy M A env E (.ref e) s := by
  obtain ⟨oe, vs, T, oT, ts, he, hcls, hd, h1, hnT, hTe, hT, hdT, h3, hc⟩ := x.tr
  unfold cameBackBy
  refine wpAny_bind (wpAny_field he hd h1 ?_)
  first | refine ite_no' rfl ?_ | refine ite_no (show ¬ (Value.ref T == Value.none) = true from by simp) ?_ | rw [if_neg (show ¬ (Value.ref T == Value.none) = true from by simp)]
  rw [hf]
  exact flight_c x h
end

section
variable {prog : Program} {w : World} {A : Around} {E : Value → Shared → Prop} {s : Shared}
theorem raise_in {α : Type} {e z t : Addr} {cls : Value} {oz : Obj} {vz : Array Value} {Q : α → Shared → Prop} (hh : A.handled = some (.ref z)) (hne : z ≠ e) (hz : s.heap.get? z = some oz) (hzd : oz.data = .fields vz) (hz2 : vz[2]? = some .none)
    (he : s.heap.get? e = some { cls := cls, data := .fields #[.ref t, .none, .none, .none, .bool false, .none] })
    (h : E (.ref e) { s with heap := s.heap.update e (Obj.mapFields (·.setIfInBounds 2 (.ref z))) }) : wpAny (model prog w) A (raiseNew (.ref e) : Sem α) Q E s := by
  unfold raiseNew
  refine wpAny_bind (wpAny_handled ?_)
  rw [hh]
  dsimp only
  first | refine ite_yes' (show (Value.ref z != Value.ref e) = true from by simpa using hne) ?_ | refine ite_yes (show (Value.ref z != Value.ref e) = true from by simpa using hne) ?_ | rw [if_pos (show (Value.ref z != Value.ref e) = true from by simpa using hne)]
  refine wpAny_bind ?_
  refine wpAny_holding (runValue_entry (id := "proto.unchain") (b := Builtin.«proto.unchain») (entryFor_of_fast (by kernel_rfl)) ?_)
  · unfold Builtin.«proto.unchain»
    refine wpAny_bind (wpAny_field hz hzd hz2 ?_)
    first | refine ite_yes' (by rfl) ?_ | refine ite_yes (by rfl) ?_ | rw [if_pos (by rfl)]
    refine wpAny_bind (wpAny_pure (wpAny_pure ⟨.none, rfl, ?_⟩))
    unfold updateField
    refine wpAny_bind (wpAny_bind (wpAny_load he ?_))
    dsimp only
    first | refine ite_yes' (show 2 < (#[Value.ref t, .none, .none, .none, .bool false, .none] : Array Value).size from by simp) ?_ | refine ite_yes (show 2 < (#[Value.ref t, .none, .none, .none, .bool false, .none] : Array Value).size from by simp) ?_ | rw [if_pos (show 2 < (#[Value.ref t, .none, .none, .none, .bool false, .none] : Array Value).size from by simp)]
    exact wpAny_update he (wpAny_throw h)
variable {env : Env} {nm q : Str} {C N : Addr} {bs bm bmB : List Value} {hdct : Bool} {sn : List Str} {sub : List Value} {ab : Bool} {col : Option Bool} {dd : Option Addr} {k0 k1 k2 k3 k5 : Option Value} {B newId initId : String}
theorem raiseStmt_in {z : Addr} {x : Sem Value} {Q : Flow → Shared → Prop} (hbase : bm.contains (.type "BaseException") = true) (hh : A.handled = some (.ref z))
    (h : wpAny (model prog w) A x (fun v s₁ => ∃ e t oz vz, v = .ref e ∧ s₁.heap.get? C = some (excClassObj nm q C N bs bm hdct sn sub ab col dd k0 k1 k2 k3 k5 newId) ∧
      s₁.heap.get? e = some { cls := .ref C, data := .fields #[.ref t, .none, .none, .none, .bool false, .none] } ∧ z ≠ e ∧ s₁.heap.get? z = some oz ∧ oz.data = .fields vz ∧ vz[2]? = some .none ∧
      E (.ref e) { s₁ with heap := s₁.heap.update e (Obj.mapFields (·.setIfInBounds 2 (.ref z))) }) E s) :
    wpAny (model prog w) A (raiseStmt env (some x) none) Q E s := by
  have hcB : (Value.ref C :: bm).contains (.type "BaseException") = true := by rw [List.contains_cons, hbase, Bool.or_true]
  unfold raiseStmt
  refine wpAny_bind (wpAny_mono h (fun v s₁ h₁ => ?_) fun _ _ x => x)
  obtain ⟨e, t, oz, vz, rfl, hC, he, hne, hz, hzd, hz2, hE⟩ := h₁
  obtain ⟨hp, g, d, tk, os⟩ := s₁
  repeat (first | with_reducible refine wpAny_loadPart_at he ?_ | with_reducible refine wpAny_loadPart_at hC ?_ | (with_reducible refine wpAny_isSubtype_exc hC ?_; rw [hcB]) | wp_step)
  exact raise_in hh hne hz hzd hz2 he hE

theorem Raise_in (F : ExcBaseFacts B newId initId bmB) {z : Addr} {mN : Str → Option Value} {x : Str} {np cpos pos : Pos} {args : List Expr} {Q : Flow → Shared → Prop}
    (hbase : bm.contains (.type "BaseException") = true) (hh : A.handled = some (.ref z)) (hplain : (backTo cpos (starEach args env)).any (·.1) = false) (hni : mN "__init__" = none)
    (h : wpAny (model prog w) A (eval (.Name x np) env) (fun f s₁ => f = .ref C ∧ wpAny (model prog w) A (evalArgs (.ref C) true (backTo cpos (starEach args env)) [])
      (fun a s₂ => a.kw = [] ∧ a.pos.length ≤ sizeLine ∧ s₂.heap.get? C = some (excClassObj nm q C N bs bm hdct sn sub ab col dd k0 k1 k2 k3 k5 newId) ∧ s₂.heap.Ns N mN ∧ OwnTail s₂.heap bmB bm ∧
        ∃ oz vz, s₂.heap.get? z = some oz ∧ oz.data = .fields vz ∧ vz[2]? = some .none ∧
        ∀ h' e, Heap.MadeExcOf s₂.heap h' e (.ref C) a.pos → E (.ref e) { s₂ with heap := h'.update e (Obj.mapFields (·.setIfInBounds 2 (.ref z))) }) E s₁) E s) :
    wpAny (model prog w) A (exec (.Raise (some (.Call (.Name x np) args [] cpos)) none pos) env) Q E s := by
  rw [arm_exec_Raise]
  show wpAny (model prog w) A (standAt pos >>= fun _ => raiseStmt env (some (eval (.Call (.Name x np) args [] cpos) env >>= fun v => standAt pos >>= fun _ => pure v)) none) Q E s
  refine wpAny_bind (wpAny_standAt (raiseStmt_in (C := C) (nm := nm) (q := q) (N := N) (bs := bs) (bm := bm) (hdct := hdct) (sn := sn) (sub := sub) (ab := ab) (col := col) (dd := dd) (k0 := k0) (k1 := k1) (k2 := k2) (k3 := k3) (k5 := k5) (newId := newId) hbase hh (wpAny_bind (wpAny_mono (wpAny_Call_ofName (wpAny_mono h (fun f s₁ h₁ => ?_) fun _ _ x => x)) (fun v s₃ h₃ => wpAny_bind (wpAny_standAt (wpAny_pure h₃))) fun _ _ x => x))))
  obtain ⟨rfl, h₁⟩ := h₁
  unfold callWith
  refine wpAny_bind (wpAny_holding (wpAny_mono h₁ (fun a s₂ h₂ => wpAny_bind (wpAny_standAt ?_)) fun _ _ x => x))
  obtain ⟨apos, akw⟩ := a
  obtain ⟨hkw, hlen, hC, hn, T, oz, vz, hz, hzd, hz2, h₂⟩ := h₂
  obtain rfl : akw = [] := hkw
  obtain ⟨hp, g, d, tk, os⟩ := s₂
  simp only [hplain]
  refine wpAny_bind (wpAny_keeperOf_exc hC ?_)
  refine wpAny_bind (wpAny_call_exc_subT (hrest := hlen) F T hC hn hni fun h' e hm => wpAny_bind (wpAny_holding (wpAny_point (wpAny_pure ?_))))
  obtain ⟨t, ht, _, _⟩ := hm.there
  have hne : z ≠ e := fun q => by have := hm.new; rw [← q] at this; dsimp only at hz; rw [this] at hz; cases hz
  exact ⟨e, t, oz, vz, rfl, hm.keeps _ _ hC, ht, hne, hm.keeps _ _ hz, hzd, hz2, h₂ h' e hm⟩
end
end Mine
end
section
set_option maxRecDepth 100000
set_option autoImplicit false
namespace Mine
open PySem PySem.W PySem.Calls PyProof.Rows PySem.Spec

structure HeldC (H0 : Heap) (M : List Addr) (s : Shared) (l : List Env) (e : Addr) (cls a0 c fl : Value) (s' : Shared) : Prop where
  ex : ∃ B, FlC B l e cls a0 c fl s'.heap ∧ H0.StaysIn B ∧ (∀ b o, s.heap.get? b = some o → b ∉ M → nd o → B.get? b = some o) ∧ (∀ b o, s.heap.get? b = some o → nd o → ∃ o', B.get? b = some o' ∧ nd o')
  up : ∀ b o es n, s.heap.get? b = some o → o.data = .dict es n → ∃ sl, s'.heap.get? b = some { o with slots := sl }
  toks : s.toks ≤ s'.toks
  gens : AllBare s.gens → AllBare s'.gens
  os : s'.os = s.os

section
variable {H0 : Heap} {M M' : List Addr} {s sE s' : Shared} {l : List Env} {e : Addr} {cls a0 c fl : Value} {led : List (Addr × Obj)}
theorem HeldC.go (F : HeldC H0 M s l e cls a0 c fl s') : Go H0 M s s' := by
  obtain ⟨B, hB, h0, h1, hp⟩ := F.ex
  exact ⟨fun _ b o q => hB.stays _ _ (h0 b o q), fun b o q hm hn => hB.stays _ _ (h1 b o q hm hn), F.up, fun b o q hn => (hp b o q hn).elim fun o' z => ⟨o', hB.stays _ _ z.1, z.2⟩, F.toks, F.gens, F.os⟩
theorem HeldC.fly (F : HeldC H0 M s l e cls a0 c .none s') : Fly H0 M s l e cls a0 [] s' := by
  obtain ⟨B, hB, h0, h1, hp⟩ := F.ex
  exact ⟨⟨B, hB.flying, h0, h1, hp, fun p hp => nomatch hp⟩, fun p hp => (nomatch hp), F.up, F.toks, F.gens, F.os⟩
theorem HeldC.record (F : HeldC H0 M s l e cls a0 c fl s') : ∃ oe vs, s'.heap.get? e = some oe ∧ oe.cls = cls ∧ oe.data = .fields vs ∧ vs[2]? = some c := by
  obtain ⟨B, ⟨_, _, _, oe, vs, T, oT, ts, he, hcls, hd, h1, hnT, hTe, hT, hdT, h3, hc⟩, _⟩ := F.ex
  exact ⟨oe, vs, he, hcls.1, hd, hc⟩
end
section
variable {H0 : Heap} {M : List Addr} {s sE s' : Shared} {l : List Env} {env : Env} {e L : Addr} {cls a0 c fl : Value} {led : List (Addr × Obj)} {MM : Model} {A : Around} {E : Value → Shared → Prop} {Q : Unit → Shared → Prop} {m : Str → Option Value}
theorem HeldC.flight (F : HeldC H0 M s l e cls a0 c fl s') (f : Option Addr) (hQ : ∀ s'', HeldC H0 M s l e cls a0 c (flV f) s'' → s'.heap.UpToSlots s''.heap → Q () s'') : wpAny MM A (setFlight (.ref e) f) Q E s' := by
  obtain ⟨B, hB, h0, h1, hp⟩ := F.ex
  refine flight_c hB fun h' x1 x2 => hQ _ ⟨⟨B, x1, h0, h1, hp⟩, fun b o es n q hd => ?_, F.toks, F.gens, F.os⟩ x2
  obtain ⟨sl, h3⟩ := F.up b o es n q hd
  obtain ⟨sl', h4⟩ := upSlots x2 h3 hd
  exact ⟨sl', h4⟩
theorem HeldC.back (F : HeldC H0 M s l e cls a0 c fl s') (hf : env.frame = some L) (hQ : ∀ s'', HeldC H0 M s l e cls a0 c (rawInt L) s'' → s'.heap.UpToSlots s''.heap → E (.ref e) s'') : cameBackBy MM A env E (.ref e) s' := by
  obtain ⟨B, hB, h0, h1, hp⟩ := F.ex
  refine back_c hf hB fun h' x1 x2 => hQ _ ⟨⟨B, x1, h0, h1, hp⟩, fun b o es n q hd => ?_, F.toks, F.gens, F.os⟩ x2
  obtain ⟨sl, h3⟩ := F.up b o es n q hd
  obtain ⟨sl', h4⟩ := upSlots x2 h3 hd
  exact ⟨sl', h4⟩
theorem HeldC.leave (F : HeldC H0 M s (env :: l) e cls a0 c (rawInt L) s') (hf : env.frame = some L) (hQ : ∀ s'', Fly H0 M s l e cls a0 [] s'' → s'.heap.UpToSlots s''.heap → Q () s'') : wpAny MM A (leaving env (.ref e)) Q E s' := by
  obtain ⟨B, hB, h0, h1, hp⟩ := F.ex
  unfold leaving
  refine wpAny_bind (wpAny_noteFrame_againW hf hB.held.2.2.2 ?_)
  refine wpAny_landsW hB.held fun h' hfl x2 => ?_
  obtain ⟨k1, k2, ⟨_, _, k3⟩, k4⟩ := hfl
  refine hQ _ ⟨⟨B, ⟨k1, k2, k3, k4⟩, h0, h1, hp, fun p hp => nomatch hp⟩, fun p hp => (nomatch hp), fun b o es n q hd => ?_, F.toks, F.gens, F.os⟩ x2
  obtain ⟨sl, h3⟩ := F.up b o es n q hd
  obtain ⟨sl', h4⟩ := upSlots x2 h3 hd
  exact ⟨sl', h4⟩
theorem Cx.noteC (C : Cx H0 A (env :: l) M s L m led s') {h' : Heap} {oe : Obj} {vs : Array Value} (hk : ∀ b o, s'.heap.get? b = some o → h'.get? b = some o) (hn : s'.heap.get? e = none) (he : h'.get? e = some oe) (hcls : oe.cls = cls) (hd : oe.data = .fields vs)
    (h0 : vs[0]? = some a0) (h1 : vs[1]? = some .none) (h2 : vs[2]? = some c) (hf : env.frame = some L)
    (hQ : ∀ s'', HeldC H0 [] s' (env :: l) e cls a0 c (rawInt L) s'' → h'.UpToSlots s''.heap → Q () s'') : wpAny MM A (noteFrame (.ref e) env) Q E { s' with heap := h' } := by
  obtain ⟨b1, b2, b3⟩ := C.base
  have hen : (hideAll s'.heap (framesOf (env :: l))).get? e = none := by
    cases q : (hideAll s'.heap (framesOf (env :: l))).get? e with
    | none => rfl
    | some o => have := of_hideAll _ q; rw [hn] at this; cases this
  have hst : (hideAll s'.heap (framesOf (env :: l))).StaysIn h' := fun b o q => hk b o (of_hideAll _ q)
  subst hcls
  refine note_c (s := { s' with heap := h' }) C.st.frames (b3.of_keeps fun b o hb _ => ⟨o, hk b o hb, rfl⟩) hf he hst hen hd h1 h0 h2 fun h'' x1 x2 => ?_
  exact hQ _ ⟨⟨_, x1, b1, fun b o q _ hn => b2 b o q hn, fun b o q hn => ⟨o, b2 b o q hn, hn⟩⟩, fun b o es n q hd => x2 b o (hk _ _ q) (fun vs z => by rw [hd] at z; cases z), Nat.le_refl _, fun h => h, rfl⟩ x2
end
end Mine
end
section
set_option maxRecDepth 100000
set_option autoImplicit false
namespace Mine
open PySem PySem.W PySem.Calls PyProof.Rows PySem.Spec

theorem FV.nil : FV [] [] := ⟨rfl, fun i x h => by cases h⟩
theorem FV.snoc {vs : List Value} {xs : List UInt64} (h : FV vs xs) (x : UInt64) (t : Tok) : FV (vs ++ [.float x t]) (xs ++ [x]) := by
  refine ⟨by simp [h.len], fun i y hy => ?_⟩
  by_cases hi : i < xs.length
  · rw [List.getElem?_append_left hi] at hy
    obtain ⟨u, hu⟩ := h.at_ i y hy
    exact ⟨u, by rw [List.getElem?_append_left (by rw [h.len]; exact hi)]; exact hu⟩
  · have hi' := Nat.not_lt.mp hi
    rw [List.getElem?_append_right hi'] at hy
    have e : i - xs.length = 0 := by
      have := (List.getElem?_eq_some_iff.mp hy).1; simp at this; omega
    rw [e] at hy; cases hy
    exact ⟨t, by rw [List.getElem?_append_right (by rw [h.len]; exact hi'), h.len, e]; rfl⟩
theorem take_succ' {α : Type} {xs : List α} {i : Nat} {x : α} (h : xs[i]? = some x) : xs.take (i + 1) = xs.take i ++ [x] := by
  rw [List.take_add_one, h]; rfl
noncomputable def linD (xb : UInt64) (ns : List Int) : List UInt64 := ns.map fun v => Float64.sub (Float64.ofInt v) xb

section
variable {H0 : Heap} {A : Around} {l : List Env} {M : List Addr} {sE : Shared} {L : Addr} {m : Str → Option Value} {led : List (Addr × Obj)} {s : Shared} {prog : Program} {w : World} {E : Value → Shared → Prop} {env : Env}
end
end Mine
end
section
set_option maxRecDepth 100000
set_option autoImplicit false
namespace Mine
open PySem PySem.W PySem.Calls PyProof.Rows PySem.Spec

section
variable {α : Type} {M : Model} {A : Around} {E : Value → Shared → Prop} {s : Shared}
theorem raise_words {cls msg : String} {Q : α → Shared → Prop} (hp : PlainExc cls) (hh : A.handled = none)
    (h : ∀ h' tk e, s.toks ≤ tk → Heap.NewExc s.heap h' e cls → E (.ref e) { s with heap := h', toks := tk }) : wpAny M A (raiseErrorWords cls msg : Sem α) Q E s := by
  unfold raiseErrorWords
  refine wpAny_bind (wpAny_mkText (wpAny_bind ?_))
  unfold newExc newTuple
  refine wpAny_bind (wpAny_newObj_type ?_)
  refine wpAny_bind (m := firstArgMember _ _) (wpAny_of_eq (a := Value.none) (by simp only [firstArgMember, hp.first]; rfl) ?_)
  rw [hp.own]
  refine wpAny_newObj_type ?_
  unfold raiseNew
  refine wpAny_bind (wpAny_handled ?_)
  rw [hh]
  first
    | refine wpAny_throw ?_
    | refine wpAny_bind (wpAny_pure (wpAny_throw ?_))
  exact h _ _ _ (Nat.le_succ _) ⟨fun b o hb => Heap.get?_push_of_some _ (Heap.get?_push_of_some _ hb), Heap.get?_none_of_le (by simp), _, .ref s.heap.objs.size, Heap.get?_push_size _ rfl, rfl, by simp⟩
end
noncomputable def raisesUp (cls : String) : PySem.Spec := fun A R s => A.handled = none ∧ ∀ h' tk e, s.toks ≤ tk → Heap.NewExc s.heap h' e cls → R (.error (.ref e)) { s with heap := h', toks := tk }
theorem ff_zero (a : UInt64) (t : Tok) (b : UInt64) (u : Tok) (hc0 : Float64.isZero b = true) : Meets (Builtin.«float.__truediv__» ⟨[.float a t, .float b u], []⟩) (raisesUp "ZeroDivisionError") :=
  .of_wp fun prog w A R s h => by obtain ⟨hp, g, d, tk, os⟩ := s; wp_walk; exact raise_words plainExc_ZeroDivisionError h.1 h.2
section
variable {prog : Program} {w : World} {A : Around} {E : Value → Shared → Prop} {s : Shared} {a b : UInt64} {t u : Tok} {Q : Value → Shared → Prop}
theorem div_float (hA : A.handled = none)
    (h0 : Float64.isZero b = true → ∀ h' tk e, s.toks ≤ tk → Heap.NewExc s.heap h' e "ZeroDivisionError" → E (.ref e) { s with heap := h', toks := tk })
    (h1 : ¬ Float64.isZero b = true → Q (.float (Float64.div a b) s.toks) { s with toks := s.toks + 1 }) :
    wpAny (model prog w) A (binaryOp .Div (.float a t) (.float b u)) Q E s := by
  by_cases hz : Float64.isZero b = true
  · exact binaryOp_meets (op := .Div) (typeIs_float s a t) (typeIs_float s b u) F.fills_float_truediv F.slot_float_truediv F.entry_float_truediv (F.args_float_truediv_2 _ _) (ff_zero a t b u hz) ⟨hA, h0 hz⟩
  · exact truediv_float_or hA (fun q => absurd q hz) h1
end
end Mine
end
section
set_option maxRecDepth 100000
set_option autoImplicit false
namespace Mine
open PySem PySem.W PySem.Calls PyProof.Rows PySem.Spec

section
variable {H0 : Heap} {A : Around} {l : List Env} {M : List Addr} {sE : Shared} {L : Addr} {m : Str → Option Value} {led : List (Addr × Obj)} {s : Shared} {prog : Program} {w : World} {E : Value → Shared → Prop} {env : Env}
theorem Cx.addNew {s' : Shared} (C : Cx H0 A l M sE L m led s) (g : Go H0 [] s s') {D : Addr} {o : Obj} (h : Okk s'.heap (D, o)) (hn : s.heap.get? D = none) (hd : o.dict = none) : Cx H0 A l M sE L m ((D, o) :: led) s' :=
  (C.call g).add h (fun p hp e => by have := (C.has p hp).at_; rw [e, hn] at this; cases this) (by rw [hd]; exact fun q => by cases q)
theorem Cx.sameBut (C : Cx H0 A l M sE L m led s) {a : Addr} {h' : Heap} (hs : Heap.SameBut a s.heap h') (hL : a ≠ L) (hE : sE.heap.get? a = none) (hH : H0.get? a = none) (hfr : ∀ e ∈ l, e.frame ≠ some a) (hled : ∀ p ∈ led, p.1 ≠ a ∧ p.2.dict ≠ some a) :
    Cx H0 A l M sE L m led { s with heap := h' } := by
  have neE : ∀ {b o}, sE.heap.get? b = some o → b ≠ a := fun e q => by rw [q, hE] at e; cases e
  have neH : ∀ {b o}, H0.get? b = some o → b ≠ a := fun e q => by rw [q, hH] at e; cases e
  refine ⟨⟨fun b o e => (hs.2 b (neH e)).trans (C.st.glob b o e), C.st.frames, fun ev he => ?_, C.st.toks⟩, ⟨fun hg b o e => (hs.2 b (neH e)).trans (C.go.glob hg b o e), fun b o e hm hn => (hs.2 b (neE e)).trans (C.go.nd b o e hm hn), fun b o es n e hd => ?_, fun b o e hn => ?_, C.go.toks, C.go.gens, C.go.os⟩, ?_, C.new, C.top, fun p hp => ⟨(hs.2 _ (hled p hp).1).trans (C.has p hp).at_, (C.has p hp).nd, fun dx e => ?_⟩, C.dn, C.nodup⟩
  · obtain ⟨hk, L', o, es, n, h1, h2, h3, h4⟩ := C.st.fr ev he
    exact ⟨hk, L', o, es, n, h1, h2, (hs.2 _ (fun q => hfr ev he (by rw [h1, q]))).trans h3, h4⟩
  · obtain ⟨sl, h1⟩ := C.go.up b o es n e hd
    exact ⟨sl, (hs.2 _ (neE e)).trans h1⟩
  · obtain ⟨o', h1, h2⟩ := C.go.pres b o e hn
    exact ⟨o', (hs.2 _ (neE e)).trans h1, h2⟩
  · obtain ⟨o, es, ep, h1, r⟩ := C.ns
    exact ⟨o, es, ep, (hs.2 _ (Ne.symm hL)).trans h1, r⟩
  · obtain ⟨o, h1, h2⟩ := (C.has p hp).dx dx e
    exact ⟨o, (hs.2 _ (fun q => (hled p hp).2 (by rw [e, q]))).trans h1, h2⟩

theorem Cx.listCompA {elt iter : Expr} {x y : Str} {px py : Pos} {ifs : List Expr} {scope : Scope} {cl : List (Str × Addr)} {pos spos : Pos} {Q : Flow → Shared → Prop} {P : Nat → List Value → Tok → Prop}
    (hsw : swapsWith (.ListComp elt [⟨.Name x px, iter, ifs, 0⟩] scope pos) (some (.Name y py)) spos.line env = pure true)
    (hh : A.handled = none) (hclos : closureFor scope env = pure cl) (hcell : ∀ y ∈ scope.names, y.2 ≠ .cell) (hkind : scope.kind = .function)
    (hnames : ∀ y ∈ scope.names, y.2 = .local → scope.names.lookup y.1 = some .local) (hx : scope.names.lookup x = some .local) (mono : ∀ i acc n n', P i acc n → n ≤ n' → P i acc n')
    (hL : env.locals = L) (hy : env.kindOf y = some .local) (hp : (env.scope.kind == .class || (env.scope.kind == .module && env.locals != env.globals)) = false)
    (h : wpAny (model prog w) A (eval iter env) (fun xv s₁ => ∃ (a : Addr) (vals : List Value) (ep j : Nat), xv = .ref a ∧ vals.length ≤ 1000 ∧ led[j]? = some (a, lstO vals ep) ∧ Cx H0 A l M sE L m led s₁ ∧ P 0 [] s₁.toks ∧
      (∀ I D C, TurnP prog w H0 A l led vals I a D C s₁ x ifs elt (compEnvC scope cl C env) P) ∧
      (∀ D acc c s', Cx H0 A l M sE L (updM m y (.ref D)) ((D, lstO acc c) :: led) s' → P vals.length acc s'.toks → Nw H0 sE D → Q .next s')) E s)
    (hs : ∀ x, foldedSetIterable iter env x = pure x := by intro _; rfl) :
    wpAny (model prog w) A (exec (.Assign [.Name y py] (.ListComp elt [⟨.Name x px, iter, ifs, 0⟩] scope pos) spos) env) Q E s := by
  rw [exec_Assign_Name_used _ _ _ _ hsw]
  refine wpAny_bind (wpAny_standAt (wpAny_bind ?_))
  show wpAny _ A (do let _ ← comprehension (.ListComp elt [⟨.Name x px, iter, ifs, 0⟩] scope pos) scope env _ (PySem.newList []) false (eval iter env) (some (assign (.Name y py) env))) _ _ s
  refine wpAny_bind (wpAny_mono (wpAny_comprehension_free (use := some (assign (.Name y py) env)) (Q := fun _ s' => Q .next s') rfl hs hclos hkind hnames (wpAny_mono h (fun xv s₁ h₁ => ?_) fun _ _ e => e)) (fun _ s' hq => wpAny_pure (wpAny_pure hq)) fun _ _ e => e)
  obtain ⟨a, vals, ep, j, rfl, hlen, ha, C, h0, turn, k⟩ := h₁
  have hal := C.at j ha
  refine wpAny_pyIter_list ⟨_, hal, rfl, _, rfl⟩ (wpAny_newObj_type (wpAny_newFunctionEnv hcell (by intro y hy; simp at hy) (fun h₁ hns₁ hsb₁ => ?_) hkind) (by show 0 ≤ _; exact Nat.zero_le _))
  dsimp only at hns₁ hsb₁ ⊢
  have C2 := (C.push (itO a 0) rfl nd_fields rfl).push (lstO []) rfl nd_seq rfl
  have g2 : Go H0 [] s₁ { s₁ with heap := (s₁.heap.push (itO a 0)).push (lstO []) } := (Go.push (s := s₁) _).trans (Go.push (s := { s₁ with heap := s₁.heap.push (itO a 0) }) _)
  have C3 := C2.inner (k := 0) g2 hns₁ hsb₁
  have nI : s₁.heap.get? s₁.heap.objs.size = none := not_at
  have nD : s₁.heap.get? (s₁.heap.push (itO a 0)).objs.size = none := none_ge (by rw [Heap.size_push]; exact Nat.le_succ _)
  have hI := C.noE nI
  have hD := C.noE nD
  have nC := C3.new
  have hCC := C.noE nC
  have hDC : (s₁.heap.push (itO a 0)).objs.size ≠ ((s₁.heap.push (itO a 0)).push (lstO [])).objs.size := by rw [Heap.size_push (s₁.heap.push (itO a 0))]; exact Nat.ne_of_lt (Nat.lt_succ_self _)
  have hLC : ((s₁.heap.push (itO a 0)).push (lstO [])).objs.size ≠ L := fun q => by
    obtain ⟨o, es, ep', h1, _⟩ := C.ns
    rw [← q, nC] at h1; cases h1
  generalize hCe : ((s₁.heap.push (itO a 0)).push (lstO [])).objs.size = Cc at *
  generalize hDe : (s₁.heap.push (itO a 0)).objs.size = D at *
  have loop : codeAny (model prog w) A (.compLoop (.ListComp elt [⟨.Name x px, iter, ifs, 0⟩] scope pos) 0 (.ref s₁.heap.objs.size) (.ref D) (compEnvC scope cl Cc env))
      (compPost (model prog w) A E (some (assign (.Name y py) env)) (fun _ s' => Q .next s') (.ref D) Cc) { s₁ with heap := h₁, toks := s₁.toks + 0 } := by
    refine comp_loop (cenv := compEnvC scope cl Cc env) (j := j) (P := P) hh rfl (show Env.kindOf _ x = _ from lookup_relabel_local hx) (by show (scope.kind == .class || (scope.kind == .module && _)) = false; rw [hkind]; rfl) ha hI.h nI hD.h nD hlen mono (turn _ _ _) (fun mC acc c s' C4 hP => ?_) C3 h0
    have C5 := C.addNew C4.go (C4.ok 0 rfl) nD rfl
    show wpAny _ A (assign (.Name y py) env (.ref D)) _ _ _
    refine wpAny_assign_Name (C5.rebase.store hL (fun s'' C6 => ?_) hy hp)
    have C7 := C5.unbase C6
    refine ⟨mC, ?_, fun h' hs' => ?_⟩
    · obtain ⟨o, es, ep', h1, h2, r⟩ := C4.ns
      obtain ⟨sl, h3⟩ := C6.go.up Cc o es ep' ((wiped_of hLC).trans h1) h2
      exact ⟨_, es, ep', h3, h2, r⟩
    · refine k D acc c _ (C7.sameBut hs' hLC hCC.e hCC.h (fun e he q => ?_) fun p hp => ?_) (mono _ _ _ _ hP C6.go.toks) hD
      · obtain ⟨_, L', o, es, n, h1, h2, h3, h4⟩ := C.st.fr e he
        rw [h1] at q; cases q; rw [nC] at h3; cases h3
      · rcases List.mem_cons.mp hp with rfl | hp
        · exact ⟨hDC, fun q => by cases q⟩
        · refine ⟨fun q => (by have := (C.has p hp).at_; rw [q, nC] at this; cases this), fun q => ?_⟩
          obtain ⟨o, h1, _⟩ := (C.has p hp).dx _ q
          rw [nC] at h1; cases h1
  refine codeAny_compStart_list loop (wpAny_pyIter_listiter ⟨_, C3.at 1 rfl, rfl, rfl⟩ loop)
end
end Mine
end
section
set_option maxRecDepth 100000
set_option autoImplicit false
namespace Mine
open PySem PySem.W PySem.Calls PyProof.Rows PySem.Spec

noncomputable def bmVE : List Value := [.type "ValueError", .type "Exception", .type "BaseException", .type "object"]
noncomputable def corrF (xs ys : List UInt64) : Option UInt64 :=
  if Float64.isZero (sqrtF (dotF (xs.zip xs)) (dotF (ys.zip ys))) = true then none else some (Float64.div (dotF (xs.zip ys)) (sqrtF (dotF (xs.zip xs)) (dotF (ys.zip ys))))
structure CorrOk (xs ys : List UInt64) : Prop where
  len : xs.length = ys.length
  pos : 0 < xs.length
  xy : tlOk (xs.zip ys) z3
  xx : tlOk (xs.zip xs) z3
  yy : tlOk (ys.zip ys) z3
  sq : SqOk (dotF (xs.zip xs)) (dotF (ys.zip ys))
noncomputable def constMsg : Str := "at least one of the inputs is constant"

section
variable {H0 : Heap} {M : List Addr} {s sE s' : Shared} {l : List Env} {e : Addr} {cls a0 c fl : Value}
theorem HeldC.lift (F : HeldC H0 [] s l e cls a0 c fl s') (G : Go H0 [] sE s) : HeldC H0 [] sE l e cls a0 c fl s' := by
  obtain ⟨B, hB, h0, h1, hp⟩ := F.ex
  refine ⟨⟨B, hB, h0, fun b o q _ hn => h1 b o (G.nd b o q (fun h => nomatch h) hn) (fun h => nomatch h) hn, fun b o q hn => ?_⟩, fun b o es n q hd => ?_, Nat.le_trans G.toks F.toks, fun z => F.gens (G.gens z), F.os.trans G.os⟩
  · obtain ⟨o', z, hz⟩ := G.pres b o q hn
    exact hp b o' z hz
  · obtain ⟨sl, h3⟩ := G.up b o es n q hd
    obtain ⟨sl', h4⟩ := F.up b _ es n h3 hd
    exact ⟨sl', h4⟩
inductive ExcH (h : Heap) (C : Addr) (bmB : List Value) (newId : String) : Prop
  | mk (bm : List Value) (N : Addr) (nm qn : Str) (bs : List Value) (hdct : Bool) (sn : List Str) (sub : List Value) (ab : Bool) (col : Option Bool) (dd : Option Addr) (k0 k1 k2 k3 k5 : Option Value) (mN : Str → Option Value)
    (hC : h.get? C = some (excClassObj nm qn C N bs bm hdct sn sub ab col dd k0 k1 k2 k3 k5 newId)) (hN : h.Ns N mN) (hni : mN "__init__" = none) (T : OwnTail h bmB bm) : ExcH h C bmB newId
theorem excCls {K : Frag} {h : Heap} {C : Addr} {bmB : List Value} {newId : String} (X : K.In h) (q : ExcK K C bmB newId) : ExcH h C bmB newId := by
  obtain ⟨ho, hok, hni, ht⟩ := q
  exact ⟨_, _, _, _, _, _, _, _, _, _, _, _, _, _, _, _, _, X _ _ ho, .of_isNs (isNs_of_in X hok), nsMap_none_of_in X hok (by rw [hni]), tail_of_in X ht⟩
end

section
variable {K : Frag} {b : Ad2} {H0 : Heap} {mg mb : Str → Option Value} {A : Around} {l : List Env} {s : Shared} {prog : Program} {w : World} {E : Value → Shared → Prop}

theorem Cx.toTok {M : List Addr} {sE : Shared} {L : Addr} {m : Str → Option Value} {led : List (Addr × Obj)} (C : Cx H0 A l M sE L m led s) {n : Nat} (h : s.toks ≤ n) : Cx H0 A l M sE L m led { s with toks := n } :=
  C.ext (s' := { s with toks := n }) (fun _ _ h => h) h rfl rfl
theorem corr_tail (G : Gl K H0 mg mb) (F : KG K b) {L f : Addr} {cdv : Value} {m : Str → Option Value} {led : List (Addr × Obj)} {s1 : Shared} {a1 a2 : Addr} {vx vy : List Value} {ex ey : Nat} {xs ys : List UInt64} (i j : Nat)
    (C : Cx H0 (A.deeper (envOfC "correlation" dCorr.2.2 L f cdv)) (envOfC "correlation" dCorr.2.2 L f cdv :: l) [] s L m led s1)
    (hx : m "x" = some (.ref a1)) (hy : m "y" = some (.ref a2)) (hi : led[i]? = some (a1, lstO vx ex)) (hj : led[j]? = some (a2, lstO vy ey)) (hvx : FV vx xs) (hvy : FV vy ys) (ok : CorrOk xs ys) (hroom : A.depth + 1 < recursionLimit) (hh : A.handled = none) {Q : Flow → Shared → Prop}
    (kok : ∀ r t s', corrF xs ys = some r → Go H0 [] s s' → Q (.ret (.float r t)) s')
    (kno : ∀ e t u c s', corrF xs ys = none → HeldC H0 [] s (envOfC "correlation" dCorr.2.2 L f cdv :: l) e (.ref b.se) (.ref t) c (rawInt L) s' → s'.heap.TupAt t [.str constMsg u] → E (.ref e) s') :
    wpAny (model prog w) (A.deeper (envOfC "correlation" dCorr.2.2 L f cdv)) (execs (dCorr.2.1.drop 5) (envOfC "correlation" dCorr.2.2 L f cdv)) Q E s1 := by
  have hh' : (A.deeper (envOfC "correlation" dCorr.2.2 L f cdv)).handled = none := hh
  refine wpAny_execs_cons (wpAny_Assign_Name (Call_ (C.globalE G F.nsump (PyProof.Rows.callWith_builtin1 (args_cons (C.nameE hx (args_cons (C.nameE hy (args_nil ?_)))))))))
  refine sumprod_spec (H0 := H0) C.st.glob (C.ok i hi) (C.ok j hj) (.inl ⟨_, rfl⟩) (.inl ⟨_, rfl⟩) hvx hvy ok.len ok.pos ok.xy hh' fun t1 s2 g2 => ?_
  refine (C.call g2).setE fun s3 C3 => ?_
  refine wpAny_execs_cons (wpAny_Assign_Name (Call_ (C3.globalE G F.nsump (PyProof.Rows.callWith_builtin1 (args_cons (C3.nameE (v := .ref a1) hx (args_cons (C3.nameE (v := .ref a1) hx (args_nil ?_)))))))))
  refine sumprod_spec (H0 := H0) C3.st.glob (C3.ok i hi) (C3.ok i hi) (.inl ⟨_, rfl⟩) (.inl ⟨_, rfl⟩) hvx hvx rfl ok.pos ok.xx hh' fun t2 s4 g4 => ?_
  refine (C3.call g4).setE fun s5 C5 => ?_
  refine wpAny_execs_cons (wpAny_Assign_Name (Call_ (C5.globalE G F.nsump (PyProof.Rows.callWith_builtin1 (args_cons (C5.nameE (v := .ref a2) hy (args_cons (C5.nameE (v := .ref a2) hy (args_nil ?_)))))))))
  refine sumprod_spec (H0 := H0) C5.st.glob (C5.ok j hj) (C5.ok j hj) (.inl ⟨_, rfl⟩) (.inl ⟨_, rfl⟩) hvy hvy rfl (ok.len ▸ ok.pos) ok.yy hh' fun t3 s6 g6 => ?_
  refine (C5.call g6).setE fun s7 C7 => ?_
  refine wpAny_execs_cons (wpAny_Try_except (wpAny_execs_cons (wpAny_Return_some (wpAny_BinOp (C7.nameE (v := .float (dotF (xs.zip ys)) t1) rfl (Call_ (C7.globalE G F.nsqp ?_)))))))
  refine callWith_K (C7.st.X G) F.ksqp (args_cons (C7.nameE (v := .float (dotF (xs.zip xs)) t2) rfl (args_cons (C7.nameE (v := .float (dotF (ys.zip ys)) t3) rfl (args_nil ⟨C7.st.X G, ?_⟩)))))
  refine sqrtprod_spec G F C7.st ok.sq hroom hh' fun t4 s8 g8 => ?_
  have C8 := C7.call g8
  refine div_float hh' (fun hz h' tk z htk hm => ?_) fun hz => ?_
  · obtain ⟨oz, tz, hoz, hcz, hdz⟩ := hm.there
    have C9 := C8.toTok htk
    refine C9.noteC (h' := h') hm.keeps hm.new hoz hcz hdz rfl rfl rfl rfl fun s2 hd2 _ => ?_
    refine hd2.flight none fun s3 hd3 _ => ?_
    have C3 := (C9.call hd3.go).around (A' := (A.deeper (envOfC "correlation" dCorr.2.2 L f cdv)).mark (some (.ref z))) rfl
    refine wpAny_handleBy_builtin (X := "ZeroDivisionError") (T := "ZeroDivisionError") (b := true) PySem.F.isExc_ZeroDivisionError PySem.F.notTuple_ZeroDivisionError (by rw [isSubtype_type]; kernel_rfl) ?_
    refine C3.bootE G F.nzde Boot.«ZeroDivisionError» ⟨rfl, hd3.fly.typ, ?_⟩
    first | refine ite_yes' rfl ?_ | refine ite_yes rfl ?_ | rw [if_pos rfl]
    refine hd3.flight none fun s4 hd4 _ => ?_
    have C4 := (C9.call hd4.go).around (A' := (A.deeper (envOfC "correlation" dCorr.2.2 L f cdv)).mark (some (.ref z))) rfl
    obtain ⟨bm, N, nm, qn, bs, hdct, sn, sub, ab, col, dd, k0, k1, k2, k3, k5, mN, hC, hN, hni, T⟩ := excCls (C4.st.X G) F.exc
    obtain ⟨oz', vz, hz1, hz2, hz3, hz4⟩ := hd4.record
    refine wpAny_execs_cons (Raise_in (C := b.se) (nm := nm) (q := qn) (N := N) (bs := bs) (bm := bm) (hdct := hdct) (sn := sn) (sub := sub) (ab := ab) (col := col) (dd := dd) (k0 := k0) (k1 := k1) (k2 := k2) (k3 := k3) (k5 := k5) (mN := mN) (z := z) PySem.F.excBase_ValueError (T.hasType PySem.F.excBase_ValueError.hasBase) rfl rfl hni ?_)
    refine C4.globalE G F.nse ⟨rfl, Calls.evalArgs_plain (args_cons (wpAny_Constant_str (args_nil ⟨rfl, by rw [sizeLine_eq]; show 1 ≤ _; decide, hC, hN, T, oz', vz, hz1, hz3, hz4, fun h2 e hm2 => ?_⟩)))⟩
    obtain ⟨tt, he, htn, htt⟩ := hm2.there
    have hte : tt ≠ e := fun q => by rw [q, he] at htt; cases htt
    have C5 := C4.tok 1
    refine C5.noteC (h' := h2.update e (Obj.mapFields (·.setIfInBounds 2 (.ref z)))) (fun b' o q => ?_) hm2.new (Heap.get?_update_self _ he rfl) rfl rfl rfl rfl rfl rfl fun s6 hd6 up6 => ?_
    · have hne : e ≠ b' := fun w => by have := hm2.new; rw [w] at this; rw [this] at q; cases q
      rw [Heap.get?_update_other _ _ hne]; exact hm2.keeps _ _ q
    · refine hd6.back (L := L) rfl fun s7 hd7 up7 => ?_
      refine kno e tt s4.toks _ s7 ?_ (hd7.lift C5.go) ?_
      · unfold corrF; rw [if_pos hz]
      · refine Heap.TupAt.of_slots (Heap.TupAt.of_slots (h := h2.update e (Obj.mapFields (·.setIfInBounds 2 (.ref z)))) ⟨tupO [.str constMsg s4.toks], 0, ?_, rfl, rfl⟩ up6) up7
        rw [Heap.get?_update_other _ _ (Ne.symm hte)]; exact htt
  · refine kok _ _ _ ?_ (C8.tok 1).go
    unfold corrF
    first | refine ite_no' hz ?_ | refine ite_no hz ?_ | rw [if_neg hz]
end
end Mine
end
section
set_option maxRecDepth 100000
set_option autoImplicit false
namespace Mine
open PySem PySem.W PySem.Calls PyProof.Rows PySem.Spec

noncomputable def ledC2 (L a1 a2 : Addr) (vx vy : List Value) (ex ey : Nat) : List (Addr × Obj) := ledC (cellsFrom (L + 1) dCorr.2.2.names []) (fun _ => none) ++ [(a1, lstO vx ex), (a2, lstO vy ey)]
section
variable {K : Frag} {a : Adr} {b : Ad2} {H0 : Heap} {mg mb : Str → Option Value} {A : Around} {l : List Env} {s : Shared} {prog : Program} {w : World} {E : Value → Shared → Prop}
theorem corr_head (G : Gl K H0 mg mb) (F : KG K b) {L f : Addr} {cdv : Value} {m : Str → Option Value} {led : List (Addr × Obj)} {s1 : Shared} {a1 a2 : Addr} {vx vy : List Value} {ex ey : Nat} {mv : Str} {tm : Tok} (i j : Nat)
    (C : Cx H0 (A.deeper (envOfC "correlation" dCorr.2.2 L f cdv)) (envOfC "correlation" dCorr.2.2 L f cdv :: l) [] s L m led s1) (hcd : codeIn K cdv "correlation" = true)
    (hx : m "x" = some (.ref a1)) (hy : m "y" = some (.ref a2)) (hm : m "method" = some (.str mv tm)) (hi : led[i]? = some (a1, lstO vx ex)) (hj : led[j]? = some (a2, lstO vy ey)) (hlen : vx.length = vy.length) (h2 : 2 ≤ vx.length) (h3 : vx.length ≤ 1000) (hmv : mv = "linear" ∨ mv = "ranked") {Q : Flow → Shared → Prop}
    (k : ∀ tn s', Cx H0 (A.deeper (envOfC "correlation" dCorr.2.2 L f cdv)) (envOfC "correlation" dCorr.2.2 L f cdv :: l) [] s L (updM m "n" (.int (vx.length : Int) tn)) led s' →
      wpAny (model prog w) (A.deeper (envOfC "correlation" dCorr.2.2 L f cdv)) (execs (dCorr.2.1.drop 4) (envOfC "correlation" dCorr.2.2 L f cdv)) Q E s') :
    wpAny (model prog w) (A.deeper (envOfC "correlation" dCorr.2.2 L f cdv)) (execs dCorr.2.1 (envOfC "correlation" dCorr.2.2 L f cdv)) Q E s1 := by
  refine wpAny_execs_cons (wpAny_Assign_Name (Call_ (C.bootE G F.nlen2 Boot.«len» (PyProof.Rows.callWith_builtin1 (args_cons (C.nameE hx (args_nil (PyProof.Rows.len_list ⟨_, C.at i hi, rfl, ex, rfl⟩ (by rw [List.size_toArray]; lia  ) ?_))))))))
  refine (C.tok 2).setE fun s2 C2 => ?_
  refine wpAny_execs_cons (wpAny_If (wpAny_isTrue_Compare1 (Call_ (C2.bootE G F.nlen2 Boot.«len» (PyProof.Rows.callWith_builtin1 (args_cons (C2.nameE (v := .ref a2) hy (args_nil (PyProof.Rows.len_list ⟨_, C2.at j hj, rfl, ey, rfl⟩ (by rw [List.size_toArray]; lia  ) ?_)))))))))
  have C3 := C2.tok 2
  refine C3.nameE (v := .int (vx.toArray.size : Int) (s1.toks + 1)) rfl (PySem.P.ne_int (wpAny_truthy_bool ?_))
  refine ite_no' (by simp [hlen]) (wpAny_execs_nil ?_)
  refine wpAny_execs_cons (wpAny_If (wpAny_isTrue_Compare1 (C3.nameE (v := .int (vx.toArray.size : Int) (s1.toks + 1)) rfl (wpAny_Constant_int (PySem.P.lt_int (wpAny_truthy_bool ?_))))))
  refine ite_no' (by simp; lia  ) (wpAny_execs_nil ?_)
  have C4 := C3.tok 1
  refine wpAny_execs_cons (wpAny_If (C4.notinTwo G (mv := mv) (t := tm) hm (kds_of hcd) fun s5 C5 => ?_))
  refine ite_no' (by rcases hmv with h | h <;> subst h <;> decide) (wpAny_execs_nil ?_)
  exact k _ _ C5
end
end Mine
end
section
set_option maxRecDepth 100000
set_option autoImplicit false
namespace Mine
open PySem PySem.W PySem.Calls PyProof.Rows PySem.Spec

noncomputable def place (ns : List Int) (v : Int) : Nat := 2 * (ns.countP fun x => decide (x < v)) + ns.countP fun x => decide (x = v)
noncomputable def places (ns : List Int) : List Int := ns.map fun v => (place ns v : Int)
noncomputable def rankD (ns : List Int) : List UInt64 := ns.map fun v => hf ((place ns v : Int) - ns.length)
noncomputable def valI : Value → Int
  | .int n _ => n
  | _ => 0
theorem IV.map {vals : List Value} {ns : List Int} (h : IV vals ns) : vals.map valI = ns := by
  refine List.ext_getElem? fun i => ?_
  rw [List.getElem?_map]
  cases q : ns[i]? with
  | none => rw [List.getElem?_eq_none (by rw [h.len]; exact List.getElem?_eq_none_iff.mp q)]; rfl
  | some n => obtain ⟨t, ht⟩ := h.at_ i n q; rw [ht]; rfl
theorem IV.mem {vals : List Value} {ns : List Int} (h : IV vals ns) {v : Value} (hv : v ∈ vals) : ∃ n t, v = .int n t := by
  obtain ⟨i, hi, e⟩ := List.mem_iff_getElem.mp hv
  obtain ⟨n, hn⟩ : ∃ n, ns[i]? = some n := ⟨_, List.getElem?_eq_getElem (by rw [← h.len]; exact hi)⟩
  obtain ⟨t, ht⟩ := h.at_ i n hn
  rw [List.getElem?_eq_getElem hi, e] at ht
  exact ⟨n, t, Option.some.inj ht⟩
theorem IV.countP {vals : List Value} {ns : List Int} (h : IV vals ns) (p : Value → Bool) (q : Int → Bool) (hpq : ∀ n t, p (.int n t) = q n) : vals.countP p = ns.countP q := by
  rw [← h.map, List.countP_map]
  refine List.countP_congr fun v hv => ?_
  obtain ⟨n, t, rfl⟩ := h.mem hv
  rw [hpq]; rfl
theorem Ranked.fv {z : Int} {vals rvals : List Value} {ns : List Int} {tk : Nat} (h : Ranked intKey false z vals rvals tk) (KL : KeyL intKey vals) (iv : IV vals ns) (hz : z = - (ns.length : Int) - 1) : FV rvals (rankD ns) := by
  obtain ⟨hl, hr⟩ := h.at KL
  refine ⟨by rw [hl, iv.len]; simp [rankD], fun i x hx => ?_⟩
  rw [rankD, List.getElem?_map] at hx
  cases q : ns[i]? with
  | none => rw [q] at hx; cases hx
  | some n =>
    rw [q] at hx
    obtain ⟨u, hu⟩ := iv.at_ i n q
    obtain ⟨t, ht⟩ := hr i _ hu
    refine ⟨t, ?_⟩
    rw [ht]
    have e1 : (vals.countP fun x => intKey.lt x (.int n u)) = ns.countP fun x => decide (x < n) := iv.countP _ _ fun m t => rfl
    have e2 : (vals.countP fun x => intKey.eq x (.int n u)) = ns.countP fun x => decide (x = n) := iv.countP _ _ fun m t => by show (m == n) = _; rw [Bool.eq_iff_iff]; simp
    have hx' : hf ((place ns n : Int) - ns.length) = x := by simpa using hx
    rw [e1, e2, ← hx']
    have e3 : z + 2 * ((ns.countP fun x => decide (x < n)) : Int) + ((ns.countP fun x => decide (x = n)) : Int) + 1 = (place ns n : Int) - ns.length := by
      unfold place; push_cast; lia
    rw [e3]

section
variable {K : Frag} {a : Adr} {b : Ad2} {H0 : Heap} {mg mb : Str → Option Value} {A : Around} {l : List Env} {s : Shared} {prog : Program} {w : World} {E : Value → Shared → Prop}
theorem div_m2 {n : Int} (h0 : 0 < n) (h : n.natAbs ≤ 2 ^ 50) {t u : Tok} {Q : Value → Shared → Prop} (k : Q (.float (hf (-n)) s.toks) { s with toks := s.toks + 1 }) : wpAny (model prog w) A (binaryOp .Div (.int n t) (.int (-2) u)) Q E s := by
  have e : Float64.ofFrac (decide (n < 0) != decide ((-2 : Int) < 0)) n.natAbs (-2 : Int).natAbs = hf (-n) := by
    show Float64.ofFrac _ n.natAbs 2 = Float64.ofFrac (decide (-n < 0)) (-n).natAbs 2
    have : (decide (n < 0) != decide ((-2 : Int) < 0)) = decide (-n < 0) := by
      rw [show decide ((-2 : Int) < 0) = true from rfl, decide_eq_false (by lia   : ¬ n < 0), decide_eq_true (by lia   : -n < 0)]; rfl
    rw [this]; rw [Int.natAbs_neg]
  refine AutoIntOps.truediv_2 (by decide) ?_ ?_
  · rw [e, hf_notInf (by grind)]; decide
  · show Q _ _
    rw [e]; exact k
theorem corr_kinds (v1 v2 v3 : Value) : ∀ n, ∀ x ∈ [(Str.ofString "x", v1), (Str.ofString "y", v2), (Str.ofString "method", v3)], dCorr.2.2.names.lookup x.1 = some .local ∨ (dCorr.2.2.names.lookup x.1 = some .cell ∧ ((cellsFrom n dCorr.2.2.names []).lookup x.1).isSome = true) := by
  intro n x hx
  rcases List.mem_cons.mp hx with rfl | hx
  · exact .inl rfl
  rcases List.mem_cons.mp hx with rfl | hx
  · exact .inl rfl
  rw [List.mem_singleton.mp hx]; exact .inl rfl
theorem corr_ranked (G : Gl K H0 mg mb) (FF : KF K a) (F : KG K b) (hr : b.rank = a.rank) (S : St H0 A l s) {xl yl : Addr} {vx vy : List Value} {xs ys : List Int} {ex ey : Nat} {tm : Tok} (hxl : Okk s.heap (xl, lstO vx ex)) (hyl : Okk s.heap (yl, lstO vy ey)) (hne : xl ≠ yl)
    (ivx : IV vx xs) (ivy : IV vy ys) (KLx : KeyL intKey vx) (KLy : KeyL intKey vy) (hlen : xs.length = ys.length) (h2 : 2 ≤ xs.length) (h3 : xs.length < 64) (ok : CorrOk (rankD xs) (rankD ys)) (hroom : A.depth + 7 < recursionLimit) (hh : A.handled = none) {R : Result → Shared → Prop}
    (kok : ∀ r t s', corrF (rankD xs) (rankD ys) = some r → Go H0 [] s s' → R (.ok (.ret (.float r t))) s')
    (kno : ∀ e t u s', corrF (rankD xs) (rankD ys) = none → Fly H0 [] s l e (.ref b.se) (.ref t) [] s' → s'.heap.TupAt t [.str constMsg u] → R (.error (.ref e)) s') :
    codeAny (model prog w) A (.call (.ref b.corr) ⟨[.ref xl, .ref yl], [(Str.ofString "method", .str "ranked" tm)]⟩) R s := by
  refine enterCX G S F.corr [] (by lia  ) (by intro n; show ([Str.ofString "ybar", Str.ofString "xbar"] : List Str).Nodup; decide) fun name doc pm an cdv ct E' => corr_bind_kw ⟨fun _ _ h => h, Nat.le_refl _, rfl, rfl, corr_kinds _ _ _, [(xl, lstO vx ex), (yl, lstO vy ey)], fun p hp => ?_, by simp [hne], fun L cdv s1 hcd C _ => ?_⟩
  · rcases List.mem_cons.mp hp with rfl | hp
    · exact hxl
    · rw [List.mem_singleton.mp hp]; exact hyl
  have hh' : (A.deeper (envOfC "correlation" dCorr.2.2 L b.corr cdv)).handled = none := hh
  refine corr_head G F 2 3 C hcd rfl rfl rfl rfl rfl (by rw [ivx.len, ivy.len, hlen]) (by rw [ivx.len]; exact h2) (by rw [ivx.len]; lia  ) (.inr rfl) fun tn s2 C2 => ?_
  refine wpAny_execs_cons (wpAny_If (wpAny_isTrue_Compare1 (C2.nameE (v := .str "ranked" tm) rfl (wpAny_Constant_str (PySem.P.eq_str (wpAny_truthy_bool ?_))))))
  refine ite_yes' (by decide) ?_
  have C3 := C2.tok 1
  have hvx : vx.length = xs.length := ivx.len
  have hvy : vy.length = ys.length := ivy.len
  refine wpAny_execs_cons (wpAny_Assign_Name (wpAny_BinOp (wpAny_BinOp (C3.nameE (v := .int (vx.length : Int) tn) rfl (wpAny_Constant_int (PySem.P.sub_int ?_))))))
  refine wpAny_UnaryOp (wpAny_Constant_int (neg_int ?_))
  refine div_m2 (by lia  ) (by lia  ) ?_
  refine (C3.tok 5).setE fun s5 C5 => ?_
  refine wpAny_execs_cons (wpAny_Assign_Name (wpAny_Call_Name_kw (C5.globalE G F.nrank (callWith_KW (C5.st.X G) F.krank rfl (args_cons (C5.nameE (v := .ref xl) rfl (args_nil (kws_cons (C5.nameE rfl (kws_nil ⟨C5.st.X G, wpAny_call ?_⟩))))))))))
  rw [hr]
  refine rank_list (z := -(xs.length : Int) - 1) G FF C5.st intKey (C5.ok 2 rfl) (.float _ (by rw [hvx]; congr 2; lia  )) (by grind) (by lia  ) KLx (by show A.depth + 1 + 5 < _; lia  ) hh' fun res rvals c s6 rk g6 ores nres => ?_
  have C6 := C5.addNew g6 ores nres rfl
  refine C6.setE fun s7 C7 => ?_
  refine wpAny_execs_cons (wpAny_Assign_Name (wpAny_Call_Name_kw (C7.globalE G F.nrank (callWith_KW (C7.st.X G) F.krank rfl (args_cons (C7.nameE (v := .ref yl) rfl (args_nil (kws_cons (C7.nameE (v := .float (hf (-(vx.length - 1))) _) rfl (kws_nil ⟨C7.st.X G, wpAny_call ?_⟩))))))))))
  rw [hr]
  refine rank_list (z := -(xs.length : Int) - 1) G FF C7.st intKey (C7.ok 4 rfl) (.float _ (by rw [hvx]; congr 2; lia  )) (by lia  ) (by lia  ) KLy (by show A.depth + 1 + 5 < _; lia  ) hh' fun res2 rvals2 c2 s8 rk2 g8 ores2 nres2 => ?_
  have C8 := C7.addNew g8 ores2 nres2 rfl
  refine C8.setE fun s9 C9 => wpAny_execs_nil ?_
  refine corr_tail G F 1 0 C9 rfl rfl rfl rfl (rk.fv KLx ivx rfl) (rk2.fv KLy ivy (by rw [hlen])) ok (by lia  ) hh (fun r t s' h g => kok r t s' h g) fun e t u c s' h hd tp => ?_
  exact hd.leave rfl fun s'' fl up => kno e t u s'' h fl (tp.of_slots up)
end
end Mine
end
section
set_option maxRecDepth 100000
set_option autoImplicit false
namespace Mine
open PySem PySem.W PySem.Calls PyProof.Rows PySem.Spec

section
variable {H0 : Heap} {A : Around} {l : List Env} {M : List Addr} {sE : Shared} {L : Addr} {m : Str → Option Value} {led : List (Addr × Obj)} {s : Shared} {prog : Program} {w : World} {E : Value → Shared → Prop} {env : Env}
theorem Cx.linCompA (C : Cx H0 A l M sE L m led s) {xi xb x y : Str} {py spos : Pos} {p1 p2 p3 px pi pos : Pos} {scope : Scope} {cl : List (Str × Addr)} {c : Addr} {f : UInt64} {t : Tok} {a : Addr} {vals : List Value} {ns : List Int} {ep : Nat} {Q : Flow → Shared → Prop} (i j : Nat)
    (hc : led[i]? = some (c, cellO (some (.float f t)))) (hx : m x = some (.ref a)) (hl : led[j]? = some (a, lstO vals ep)) (hv : IV vals ns) (hb : ∀ v ∈ ns, v.natAbs < 2 ^ 1023) (hlen : ns.length ≤ 1000) (hh : A.handled = none)
    (k : ∀ D acc c' s', Cx H0 A l M sE L (updM m y (.ref D)) ((D, lstO acc c') :: led) s' → FV acc (linD f ns) → Nw H0 sE D → Q .next s')
    (hsw : swapsWith (.ListComp (.BinOp (.Name xi p1) .Sub (.Name xb p2) p3) [⟨.Name xi px, .Name x pi, [], 0⟩] scope pos) (some (.Name y py)) spos.line env = pure true := by rfl) (hky : env.kindOf y = some .local := by rfl) (hL : env.locals = L := by rfl) (hk : env.scope.kind = .function := by rfl) (hkx : env.kindOf x = some .local := by rfl) (hdx : (x == ("__debug__" : Str)) = false := by decide)
    (hclos : closureFor scope env = pure cl := by rfl) (hcell : ∀ y ∈ scope.names, y.2 ≠ .cell := by decide) (hkind : scope.kind = .function := by rfl) (hnames : ∀ y ∈ scope.names, y.2 = .local → scope.names.lookup y.1 = some .local := by decide) (hxi : scope.names.lookup xi = some .local := by rfl)
    (hdi : (xi == ("__debug__" : Str)) = false := by decide) (hdb : (xb == ("__debug__" : Str)) = false := by decide) (hcl : cl.lookup xb = some c := by rfl) (hkb : ∀ C, (compEnvC scope cl C env).kindOf xb = some .cell := by intro _; rfl) (hki : ∀ C, (compEnvC scope cl C env).kindOf xi = some .local := by intro _; rfl) :
    wpAny (model prog w) A (exec (.Assign [.Name y py] (.ListComp (.BinOp (.Name xi p1) .Sub (.Name xb p2) p3) [⟨.Name xi px, .Name x pi, [], 0⟩] scope pos) spos) env) Q E s := by
  refine Cx.listCompA (led := led) (P := fun i acc _ => FV acc (linD f (ns.take i))) hsw hh hclos hcell hkind hnames hxi (fun _ _ _ _ h _ => h) hL hky (by rw [hk]; rfl) (C.nameE hx ⟨a, vals, ep, j, rfl, by rw [hv.len]; exact hlen, hl, C, FV.nil, fun I D C1 => ?_, fun D acc c' s' C' h n => k D acc c' s' C' (by rw [hv.len] at h; have h2 : FV acc (linD f (ns.take ns.length)) := h; rw [List.take_length] at h2; exact h2) n⟩ hL hk hkx hdx)
  · intro i' v acc c1 mC s1 E' hvi hP hm C2
    rw [List.forIn_nil]
    refine wpAny_pure ?_
    first | refine ite_yes' rfl ?_ | refine ite_yes rfl ?_ | rw [if_pos rfl]
    have hlt : i' < ns.length := by rw [← hv.len]; exact (List.getElem?_eq_some_iff.mp hvi).1
    obtain ⟨n, hn⟩ : ∃ n, ns[i']? = some n := ⟨_, List.getElem?_eq_getElem hlt⟩
    obtain ⟨u, hu⟩ := hv.at_ i' n hn
    rw [hvi] at hu; cases hu
    have hbn := hb n (List.mem_of_getElem? hn)
    refine wpAny_BinOp (C2.nameE (env := compEnvC scope cl C1 env) hm (C2.ldCell (env := compEnvC scope cl C1 env) (i + 2) (by simpa using hc) hcl (sub_if_fits hbn ⟨C2.tok 1, ?_⟩) hkind (hkb C1) hdb) rfl hkind (hki C1) hdi)
    show FV _ (linD f (ns.take (i' + 1)))
    rw [take_succ' hn, show linD f (ns.take i' ++ [n]) = linD f (ns.take i') ++ [Float64.sub (Float64.ofInt n) f] from List.map_append]
    exact hP.snoc _ _
end
noncomputable def meanF (ns : List Int) : UInt64 := Float64.div (hf (2 * ns.sum)) (Float64.ofInt ns.length)
noncomputable def devF (ns : List Int) : List UInt64 := linD (meanF ns) ns
section
variable {K : Frag} {a : Adr} {b : Ad2} {H0 : Heap} {mg mb : Str → Option Value} {A : Around} {l : List Env} {s : Shared} {prog : Program} {w : World} {E : Value → Shared → Prop}
theorem not_over_len {n : Nat} (h : n ≤ 1000) : ¬ PySem.Flt.Over (n : Int) := not_over (by lia  )

theorem corr_lin (G : Gl K H0 mg mb) (F : KG K b) {L f : Addr} {cdv : Value} {m : Str → Option Value} {s1 : Shared} {xl yl : Addr} {vx vy : List Value} {xs ys : List Int} {ex ey : Nat} {tm : Tok}
    (C : Cx H0 (A.deeper (envOfC "correlation" dCorr.2.2 L f cdv)) (envOfC "correlation" dCorr.2.2 L f cdv :: l) [] s L m (ledC (cellsFrom (L + 1) dCorr.2.2.names []) (fun _ => none) ++ [(xl, lstO vx ex), (yl, lstO vy ey)]) s1) (hcd : codeIn K cdv "correlation" = true)
    (hnw : ∀ x ∈ cellsFrom (L + 1) dCorr.2.2.names [], Nw H0 s x.2)
    (hx : m "x" = some (.ref xl)) (hy : m "y" = some (.ref yl)) (hm : m "method" = some (.str "linear" tm)) (ivx : IV vx xs) (ivy : IV vy ys) (hbx : ∀ x ∈ xs, x.natAbs ≤ 2 ^ 40) (hby : ∀ x ∈ ys, x.natAbs ≤ 2 ^ 40) (hlen : xs.length = ys.length) (h2 : 2 ≤ xs.length) (h3 : xs.length ≤ 1000)
    (ok : CorrOk (devF xs) (devF ys)) (hroom : A.depth + 1 < recursionLimit) (hh : A.handled = none) {R : Result → Shared → Prop}
    (kok : ∀ r t s', corrF (devF xs) (devF ys) = some r → Go H0 [] s s' → R (.ok (.ret (.float r t))) s')
    (kno : ∀ e t u s', corrF (devF xs) (devF ys) = none → Fly H0 [] s l e (.ref b.se) (.ref t) [] s' → s'.heap.TupAt t [.str constMsg u] → R (.error (.ref e)) s') :
    wpAny (model prog w) (A.deeper (envOfC "correlation" dCorr.2.2 L f cdv)) (execs dCorr.2.1 (envOfC "correlation" dCorr.2.2 L f cdv)) (qRet R)
        (eOut prog w (A.deeper (envOfC "correlation" dCorr.2.2 L f cdv)) (envOfC "correlation" dCorr.2.2 L f cdv) R) s1 := by
  have hvx : vx.length = xs.length := ivx.len
  have hvy : vy.length = ys.length := ivy.len
  have hh' : (A.deeper (envOfC "correlation" dCorr.2.2 L f cdv)).handled = none := hh
  have nx := hnw ("xbar", L + 1) (.tail _ (.head _))
  have ny := hnw ("ybar", L + 2) (.head _)
  refine corr_head G F 2 3 C hcd hx hy hm rfl rfl (by lia  ) (by lia  ) (by lia  ) (.inl rfl) fun tn s2 C2 => ?_
  refine wpAny_execs_cons (wpAny_If (wpAny_isTrue_Compare1 (C2.nameE (v := .str "linear" tm) hm (wpAny_Constant_str (PySem.P.eq_str (wpAny_truthy_bool ?_))))))
  refine ite_no' (by decide) ?_
  have C3 := C2.tok 1
  refine wpAny_execs_cons (wpAny_Assign_Name (wpAny_BinOp (Call_ (C3.globalE G F.nfsum (PyProof.Rows.callWith_builtin1 (args_cons (C3.nameE (v := .ref xl) hx (args_nil ?_))))))))
  refine fsum_spec (H0 := H0) C3.st.glob (C3.ok 2 rfl) (.inl ⟨_, rfl⟩) ivx hbx h3 hh' fun t4 s4 g4 => ?_
  have C4 := C3.call g4
  refine C4.nameE (v := .int (vx.length : Int) tn) rfl (PySem.Flt.truediv_fi hh' (fun h => absurd h (not_over_len (by lia  ))) (fun h => by lia  ) fun _ _ => ?_)
  refine (C4.tok 1).setCell 1 rfl rfl (.inr nx.e) nx.h fun s5 C5 => ?_
  refine wpAny_execs_cons (wpAny_Assign_Name (wpAny_BinOp (Call_ (C5.globalE G F.nfsum (PyProof.Rows.callWith_builtin1 (args_cons (C5.nameE (v := .ref yl) hy (args_nil ?_))))))))
  refine fsum_spec (H0 := H0) C5.st.glob (C5.ok 3 rfl) (.inl ⟨_, rfl⟩) ivy hby (by lia  ) hh' fun t6 s6 g6 => ?_
  have C6 := C5.call g6
  refine C6.nameE (v := .int (vx.length : Int) tn) rfl (PySem.Flt.truediv_fi hh' (fun h => absurd h (not_over_len (by lia  ))) (fun h => by lia  ) fun _ _ => ?_)
  refine (C6.tok 1).setCell 0 rfl rfl (.inr ny.e) ny.h fun s7 C7 => ?_
  refine wpAny_execs_cons (C7.linCompA (ns := xs) 1 2 rfl hx rfl ivx (fun v hv => by have := hbx v hv; lia  ) h3 hh' fun D8 acc8 c8 s8 C8 fv8 n8 => ?_)
  refine wpAny_execs_cons (C8.linCompA (ns := ys) 1 4 rfl hy rfl ivy (fun v hv => by have := hby v hv; lia  ) (by lia  ) hh' fun D9 acc9 c9 s9 C9 fv9 n9 => wpAny_execs_nil ?_)
  have e1 : linD (Float64.div (hf (2 * xs.sum)) (Float64.ofInt vx.length)) xs = devF xs := by rw [hvx]; rfl
  have e2 : linD (Float64.div (hf (2 * ys.sum)) (Float64.ofInt vx.length)) ys = devF ys := by rw [hvx, hlen]; rfl
  rw [e1] at fv8
  rw [e2] at fv9
  refine corr_tail G F 1 0 C9 rfl rfl rfl rfl fv8 fv9 ok hroom hh (fun r t s' h g => kok r t s' h g) fun e t u c s' h hd tp => ?_
  exact hd.leave rfl fun s'' fl up => kno e t u s'' h fl (tp.of_slots up)
end
end Mine
end
section
set_option maxRecDepth 100000
set_option autoImplicit false
namespace Mine
open PySem PySem.W PySem.Calls PyProof.Rows PySem.Spec
open Builtin Builtin.Str Builtin.BaseException Builtin.Exceptions

structure ExAt (h : Heap) (e C t0 : Addr) : Prop where
  ex : ∃ o vs, h.get? e = some o ∧ o.cls = .ref C ∧ o.data = .fields vs ∧ vs[0]? = some (.ref t0)
theorem ExAt.type {M : Model} {h : Heap} {e C t0 : Addr} (x : ExAt h e C t0) : Looks M h (typeOf (.ref e)) (.ref C) := by
  obtain ⟨o, vs, h1, h2, _⟩ := x.ex
  exact h2 ▸ (Looks.ld h1).andThen .now
section
variable {K : Frag} {prog : Program} {w : World} {A : Around} {E : Value → Shared → Prop} {s : Shared} {e C t0 : Addr}
theorem own_bexcArgs {M : Model} {items : List Value} {Q : Value × List Value → Shared → Prop} (x : ExAt s.heap e C t0) (ht : s.heap.TupAt t0 items) (hq : Q (.ref t0, items) s) : wpAny M A (bexcArgs (.ref e)) Q E s := by
  obtain ⟨o, vs, ho, _, hd, h0⟩ := x.ex
  obtain ⟨ot, k, hto, _, htd⟩ := ht
  unfold bexcArgs
  refine wpAny_bind (wpAny_field ho hd h0 (wpAny_bind (wpAny_seqItems hto htd ?_)))
  have : items.toArray.toList = items := by simp
  show wpAny M A (pure (Value.ref t0, items.toArray.toList)) Q E s
  rw [this]; exact wpAny_pure hq
theorem own_bexcStr {m : Str} {tk : Tok} {Q : Value → Shared → Prop} (X : K.In s.heap) (hm : mroIn K C (.type "BaseException") = some true) (x : ExAt s.heap e C t0) (ht : s.heap.TupAt t0 [.str m tk]) (hq : Q (.str m tk) s) :
    wpAny (model prog w) A (call (.builtin "BaseException.__str__") [.ref e]) Q E s := by
  refine wpAny_call (codeAny_call_builtin (by decide +kernel) PySem.F.entry_bexc_str (check_slot (i := "BaseException.__str__") (owner := "BaseException") (n := "__str__") (by decide +kernel) (by decide +kernel) (x.type.andThen (looks_mroIn X hm)) (PySem.F.args_bexc_str _) ?_))
  unfold Builtin.«BaseException.__str__»
  repeat (first | with_reducible refine own_bexcArgs x ht ?_ | wp_step)
  exact hq
theorem own_strOf {m : Str} {tk : Tok} {Q : Value → Shared → Prop} (hu : A.units < cLine) (X : K.In s.heap) (hs : findIn K (.ref C) "__str__" = some (some (.builtin "BaseException.__str__"))) (hm : mroIn K C (.type "BaseException") = some true) (x : ExAt s.heap e C t0) (ht : s.heap.TupAt t0 [.str m tk]) (hq : Q (.str m tk) s) :
    wpAny (model prog w) A (PySem.Builtin.Str.strOf (.ref e)) Q E s := by
  unfold PySem.Builtin.Str.strOf
  rw [show isExactStr (.ref e) = false from rfl]
  refine wpAny_bind (m := cRoomFor _ _) (wpAny_cRoomFor hu ?_)
  refine wpAny_bind (m := callSpecial? (.ref e) (Str.ofString "__str__")) ?_
  refine wpAny_bind (wpAny_bind (x.type.here ((looks_findIn X hs).here (wpAny_holding (wpAny_bind ((Looks.of_pure (PySem.F.excStr_ValueError.str.bind _)).here (wpAny_bind ?_)))))))
  refine own_bexcStr X hm x ht (wpAny_pure ?_)
  exact wpAny_pure hq
theorem own_str {m : Str} {tk : Tok} {Q : Value → Shared → Prop} (hu : A.units + 2 < cLine) (X : K.In s.heap) (hs : findIn K (.ref C) "__str__" = some (some (.builtin "BaseException.__str__"))) (hm : mroIn K C (.type "BaseException") = some true) (x : ExAt s.heap e C t0) (ht : s.heap.TupAt t0 [.str m tk]) (hq : Q (.str m tk) s) :
    wpAny (model prog w) A (call (.type "str") [.ref e]) Q E s :=
  callType_new PySem.F.called_str (by decide) (PySem.F.typeCall_str_1 _) (PySem.F.newCall_str_1 _) (fun obj => PySem.F.args_object_init_2 obj _) PySem.F.entry_str_new
    (meets_str_new (S := fun A' R s' => A'.units + 1 < cLine ∧ K.In s'.heap ∧ ExAt s'.heap e C t0 ∧ s'.heap.TupAt t0 [.str m tk] ∧ R (.ok (.ret (.str m tk))) s')
      fun _ _ A' _ _ hq => own_strOf (A := A'.in1) hq.1 hq.2.1 hs hm hq.2.2.1 hq.2.2.2.1 hq.2.2.2.2)
    ⟨(show A.units + 1 + 1 < cLine from hu), X, x, ht, typeIs_str _ _ _, hq⟩
end
end Mine
end
section
set_option maxRecDepth 100000
set_option autoImplicit false
namespace Mine
open PySem PySem.W PySem.Calls PyProof.Rows PySem.Spec

section
variable {H0 : Heap} {M : List Addr} {s sE s' : Shared} {l : List Env} {env : Env} {e L : Addr} {cls a0 : Value} {led : List (Addr × Obj)} {MM : Model} {A : Around} {E : Value → Shared → Prop} {Q : Unit → Shared → Prop} {m : Str → Option Value}
theorem Fly.noteT (F : Fly H0 M s (env :: l) e cls a0 led s') (hfr : A.frames = some (env :: l)) (hf : env.frame = some L) (hQ : ∀ s'', Held H0 M s (env :: l) e cls a0 L led s'' → s'.heap.UpToSlots s''.heap → Q () s'') : wpAny MM A (noteFrame (.ref e) env) Q E s' := by
  obtain ⟨B, hB, h0, h1, hp, h2⟩ := F.ex
  refine wpAny_looks_onW hfr hf hB fun h' x1 x2 => hQ _ ⟨⟨B, x1, h0, h1, hp, h2⟩, fun p hp' => ⟨x1.1 _ _ (h2 p hp'), (F.has p hp').nd, fun dx q => ((F.has p hp').dx dx q).slots x2⟩, fun b o es n q hd => ?_, F.toks, F.gens, F.os⟩ x2
  obtain ⟨sl, h3⟩ := F.up b o es n q hd
  obtain ⟨sl', h4⟩ := upSlots x2 h3 hd
  exact ⟨sl', h4⟩
theorem Held.landsT (F : Held H0 M s l e cls a0 L led s') (hQ : ∀ s'', Fly H0 M s l e cls a0 led s'' → s'.heap.UpToSlots s''.heap → Q () s'') : wpAny MM A (setFlight (.ref e) none) Q E s' := by
  obtain ⟨B, hB, h0, h1, hp, h2⟩ := F.ex
  refine wpAny_landsW hB fun h' x1 x2 => hQ _ ⟨⟨B, x1, h0, h1, hp, h2⟩, fun p hp' => ⟨x1.1 _ _ (h2 p hp'), (F.has p hp').nd, fun dx q => ((F.has p hp').dx dx q).slots x2⟩, fun b o es n q hd => ?_, F.toks, F.gens, F.os⟩ x2
  obtain ⟨sl, h3⟩ := F.up b o es n q hd
  obtain ⟨sl', h4⟩ := upSlots x2 h3 hd
  exact ⟨sl', h4⟩
theorem Fly.againT (F : Fly H0 M s l e cls a0 led s') (hQ : ∀ s'', Fly H0 M s l e cls a0 led s'' → s'.heap.UpToSlots s''.heap → Q () s'') : wpAny MM A (setFlight (.ref e) none) Q E s' := by
  obtain ⟨B, hB, h0, h1, hp, h2⟩ := F.ex
  refine lands_againW hB fun h' x1 x2 => hQ _ ⟨⟨B, x1, h0, h1, hp, h2⟩, fun p hp' => ⟨x1.1 _ _ (h2 p hp'), (F.has p hp').nd, fun dx q => ((F.has p hp').dx dx q).slots x2⟩, fun b o es n q hd => ?_, F.toks, F.gens, F.os⟩ x2
  obtain ⟨sl, h3⟩ := F.up b o es n q hd
  obtain ⟨sl', h4⟩ := upSlots x2 h3 hd
  exact ⟨sl', h4⟩
theorem Fly.exAt {C t : Addr} (F : Fly H0 M s l e (.ref C) (.ref t) led s') : ExAt s'.heap e C t := by
  obtain ⟨B, hB, _⟩ := F.ex
  obtain ⟨o, vs, h1, h2, h3, h4⟩ := hB.first
  exact ⟨o, vs, h1, h2, h3, h4⟩
end

noncomputable def Answers (prog : Program) (w : World) (H0 : Heap) (se : Addr) (c : Code) (r? : Option UInt64) (A : Around) (l : List Env) (s : Shared) : Prop :=
  ∀ R : Result → Shared → Prop, (∀ r t s', r? = some r → Go H0 [] s s' → R (.ok (.ret (.float r t))) s') →
    (∀ e t u s', r? = none → Fly H0 [] s l e (.ref se) (.ref t) [] s' → s'.heap.TupAt t [.str constMsg u] → R (.error (.ref e)) s') → codeAny (model prog w) A c R s
noncomputable def ToldV (r? : Option UInt64) (v : Value) : Prop := match r? with
  | some r => ∃ t, v = .float r t
  | none => ∃ t, v = .str constMsg t

section
variable {K : Frag} {b : Ad2} {H0 : Heap} {mg mb : Str → Option Value} {A : Around} {l : List Env} {s : Shared} {prog : Program} {w : World} {E : Value → Shared → Prop}
set_option maxHeartbeats 200000 in
theorem told_spec (G : Gl K H0 mg mb) (F : KG K b) (S : St H0 A l s) {xl yl : Addr} {ox oy : Obj} {mv : Str} {tm : Tok} {r? : Option UInt64} (hxl : Okk s.heap (xl, ox)) (hyl : Okk s.heap (yl, oy)) (hne : xl ≠ yl)
    (hc : ∀ A' l' s1, A'.depth = A.depth + 1 → A'.handled = none → St H0 A' l' s1 → Okk s1.heap (xl, ox) → Okk s1.heap (yl, oy) → Answers prog w H0 b.se (.call (.ref b.corr) ⟨[.ref xl, .ref yl], [(Str.ofString "method", .str mv tm)]⟩) r? A' l' s1)
    (hroom : A.depth < recursionLimit) (hu : A.units + 6 < cLine) (hh : A.handled = none) {Q : Value → Shared → Prop}
    (k : ∀ v s', ToldV r? v → Go H0 [] s s' → Q v s') : wpAny (model prog w) A (call (.ref b.told) [.ref xl, .ref yl, .str mv tm]) Q E s := by
  refine wpAny_call (enterF (binds := [(Str.ofString "x", .ref xl), (Str.ofString "y", .ref yl), (Str.ofString "method", .str mv tm)]) G S F.told [] [(xl, ox), (yl, oy)] (fun p hp => ?_) (by simp [hne]) hroom (fun _ _ _ _ _ _ => BindsTo.of_eq rfl) (by decide) (locs rfl) fun L cdv s1 _ C => ?_)
  · rcases List.mem_cons.mp hp with rfl | hp
    · exact hxl
    · rw [List.mem_singleton.mp hp]; exact hyl
  have hh' : (A.deeper (envOf "_law_told" dTold.2.2 L b.told cdv)).handled = none := hh
  refine wpAny_execs_cons (wpAny_Try_except (wpAny_execs_cons (wpAny_Return_some (wpAny_Call_Name_kw (C.global G F.ncorr ?_)))))
  refine callWith_KW (C.st.X G) F.kcorr rfl ?_
  refine args_cons (C.name (v := .ref xl) rfl (args_cons (C.name (v := .ref yl) rfl (args_nil ?_))))
  refine kws_cons (C.name (v := .str mv tm) rfl (kws_nil ⟨C.st.X G, wpAny_call ?_⟩))
  refine hc _ _ _ rfl hh' C.st (C.ok 0 rfl) (C.ok 1 rfl) _ (fun r t s' hr g => ?_) (fun e t u s' hr fl tp => ?_)
  · refine k _ _ ?_ (C.call g).go
    rw [hr]; exact ⟨t, rfl⟩
  refine fl.noteT C.st.frames rfl fun s2 hd2 up2 => ?_
  refine hd2.landsT fun s3 fl3 up3 => ?_
  have C3 := (C.call fl3.go).around (A' := (A.deeper (envOf "_law_told" dTold.2.2 L b.told cdv)).mark (some (.ref e))) rfl
  refine wpAny_handleBy_cons (codeAny_handlers_test (C3.global G F.nse ?_)) (by intro q; cases q)
  obtain ⟨bm, N, nm, qn, bs, hdct, sn, sub, ab, col, dd, k0, k1, k2, k3, k5, mN, hC, hN, hni, T⟩ := excCls (C3.st.X G) F.exc
  obtain ⟨oe, ws, he1, he2, _, _⟩ := fl3.exAt.ex
  refine wpAny_excMatches_sub_self hC he1 he2 (T.hasType PySem.F.excBase_ValueError.hasBase) (codeAny_handlers_suite_as ?_)
  refine fl3.againT fun s4 fl4 up4 => ?_
  have C4 := (C.call fl4.go).around (A' := (A.deeper (envOf "_law_told" dTold.2.2 L b.told cdv)).mark (some (.ref e))) rfl
  have hx4 := fl4.exAt
  have tp4 : s4.heap.TupAt t [.str constMsg u] := ((tp.of_slots up2).of_slots up3).of_slots up4
  refine C4.rebase.store rfl (fun s5 C5r => ?_)
  have C5 := C4.unbase C5r
  have keep : ∀ b o, s4.heap.get? b = some o → nd o → s5.heap.get? b = some o := fun b o q hn => by
    have hb : b ≠ L := fun z => by
      obtain ⟨oL, es, ep, h1, h2⟩ := ns_dict C4.ns
      rw [z, h1] at q; cases q; exact hn _ _ h2
    exact C5r.go.nd b o ((wiped_of hb).trans q) (fun h => nomatch h) hn
  have hx5 : ExAt s5.heap e b.se t := by
    obtain ⟨o, vs, h1, h2, h3, h4⟩ := hx4.ex
    exact ⟨o, vs, keep _ _ h1 (fun es n q => by rw [h3] at q; cases q), h2, h3, h4⟩
  have tp5 : s5.heap.TupAt t [.str constMsg u] := by
    obtain ⟨o, n, h1, h2, h3⟩ := tp4
    exact ⟨o, n, keep _ _ h1 (fun es n q => by rw [h3] at q; cases q), h2, h3⟩
  refine wpAny_execs_cons (wpAny_Return_some (Call_ (C5.boot G F.nstr Boot.«str» ?_)))
  refine PyProof.Rows.callWith_type1 ?_
  refine args_cons ?_
  refine C5.name (v := .ref e) rfl ?_
  refine args_nil ?_
  refine own_str (by show A.units + 3 + 2 < _; lia  ) (C5.st.X G) F.sestr F.semro hx5 tp5 ?_
  refine wpAny_nameGoes (env := envOf "_law_told" dTold.2.2 L b.told cdv) rfl C5.ns rfl fun h' m' hn' hs' => ?_
  have hnL : s.heap.get? L = none := C.new
  have gf := same_go C5.go hnL S.glob hs'
  refine k (.str constMsg u) _ ?_ (gf.trans (Go.ext (s := { s5 with heap := h' }) (s' := { s5 with heap := h', toks := s5.toks + 1 }) (fun _ _ h => h) (Nat.le_succ _) rfl rfl _))
  rw [hr]; exact ⟨u, rfl⟩
end
end Mine
end
section
set_option maxRecDepth 100000
set_option autoImplicit false
namespace Mine
open PySem PySem.W PySem.Calls PyProof.Rows PySem.Spec

section
variable {K : Frag} {a : Adr} {b : Ad2} {H0 : Heap} {mg mb : Str → Option Value} {A : Around} {l : List Env} {s : Shared} {prog : Program} {w : World} {E : Value → Shared → Prop}
theorem ans_ranked (G : Gl K H0 mg mb) (FF : KF K a) (F : KG K b) (hr : b.rank = a.rank) (S : St H0 A l s) {xl yl : Addr} {vx vy : List Value} {xs ys : List Int} {ex ey : Nat} {tm : Tok} (hxl : Okk s.heap (xl, lstO vx ex)) (hyl : Okk s.heap (yl, lstO vy ey)) (hne : xl ≠ yl)
    (ivx : IV vx xs) (ivy : IV vy ys) (KLx : KeyL intKey vx) (KLy : KeyL intKey vy) (hlen : xs.length = ys.length) (h2 : 2 ≤ xs.length) (h3 : xs.length < 64) (ok : CorrOk (rankD xs) (rankD ys)) (hroom : A.depth + 7 < recursionLimit) (hh : A.handled = none) :
    Answers prog w H0 b.se (.call (.ref b.corr) ⟨[.ref xl, .ref yl], [(Str.ofString "method", .str "ranked" tm)]⟩) (corrF (rankD xs) (rankD ys)) A l s := fun R kok kno =>
  corr_ranked G FF F hr S hxl hyl hne ivx ivy KLx KLy hlen h2 h3 ok hroom hh kok kno

theorem ans_linear (G : Gl K H0 mg mb) (F : KG K b) (S : St H0 A l s) {xl yl : Addr} {vx vy : List Value} {xs ys : List Int} {ex ey : Nat} {tm : Tok} (hxl : Okk s.heap (xl, lstO vx ex)) (hyl : Okk s.heap (yl, lstO vy ey)) (hne : xl ≠ yl)
    (ivx : IV vx xs) (ivy : IV vy ys) (hbx : ∀ x ∈ xs, x.natAbs ≤ 2 ^ 40) (hby : ∀ x ∈ ys, x.natAbs ≤ 2 ^ 40) (hlen : xs.length = ys.length) (h2 : 2 ≤ xs.length) (h3 : xs.length ≤ 1000) (ok : CorrOk (devF xs) (devF ys)) (hroom : A.depth + 1 < recursionLimit) (hh : A.handled = none) :
    Answers prog w H0 b.se (.call (.ref b.corr) ⟨[.ref xl, .ref yl], [(Str.ofString "method", .str "linear" tm)]⟩) (corrF (devF xs) (devF ys)) A l s := fun R kok kno => by
  refine enterCX G S F.corr [] (by lia  ) (by intro n; show ([Str.ofString "ybar", Str.ofString "xbar"] : List Str).Nodup; decide) fun name doc pm an cdv ct E' => corr_bind_kw ⟨fun _ _ h => h, Nat.le_refl _, rfl, rfl, corr_kinds _ _ _, [(xl, lstO vx ex), (yl, lstO vy ey)], fun p hp => ?_, by simp [hne], fun L cdv s1 hcd C hnw => ?_⟩
  · rcases List.mem_cons.mp hp with rfl | hp
    · exact hxl
    · rw [List.mem_singleton.mp hp]; exact hyl
  exact corr_lin G F C hcd hnw rfl rfl rfl ivx ivy hbx hby hlen h2 h3 ok hroom hh kok kno

theorem ans_default (G : Gl K H0 mg mb) (F : KG K b) (S : St H0 A l s) {xl yl : Addr} {vx vy : List Value} {xs ys : List Int} {ex ey : Nat} (hxl : Okk s.heap (xl, lstO vx ex)) (hyl : Okk s.heap (yl, lstO vy ey)) (hne : xl ≠ yl)
    (ivx : IV vx xs) (ivy : IV vy ys) (hbx : ∀ x ∈ xs, x.natAbs ≤ 2 ^ 40) (hby : ∀ x ∈ ys, x.natAbs ≤ 2 ^ 40) (hlen : xs.length = ys.length) (h2 : 2 ≤ xs.length) (h3 : xs.length ≤ 1000) (ok : CorrOk (devF xs) (devF ys)) (hroom : A.depth + 1 < recursionLimit) (hh : A.handled = none) :
    Answers prog w H0 b.se (.call (.ref b.corr) ⟨[.ref xl, .ref yl], []⟩) (corrF (devF xs) (devF ys)) A l s := fun R kok kno => by
  refine enterCX G S F.corr [] (by lia  ) (by intro n; show ([Str.ofString "ybar", Str.ofString "xbar"] : List Str).Nodup; decide) fun name doc pm an cdv ct E' => corr_bind_def F (S.X G) fun tm => ⟨fun _ _ h => h, Nat.le_refl _, rfl, rfl, corr_kinds _ _ _, [(xl, lstO vx ex), (yl, lstO vy ey)], fun p hp => ?_, by simp [hne], fun L cdv s1 hcd C hnw => ?_⟩
  · rcases List.mem_cons.mp hp with rfl | hp
    · exact hxl
    · rw [List.mem_singleton.mp hp]; exact hyl
  exact corr_lin G F C hcd hnw rfl rfl rfl ivx ivy hbx hby hlen h2 h3 ok hroom hh kok kno
end
end Mine
end
section
set_option maxRecDepth 100000
set_option autoImplicit false
namespace Mine
open PySem PySem.W PySem.Calls PyProof.Rows PySem.Spec

section
variable {H0 : Heap} {A : Around} {l : List Env} {M : List Addr} {sE : Shared} {L : Addr} {m : Str → Option Value} {led : List (Addr × Obj)} {s : Shared} {prog : Program} {w : World} {E : Value → Shared → Prop} {env : Env}
noncomputable abbrev TurnC (prog : Program) (w : World) (H0 : Heap) (A : Around) (l : List Env) (led : List (Addr × Obj)) (vals : List Value) (I a D C ca : Addr) (sB : Shared) (ifs : List Expr) (elt : Expr) (cenv : Env) (P : Nat → List Value → Tok → Prop) : Prop :=
  ∀ (i : Nat) (v : Value) (acc : List Value) (c : Nat) (mC : Str → Option Value) (s : Shared) (E' : Value → Shared → Prop), vals[i]? = some v → P i acc s.toks → Cx H0 A l [] sB C mC ((ca, cellO (some v)) :: (D, lstO acc c) :: (I, itO a (i + 1)) :: led) s →
      wpAny (model prog w) A (forIn ifs true fun c r => if r = true then do let ok ← isTrue c cenv (eval c cenv); pure (ForInStep.yield ok) else pure (ForInStep.yield r)) (fun ok s₃ =>
        if ok = true then wpAny (model prog w) A (eval elt cenv) (fun y s₄ => Cx H0 A l [] sB C mC ((ca, cellO (some v)) :: (D, lstO acc c) :: (I, itO a (i + 1)) :: led) s₄ ∧ P (i + 1) (acc ++ [y]) s₄.toks) E' s₃
        else Cx H0 A l [] sB C mC ((ca, cellO (some v)) :: (D, lstO acc c) :: (I, itO a (i + 1)) :: led) s₃ ∧ P (i + 1) acc s₃.toks) E' s

theorem comp_loopC {elt iter : Expr} {x : Str} {px : Pos} {ifs : List Expr} {scope : Scope} {pos : Pos} {cenv : Env} {I a D ca : Addr} {vals : List Value} {ep : Nat} {j : Nat} {P : Nat → List Value → Tok → Prop} {R : Result → Shared → Prop} {sB : Shared} {C : Addr}
    (hh : A.handled = none) (hk : cenv.scope.kind = .function) (hx : cenv.kindOf x = some .cell) (hc : cenv.cells.lookup x = some ca)
    (ha : led[j]? = some (a, lstO vals ep)) (hI0 : H0.get? I = none) (hI1 : sB.heap.get? I = none) (hD0 : H0.get? D = none) (hD1 : sB.heap.get? D = none) (hc0 : H0.get? ca = none) (hc1 : sB.heap.get? ca = none) (hlen : vals.length ≤ 1000) (mono : ∀ i acc n n', P i acc n → n ≤ n' → P i acc n')
    (turn : TurnC prog w H0 A l led vals I a D C ca sB ifs elt cenv P)
    (k : ∀ mC acc c s', Cx H0 A l [] sB C mC ((D, lstO acc c) :: led) s' → P vals.length acc s'.toks → R (.ok .next) s')
    {mC : Str → Option Value} {c : Nat} {s : Shared} (C0 : Cx H0 A l [] sB C mC ((ca, cellO none) :: (D, lstO [] c) :: (I, itO a 0) :: led) s) (h0 : P 0 [] s.toks) :
    codeAny (model prog w) A (.compLoop (.ListComp elt [⟨.Name x px, iter, ifs, 0⟩] scope pos) 0 (.ref I) (.ref D) cenv) R s := by
  refine codeAny_compLoop_tests (CInv vals.length P fun i acc c mC s => ∃ cv, Cx H0 A l [] sB C mC ((ca, cellO cv) :: (D, lstO acc c) :: (I, itO a i) :: led) s) ?_ (vals.length + 1) ⟨0, [], c, mC, rfl, Nat.zero_le _, Nat.le_refl _, h0, none, C0⟩
  rintro n s1 ⟨i, acc, c1, mC1, rfl, hi, hal, hP, cv, C1⟩
  cases hv : vals[i]? with
  | none =>
    have hil : i = vals.length := by have := List.getElem?_eq_none_iff.mp hv; lia
    refine pyNext_end hh (C1.at 2 rfl) (C1.at (j + 3) (by simpa using ha)) hv fun h' e hm => ?_
    have C2 := C1.upd 2 (f := Obj.mapFields (·.setIfInBounds 0 .none)) rfl rfl nd_fields rfl (.inr hI1) hI0
    have C3 := C2.call (made_go (H0 := H0) (M := []) (s := { s1 with heap := s1.heap.update I (Obj.mapFields (·.setIfInBounds 0 .none)) }) hm)
    exact k mC1 acc c1 _ (C3.drop ((D, lstO acc c1) :: led) (.cons _ (.cons_cons _ (.cons _ (List.Sublist.refl _))))) (by rw [← hil]; exact hP)
  | some v =>
    have hlt : i < vals.length := (List.getElem?_eq_some_iff.mp hv).1
    refine pyNext_item (C1.at 2 rfl) (C1.at (j + 3) (by simpa using ha)) hv ?_
    have C2 := C1.upd 2 (f := Obj.mapFields (·.setIfInBounds 1 (rawInt ((i : Int) + 1)))) rfl rfl nd_fields rfl (.inr hI1) hI0
    refine PySem.wpAny_assign_Name (C2.mark.setCell (env := cenv) 0 rfl hc (.inr hc1) hc0 (fun s3 C3 => ?_) hk hx)
    have hts : s1.toks ≤ s3.toks := C3.go.toks
    have C3' : Cx H0 A l [] sB C mC1 ((ca, cellO (some v)) :: (D, lstO acc c1) :: (I, itO a (i + 1)) :: led) s3 := Cx.unmark (sE := sB) (n := s1.toks) C3 C1.go.toks
    refine wpAny_mono (turn i v acc c1 _ s3 _ hv (mono _ _ _ _ hP hts) C3') (fun ok s4 h4 => ?_) fun _ _ z => z
    cases ok with
    | false =>
      rw [if_neg (by decide)] at h4
      refine ite_no' rfl ?_
      exact ⟨vals.length + 1 - (i + 1), by grind, i + 1, acc, c1, _, rfl, hlt, by lia  , h4.2, _, h4.1⟩
    | true =>
      rw [if_pos rfl] at h4
      refine ite_yes' rfl ?_
      refine wpAny_mono h4 (fun y s5 h5 => ?_) fun _ _ z => z
      refine append_list (h5.1.at 1 rfl) (by lia  ) ?_
      have C6 := h5.1.upd 1 (f := Obj.mapSeq (·.push y)) rfl rfl nd_seq rfl (.inr hD1) hD0
      have e : (Obj.mapSeq (·.push y) (lstO acc c1)) = lstO (acc ++ [y]) (c1 + 1) := by simp [Obj.mapSeq]
      rw [e] at C6
      exact ⟨vals.length + 1 - (i + 1), by grind, i + 1, acc ++ [y], c1 + 1, _, rfl, hlt, by simp; omega, h5.2, _, C6⟩

theorem newEnv_cell {scope : Scope} {globals : Addr} {cl : List (Str × Addr)} {qual : Str} {env : Env} {x : Str} {Q : Env → Shared → Prop} {MM : Model}
    (hcells : ∀ n, cellsFrom n scope.names cl = (x, n) :: cl) (hpush : ∀ h, pushCells h scope.names = h.push (cellO none))
    (h : Q { scope, locals := s.heap.objs.size, globals, cells := (x, s.heap.objs.size + 1) :: cl, qual, func := none, code := env.code, frame := env.frame, builtins := env.builtins } { s with heap := (s.heap.push { cls := .type "dict", data := .dict #[] }).push (cellO none) }) :
    wpAny MM A (newFunctionEnv scope globals cl [] qual none .none (some env)) Q E s := by
  simp only [newFunctionEnv, Option.isSome_some, if_true]
  refine wpAny_bind (wpAny_alloc ?_)
  refine wpAny_bind (wpAny_layCells _ (fun name kind cells => by cases hkc : kind == NameKind.cell <;> simp [hkc]) _ _ _ _ ?_)
  rw [hcells, hpush]
  dsimp only
  rw [List.forIn_nil]
  refine wpAny_bind (wpAny_pure (wpAny_pure ?_))
  rw [Heap.size_push]
  exact h
end
end Mine
end
section
set_option maxRecDepth 100000
set_option autoImplicit false
namespace Mine
open PySem PySem.W PySem.Calls PyProof.Rows PySem.Spec

section
variable {H0 : Heap} {A : Around} {l : List Env} {M : List Addr} {sE : Shared} {L : Addr} {m : Str → Option Value} {led : List (Addr × Obj)} {s : Shared} {prog : Program} {w : World} {E : Value → Shared → Prop} {env : Env}
theorem Cx.listCompC {elt iter : Expr} {x : Str} {px : Pos} {ifs : List Expr} {scope : Scope} {cl : List (Str × Addr)} {pos : Pos} {Q : Value → Shared → Prop} {P : Nat → List Value → Tok → Prop}
    (hh : A.handled = none) (hclos : closureFor scope env = pure cl) (hcells : ∀ n, cellsFrom n scope.names cl = (x, n) :: cl) (hpush : ∀ h, pushCells h scope.names = h.push (cellO none)) (hkind : scope.kind = .function)
    (hnames : ∀ y ∈ scope.names, y.2 = .local → scope.names.lookup y.1 = some .local) (hx : ∀ C, (compEnvC scope ((x, C + 1) :: cl) C env).kindOf x = some .cell) (mono : ∀ i acc n n', P i acc n → n ≤ n' → P i acc n')
    (h : wpAny (model prog w) A (eval iter env) (fun xv s₁ => ∃ (a : Addr) (vals : List Value) (ep j : Nat), xv = .ref a ∧ vals.length ≤ 1000 ∧ led[j]? = some (a, lstO vals ep) ∧ Cx H0 A l M sE L m led s₁ ∧ P 0 [] s₁.toks ∧
      (∀ I D C, TurnC prog w H0 A l led vals I a D C (C + 1) s₁ ifs elt (compEnvC scope ((x, C + 1) :: cl) C env) P) ∧
      (∀ D acc c s', Go H0 [] s₁ s' → P vals.length acc s'.toks → Okk s'.heap (D, lstO acc c) → s₁.heap.get? D = none → Q (.ref D) s')) E s)
    (hs : ∀ x, foldedSetIterable iter env x = pure x := by intro _; rfl) :
    wpAny (model prog w) A (eval (.ListComp elt [⟨.Name x px, iter, ifs, 0⟩] scope pos) env) Q E s := by
  rw [eval_ListComp]
  refine wpAny_comprehension_free (use := none) rfl hs hclos hkind hnames (wpAny_mono h (fun xv s₁ h₁ => ?_) fun _ _ e => e)
  obtain ⟨a, vals, ep, j, rfl, hlen, ha, C, h0, turn, k⟩ := h₁
  have hal := C.at j ha
  refine wpAny_pyIter_list ⟨_, hal, rfl, _, rfl⟩ (wpAny_newObj_type (newEnv_cell (x := x) hcells hpush ?_) (by show 0 ≤ _; exact Nat.zero_le _))
  dsimp only
  have C2 := (C.push (itO a 0) rfl nd_fields rfl).push (lstO []) rfl nd_seq rfl
  have g2 : Go H0 [] s₁ { s₁ with heap := (s₁.heap.push (itO a 0)).push (lstO []) } := (Go.push (s := s₁) _).trans (Go.push (s := { s₁ with heap := s₁.heap.push (itO a 0) }) _)
  have C3 := C2.inner (k := 0) g2 (h₁ := ((s₁.heap.push (itO a 0)).push (lstO [])).push { cls := .type "dict", data := .dict #[] }) (o := { cls := .type "dict", data := .dict #[] }) (Heap.Ns.new _ (.type "dict")) (.refl ..)
  have C4 := C3.push (cellO none) rfl nd_cell rfl
  have nI : s₁.heap.get? s₁.heap.objs.size = none := not_at
  have nD : s₁.heap.get? (s₁.heap.push (itO a 0)).objs.size = none := none_ge (by rw [Heap.size_push]; exact Nat.le_succ _)
  have nca : s₁.heap.get? (((s₁.heap.push (itO a 0)).push (lstO [])).push { cls := .type "dict", data := .dict #[] }).objs.size = none := none_ge (by rw [Heap.size_push, Heap.size_push, Heap.size_push]; exact Nat.le_trans (Nat.le_trans (Nat.le_succ _) (Nat.le_succ _)) (Nat.le_succ _))
  have hI := C.noE nI
  have hD := C.noE nD
  have hca := C.noE nca
  have nC := C3.new
  have eca : (((s₁.heap.push (itO a 0)).push (lstO [])).push { cls := .type "dict", data := .dict #[] }).objs.size = ((s₁.heap.push (itO a 0)).push (lstO [])).objs.size + 1 := Heap.size_push ..
  rw [eca] at C4 nca hca
  have loop : codeAny (model prog w) A (.compLoop (.ListComp elt [⟨.Name x px, iter, ifs, 0⟩] scope pos) 0 (.ref s₁.heap.objs.size) (.ref (s₁.heap.push (itO a 0)).objs.size) (compEnvC scope ((x, ((s₁.heap.push (itO a 0)).push (lstO [])).objs.size + 1) :: cl) ((s₁.heap.push (itO a 0)).push (lstO [])).objs.size env))
      (compPost (model prog w) A E none Q (.ref (s₁.heap.push (itO a 0)).objs.size) ((s₁.heap.push (itO a 0)).push (lstO [])).objs.size) { s₁ with heap := (((s₁.heap.push (itO a 0)).push (lstO [])).push { cls := .type "dict", data := .dict #[] }).push (cellO none), toks := s₁.toks + 0 } := by
    refine comp_loopC (cenv := compEnvC scope ((x, ((s₁.heap.push (itO a 0)).push (lstO [])).objs.size + 1) :: cl) ((s₁.heap.push (itO a 0)).push (lstO [])).objs.size env) (j := j) (P := P) (ca := ((s₁.heap.push (itO a 0)).push (lstO [])).objs.size + 1) hh hkind (hx _) (by show List.lookup x ((x, _) :: cl) = _; simp) ha hI.h nI hD.h nD hca.h nca hlen mono (turn _ _ _) (fun mC acc c s' C4 hP => ?_) C4 h0
    refine ⟨mC, C4.ns, fun h' hs' => ?_⟩
    have g4 := same_go C4.go nC C.st.glob hs'
    have hDC : (s₁.heap.push (itO a 0)).objs.size ≠ ((s₁.heap.push (itO a 0)).push (lstO [])).objs.size := by rw [Heap.size_push (s₁.heap.push (itO a 0))]; exact Nat.ne_of_lt (Nat.lt_succ_self _)
    exact k _ acc c _ g4 hP (okk_lst ((hs'.2 _ hDC).trans (C4.at 0 rfl))) nD
  refine codeAny_compStart_list loop (wpAny_pyIter_listiter ⟨_, C4.at 2 rfl, rfl, rfl⟩ loop)
end
end Mine
end
section
set_option maxRecDepth 100000
set_option autoImplicit false
namespace Mine
open PySem PySem.W PySem.Calls PyProof.Rows PySem.Spec

section
variable {H0 : Heap} {A : Around} {l : List Env} {M : List Addr} {sE : Shared} {L : Addr} {m : Str → Option Value} {led : List (Addr × Obj)} {s : Shared} {prog : Program} {w : World} {E : Value → Shared → Prop} {env : Env}
theorem Cx.countComp (C : Cx H0 A l M sE L m led s) {bn an rn : Str} {p1 p2 p3 p4 px pr pos : Pos} {scope : Scope} {cl : List (Str × Addr)} {op : CmpOp} {test : Int → Int → Bool} {ca al : Addr} {v : Int} {tv : Tok} {vals : List Value} {ns : List Int} {ep : Nat} {Q : Value → Shared → Prop} (i j : Nat)
    (hop : ∀ (x : Int) (tx : Tok) (y : Int) (ty : Tok) (A : Around) (Q : Value → Shared → Prop) (E : Value → Shared → Prop) (s : Shared), Q (.bool (test x y)) s → wpAny (model prog w) A (compareOp op (.int x tx) (.int y ty)) Q E s)
    (hrow : ∀ (Q : Value → Shared → Prop), Q (.ref al) s → wpAny (model prog w) A (eval (.Name rn pr) env) Q E s)
    (hc : led[i]? = some (ca, cellO (some (.int v tv)))) (hl : led[j]? = some (al, lstO vals ep)) (iv : IV vals ns) (hlen : ns.length ≤ 1000) (hh : A.handled = none)
    (k : ∀ D acc c' s', Go H0 [] s s' → acc.length = ns.countP (fun x => test x v) → Okk s'.heap (D, lstO acc c') → s.heap.get? D = none → Q (.ref D) s')
    (hclos : closureFor scope env = pure cl := by rfl) (hcell : ∀ y ∈ scope.names, y.2 ≠ .cell := by decide) (hkind : scope.kind = .function := by rfl) (hnames : ∀ y ∈ scope.names, y.2 = .local → scope.names.lookup y.1 = some .local := by decide) (hxi : scope.names.lookup bn = some .local := by rfl)
    (hdi : (bn == ("__debug__" : Str)) = false := by decide) (hdb : (an == ("__debug__" : Str)) = false := by decide) (hcl : cl.lookup an = some ca := by rfl) (hkb : ∀ C, (compEnvC scope cl C env).kindOf an = some .cell := by intro _; rfl) (hki : ∀ C, (compEnvC scope cl C env).kindOf bn = some .local := by intro _; rfl)
    (hm : behindInMarks op (.Name an p3) = false := by rfl) :
    wpAny (model prog w) A (eval (.ListComp (.Name bn p1) [⟨.Name bn px, .Name rn pr, [.Compare (.Name bn p2) [op] [.Name an p3] p4], 0⟩] scope pos) env) Q E s := by
  refine Cx.listComp (led := led) (P := fun i acc _ => acc.length = (ns.take i).countP fun x => test x v) hh hclos hcell hkind hnames hxi (fun _ _ _ _ h _ => h) (hrow _ ⟨al, vals, ep, j, rfl, by rw [iv.len]; exact hlen, hl, C, rfl, fun I D C1 => ?_, fun D acc c' s' g h o n => k D acc c' s' g (by rw [iv.len] at h; have h2 : acc.length = (ns.take ns.length).countP _ := h; rw [List.take_length] at h2; exact h2) o n⟩)
  intro i' vv acc c1 mC s1 E' hvi hP hmC C2
  have hlt : i' < ns.length := by rw [← iv.len]; exact (List.getElem?_eq_some_iff.mp hvi).1
  obtain ⟨n, hn⟩ : ∃ n, ns[i']? = some n := ⟨_, List.getElem?_eq_getElem hlt⟩
  obtain ⟨u, hu⟩ := iv.at_ i' n hn
  rw [hvi] at hu; cases hu
  have hP' : acc.length = (ns.take i').countP fun x => test x v := hP
  have hT : (ns.take (i' + 1)).countP (fun x => test x v) = (ns.take i').countP (fun x => test x v) + if test n v then 1 else 0 := by
    rw [take_succ' hn, List.countP_append, List.countP_singleton]
  rw [List.forIn_cons]
  refine wpAny_bind (wpAny_bind (wpAny_isTrue_Compare1 (C2.nameE (env := compEnvC scope cl C1 env) hmC (C2.ldCell (env := compEnvC scope cl C1 env) (i + 2) (by simpa using hc) hcl (hop _ _ _ _ _ _ _ _ (wpAny_truthy_bool (wpAny_pure ?_))) hkind (hkb C1) hdb) rfl hkind (hki C1) hdi)))
  dsimp only
  rw [List.forIn_nil]
  refine wpAny_pure ?_
  cases ht : test n v with
  | true =>
    first | refine ite_yes' rfl ?_ | refine ite_yes rfl ?_ | rw [if_pos rfl]
    refine C2.nameE (env := compEnvC scope cl C1 env) hmC ⟨C2, ?_⟩ rfl hkind (hki C1) hdi
    show (acc ++ [_]).length = (ns.take (i' + 1)).countP _
    rw [hT, ht, List.length_append, hP']; rfl
  | false =>
    first | refine ite_no' (by decide) ?_ | refine ite_no (by decide) ?_ | rw [if_neg (by decide)]
    refine ⟨C2, ?_⟩
    show acc.length = (ns.take (i' + 1)).countP _
    rw [hT, ht, hP']; rfl
end
end Mine
end
section
set_option maxRecDepth 100000
set_option autoImplicit false
namespace Mine
open PySem PySem.W PySem.Calls PyProof.Rows PySem.Spec

theorem IV.nil : IV [] [] := ⟨rfl, fun i x h => by cases h⟩
theorem IV.snoc {vs : List Value} {xs : List Int} (h : IV vs xs) (x : Int) (t : Tok) : IV (vs ++ [.int x t]) (xs ++ [x]) := by
  refine ⟨by simp [h.len], fun i y hy => ?_⟩
  by_cases hi : i < xs.length
  · rw [List.getElem?_append_left hi] at hy
    obtain ⟨u, hu⟩ := h.at_ i y hy
    exact ⟨u, by rw [List.getElem?_append_left (by rw [h.len]; exact hi)]; exact hu⟩
  · have hi' := Nat.not_lt.mp hi
    rw [List.getElem?_append_right hi'] at hy
    have e : i - xs.length = 0 := by
      have := (List.getElem?_eq_some_iff.mp hy).1; simp at this; omega
    rw [e] at hy; cases hy
    exact ⟨t, by rw [List.getElem?_append_right (by rw [h.len]; exact hi'), h.len, e]; rfl⟩

section
variable {K : Frag} {b : Ad2} {H0 : Heap} {mg mb : Str → Option Value} {A : Around} {l : List Env} {s : Shared} {prog : Program} {w : World} {E : Value → Shared → Prop}
theorem places_spec (G : Gl K H0 mg mb) (F : KG K b) (S : St H0 A l s) {xl : Addr} {vx : List Value} {ex : Nat} {ns : List Int} (hxl : Okk s.heap (xl, lstO vx ex)) (iv : IV vx ns) (hlen : ns.length ≤ 1000) (hroom : A.depth < recursionLimit) (hh : A.handled = none) {Q : Value → Shared → Prop}
    (k : ∀ D vals c s', Go H0 [] s s' → IV vals (places ns) → Okk s'.heap (D, lstO vals c) → s.heap.get? D = none → Q (.ref D) s') : wpAny (model prog w) A (call (.ref b.plac) [.ref xl]) Q E s := by
  refine wpAny_call (enterCX G S F.plac [] hroom (by intro n; show ([Str.ofString "row"] : List Str).Nodup; decide) fun name doc pm an cdv ct E' => wpAny_of_eq (a := [(Str.ofString "row", .ref xl)]) rfl ⟨fun _ _ h => h, Nat.le_refl _, rfl, rfl, fun n x hx => ?_, [(xl, lstO vx ex)], fun p hp => ?_, by simp, fun L cdv s1 hcd C hnw => ?_⟩)
  · rw [List.mem_singleton.mp hx]; exact .inr ⟨rfl, rfl⟩
  · rw [List.mem_singleton.mp hp]; exact hxl
  have hh' : (A.deeper (envOfC "_law_places" dPlac.2.2 L b.plac cdv)).handled = none := hh
  have C1 : Cx H0 (A.deeper (envOfC "_law_places" dPlac.2.2 L b.plac cdv)) (envOfC "_law_places" dPlac.2.2 L b.plac cdv :: l) [] s L (fun _ => none) [(L + 1, cellO (some (.ref xl))), (xl, lstO vx ex)] s1 := C
  refine wpAny_execs_cons (wpAny_Return_some ?_)
  refine Cx.listCompC (H0 := H0) (l := envOfC "_law_places" dPlac.2.2 L b.plac cdv :: l) (M := []) (sE := s) (L := L) (m := fun _ => none) (led := [(L + 1, cellO (some (.ref xl))), (xl, lstO vx ex)]) (cl := [(Str.ofString "row", L + 1)]) (P := fun i acc _ => IV acc ((ns.take i).map fun v => (place ns v : Int))) hh' rfl (fun _ => rfl) (fun _ => rfl) rfl (by decide) (fun _ => rfl) (fun _ _ _ _ h _ => h) ?_
  refine C1.ldCell 0 rfl rfl ⟨xl, vx, ex, 1, rfl, by rw [iv.len]; exact hlen, rfl, C1, IV.nil, fun I D Cc => ?_, fun D acc c s' g h o n => k D acc c s' ((C1.call g).go) ?_ o ?_⟩
  · intro i v acc c mC s2 E2 hvi hP C2
    rw [List.forIn_nil]
    refine wpAny_pure ?_
    first | refine ite_yes' rfl ?_ | refine ite_yes rfl ?_ | rw [if_pos rfl]
    have hlt : i < ns.length := by rw [← iv.len]; exact (List.getElem?_eq_some_iff.mp hvi).1
    obtain ⟨n, hn⟩ : ∃ n, ns[i]? = some n := ⟨_, List.getElem?_eq_getElem hlt⟩
    obtain ⟨u, hu⟩ := iv.at_ i n hn
    rw [hvi] at hu; cases hu
    have C3 := C2.tok 1
    refine wpAny_BinOp (wpAny_BinOp (wpAny_Constant_int (Call_ (C3.bootE G F.nlen2 Boot.«len» (PyProof.Rows.callWith_builtin1 (args_cons ?_))))))
    refine C3.countComp (test := fun x y => decide (x < y)) (v := n) (tv := u) (ns := ns) 0 4 (fun x tx y ty A Q E s h => PySem.P.lt_int h) (fun Q h => C3.ldCell 3 rfl rfl h) rfl rfl iv hlen hh' fun D1 acc1 c1 s3 g3 h3 o3 n3 => ?_
    have C4 := C3.call g3
    refine args_nil (PyProof.Rows.len_list ⟨_, o3.at_, rfl, c1, rfl⟩ (by have := List.countP_le_length (p := fun x => decide (x < n)) (l := ns); rw [List.size_toArray, h3]; lia  ) (mul_int ?_))
    have C5 := C4.tok 3
    refine Call_ (C5.bootE G F.nlen2 Boot.«len» (PyProof.Rows.callWith_builtin1 (args_cons ?_)))
    refine C5.countComp (test := fun x y => decide (x = y)) (v := n) (tv := u) (ns := ns) 0 4 (fun x tx y ty A Q E s h => PySem.P.eq_int (by rw [show (x == y) = decide (x = y) from by rw [Bool.eq_iff_iff]; simp]; exact h)) (fun Q h => C5.ldCell 3 rfl rfl h) rfl rfl iv hlen hh' fun D2 acc2 c2 s4 g4 h4 o4 n4 => ?_
    have C6 := C5.call g4
    refine args_nil (PyProof.Rows.len_list ⟨_, o4.at_, rfl, c2, rfl⟩ (by have := List.countP_le_length (p := fun x => decide (x = n)) (l := ns); rw [List.size_toArray, h4]; lia  ) (add_int ?_))
    refine ⟨C6.tok 3, ?_⟩
    show IV _ ((ns.take (i + 1)).map fun v => (place ns v : Int))
    rw [take_succ' hn, List.map_append]
    have e : (2 : Int) * (acc1.toArray.size : Int) + (acc2.toArray.size : Int) = (place ns n : Int) := by
      rw [List.size_toArray, List.size_toArray, h3, h4]; unfold place; push_cast; rfl
    rw [e]
    exact IV.snoc hP _ _
  · rw [iv.len] at h
    have h2 : IV acc ((ns.take ns.length).map fun v => (place ns v : Int)) := h
    rw [List.take_length] at h2; exact h2
  · cases q : s.heap.get? D with
    | none => rfl
    | some o => obtain ⟨o', z⟩ := C1.go.there _ _ q; rw [n] at z; cases z
end
end Mine
end
section
set_option maxRecDepth 100000
set_option autoImplicit false
namespace Mine
open PySem PySem.W PySem.Calls PyProof.Rows PySem.Spec

theorem ga_flt : typeLookup (.type "float") "__getattribute__" = pure (some (.builtin "object.__getattribute__")) := by rw [typeLookup_type, builtinLookup_eq_fast]; kernel_rfl
theorem canon_ga_flt : (Manifest.canonical "object.__getattribute__" != "object.__getattribute__") = false := by decide +kernel
theorem no_getattr_flt : typeLookup (.type "float") "__getattr__" = pure none := by rw [typeLookup_type, builtinLookup_eq_fast]; kernel_rfl

section
variable {prog : Program} {w : World} {A : Around} {E : Value → Shared → Prop} {s : Shared}
theorem abs_up {a : Int} {t : Tok} {Q : Value → Shared → Prop} (h : ∀ u k, Q (.int (a.natAbs : Int) u) { s with toks := s.toks + k }) : wpAny (model prog w) A (PySem.call (.builtin "abs") [.int a t]) Q E s := by
  refine call_function_entry kind_abs plain_abs entry_abs (args_abs _) ?_
  unfold Builtin.«abs»
  refine wpAny_bind (m := oneArg "abs" _) (wpAny_pure ?_)
  refine wpAny_bind (m := callSpecial? (.int a t) (Str.ofString "__abs__")) (wpAny_callSpecial?_slot (name := Str.ofString "__abs__") (typeIs_int s a t) slot_int_abs
    (wpAny_call_entry slot_int_abs (typeIs_int s a t) entry_int_abs ?_ (args_int_abs _)))
  show wpAny _ _ (if a < 0 then _ else _) _ _ s
  by_cases hneg : a < 0
  · have h' := h s.toks 1
    rw [show (a.natAbs : Int) = -a by grind] at h'
    first | refine ite_yes' hneg ?_ | refine ite_yes hneg ?_ | rw [if_pos hneg]
    exact wpAny_ret_mkInt (wpAny_pure ⟨_, rfl, h'⟩)
  · have h' := h t 0
    rw [show (a.natAbs : Int) = a by lia  ] at h'
    first | refine ite_no' hneg ?_ | refine ite_no hneg ?_ | rw [if_neg hneg]
    exact wpAny_pure ⟨_, rfl, wpAny_pure ⟨_, rfl, h'⟩⟩
theorem getMethod_air {x : UInt64} {t : Tok} {M : Model} {pl : Sem Bool} {Q : Value × List Value → Shared → Prop} (h : Q (.builtin "float.as_integer_ratio", [.float x t]) s) :
    wpAny M A (getMethod (.float x t) (Str.ofString "as_integer_ratio") pl) Q E s :=
  getMethod_value (T := "float") (name := Str.ofString "as_integer_ratio") (ga := "object.__getattribute__") (id := "float.as_integer_ratio") (typeIs_float s x t) (by intro _ x; cases x) ga_flt canon_ga_flt no_getattr_flt PySem.F.slot_float_as_integer_ratio.lookup PySem.F.type_float_as_integer_ratio h
end
noncomputable def AirF (x : UInt64) (up : Int) (down : Nat) : Prop := ∃ sg m e, Float64.decode x = .fin sg m e ∧ up = Float64.sgn sg (Float64.ratio m e).1 ∧ down = (Float64.ratio m e).2

section
variable {H0 : Heap} {A : Around} {l : List Env} {M : List Addr} {sE : Shared} {L : Addr} {m : Str → Option Value} {led : List (Addr × Obj)} {s : Shared} {prog : Program} {w : World} {E : Value → Shared → Prop} {env : Env}
theorem Cx.air (C : Cx H0 A l M sE L m led s) {x : UInt64} {t : Tok} {up : Int} {down : Nat} (h : AirF x up down) {Q : Value → Shared → Prop}
    (k : ∀ a u v s', Cx H0 A l M sE L m ((a, tupO [.int up u, .int (down : Int) v]) :: led) s' → Nw H0 sE a → Q (.ref a) s') : wpAny (model prog w) A (PySem.call (.builtin "float.as_integer_ratio") [.float x t]) Q E s := by
  obtain ⟨sg, mm, e, hd, rfl, rfl⟩ := h
  refine wpAny_call_entry PySem.F.slot_float_as_integer_ratio (typeIs_float s x t) PySem.F.entry_float_as_integer_ratio ?_ (PySem.F.args_float_as_integer_ratio_1 _)
  unfold Builtin.«float.as_integer_ratio»
  refine wpAny_bind (m := Builtin.Float.floatMethod0 _ _) (wpAny_pure ?_)
  dsimp only
  rw [hd]
  dsimp only
  refine wpAny_bind (wpAny_mkInt (wpAny_bind (wpAny_mkInt (wpAny_bind (((C.tok 2).around (A' := A.in1) rfl).newTuple (fun a s' C' n _ => ?_) ?_)))))
  · exact wpAny_pure ⟨_, rfl, k a _ _ s' (C'.around (A' := A) rfl) n⟩
  · rw [sizeLine_eq]; show 2 ≤ _; decide
end

noncomputable def nearB (up : Int) (down : Nat) (over under : Int) : Bool := decide (((over * (down : Int) - up * under).natAbs : Int) * 2 ^ 54 < 2 ^ (Builtin.Int.intBits (up.natAbs : Int)) * under)
section
variable {K : Frag} {b : Ad2} {H0 : Heap} {mg mb : Str → Option Value} {A : Around} {l : List Env} {s : Shared} {prog : Program} {w : World} {E : Value → Shared → Prop}
theorem near_spec (G : Gl K H0 mg mb) (F : KG K b) (S : St H0 A l s) {x : UInt64} {t tv tw : Tok} {over under up : Int} {down : Nat} (ha : AirF x up down) (hov : over.natAbs < 2 ^ 64) (hun : under.natAbs < 2 ^ 64) (hup : up.natAbs < 2 ^ 64) (hroom : A.depth < recursionLimit) (hh : A.handled = none) {Q : Value → Shared → Prop}
    (k : ∀ s', Go H0 [] s s' → Q (.bool (nearB up down over under)) s') : wpAny (model prog w) A (call (.ref b.near) [.float x t, .int over tv, .int under tw]) Q E s := by
  refine wpAny_call (enterF (binds := [(Str.ofString "told", .float x t), (Str.ofString "over", .int over tv), (Str.ofString "under", .int under tw)]) G S F.near [] [] (fun p hp => nomatch hp) List.nodup_nil hroom (fun _ _ _ _ _ _ => BindsTo.of_eq rfl) (by decide) (locs rfl) fun L cdv s1 _ C => ?_)
  have hb : Builtin.Int.intBits (up.natAbs : Int) ≤ 64 := PyProof.Rows.intBits_le (by lia  )
  have hh' : (A.deeper (envOf "_law_is_nearest" dNear.2.2 L b.near cdv)).handled = none := hh
  refine wpAny_execs_cons (Assign_Tuple (MethodCall_ (C.name (v := .float x t) rfl (getMethod_air (callWith_method0 (C.air ha fun a u v s2 C2 _ => ?_))))))
  refine C2.unpack2 0 rfl hh' fun s3 C3 => ?_
  refine wpAny_execs_cons (wpAny_Return_some (wpAny_Compare1 (wpAny_BinOp (Call_ (C3.boot G F.nabs Boot.«abs» (PyProof.Rows.callWith_builtin1 ?_))))))
  refine args_cons (wpAny_BinOp (wpAny_BinOp (C3.name (v := .int over tv) rfl (C3.name (v := .int (down : Int) v) rfl (mul_int ?_)))))
  have C4 := C3.tok 1
  refine wpAny_BinOp (C4.name (v := .int up u) rfl (C4.name (v := .int under tw) rfl (mul_int (sub_int (args_nil (abs_up fun u2 k2 => ?_))))))
  have C5 := (C4.tok 2).tok k2
  refine wpAny_BinOp (wpAny_Constant_int (wpAny_Constant_int (pow_int_small (by decide) (by decide) (by decide) (mul_int ?_))))
  have C6 := C5.tok 4
  refine wpAny_BinOp (wpAny_BinOp (wpAny_Constant_int (MethodCall_ ?_)))
  refine Call_ ((C6.tok 1).boot G F.nabs Boot.«abs» (PyProof.Rows.callWith_builtin1 ?_))
  refine args_cons ((C6.tok 1).name (v := .int up u) rfl (args_nil (abs_up fun u3 k3 => ?_)))
  refine getMethod_int_bit_length (callWith_method0 (call_int_bit_length ?_))
  refine pow_int_small (by lia  ) (by lia  ) (by decide) ?_
  have C7 := ((C6.tok 1).tok k3).tok 2
  refine C7.name (v := .int under tw) rfl (mul_int (PySem.P.lt_int ?_))
  exact k _ (C7.tok 1).go
end
end Mine
end
section
set_option maxRecDepth 100000
set_option autoImplicit false
namespace Mine
open PySem PySem.W PySem.Calls PyProof.Rows PySem.Spec

theorem IV.cons {v : Value} {vs : List Value} {n : Int} {ns : List Int} (h : IV (v :: vs) (n :: ns)) : (∃ t, v = .int n t) ∧ IV vs ns := by
  obtain ⟨t, ht⟩ := h.at_ 0 n rfl
  refine ⟨⟨t, Option.some.inj ht⟩, by have := h.len; simpa using this, fun i x hx => h.at_ (i + 1) x hx⟩
theorem IV.are : ∀ {vs : List Value} {ns : List Int}, IV vs ns → IntsAre vs ns
  | [], [], _ => .nil
  | [], _ :: _, h => by have := h.len; simp at this
  | _ :: _, [], h => by have := h.len; simp at this
  | v :: vs, n :: ns, h => by obtain ⟨⟨t, rfl⟩, h'⟩ := h.cons; exact .cons n t h'.are

section
variable {prog : Program} {w : World} {A : Around} {E : Value → Shared → Prop} {s : Shared}
theorem isl {h : Heap} {l : Addr} {vs : List Value} {c : Nat} (e : h.get? l = some (lstO vs c)) : h.IsList l vs.toArray := ⟨_, e, rfl, c, rfl⟩
structure Grew (s s' : Shared) : Prop where
  keep : ∀ b o, s.heap.get? b = some o → s'.heap.get? b = some o
  toks : s.toks ≤ s'.toks
  gens : s'.gens = s.gens
  os : s'.os = s.os
theorem sumL {l : Addr} {vs : List Value} {c : Nat} {ns : List Int} {Q : Value → Shared → Prop} (hl : s.heap.get? l = some (lstO vs c)) (iv : IV vs ns) (hh : A.handled = none)
    (k : ∀ s' t, Grew s s' → Q (.int ns.sum t) s') : wpAny (model prog w) A (PySem.call (.builtin "sum") [.ref l]) Q E s := by
  obtain ⟨xs, hx⟩ := iv.are.allInts.items
  have hl' : s.heap.IsList l (intItems xs) := hx ▸ isl hl
  refine PySem.wpAny_with_toks (n := s.toks) (Nat.le_refl _) (sum_intListG hh hl' fun h' tk t' hk htk => ?_)
  have e1 : ns = xs.toList.map (·.1) := by
    rw [← nums_intItems, ← hx]
    exact (show numsOf vs.toArray.toList = ns from iv.are.numsOf).symm
  have e2 : preSum (numAt xs) xs.size = ns.sum := by
    rw [preSum_eq, List.take_of_length_le (by simp), e1]
  rw [e2]
  exact k { s with heap := h', toks := tk } t' ⟨hk, htk, rfl, rfl⟩
theorem minL {l : Addr} {vs : List Value} {c : Nat} {ns : List Int} {Q : Value → Shared → Prop} (hl : s.heap.get? l = some (lstO vs c)) (iv : IV vs ns) (hne : 0 < ns.length) (hh : A.handled = none)
    (k : ∀ s' t M, Grew s s' → M ∈ ns → (∀ a ∈ ns, M ≤ a) → Q (.int M t) s') : wpAny (model prog w) A (PySem.call (.builtin "min") [.ref l]) Q E s := by
  obtain ⟨xs, e⟩ := iv.are.allInts.items
  have hns : ns = xs.toList.map (·.1) := by
    rw [← iv.are.numsOf, ← nums_intItems, ← e]
  have hsz : 0 < xs.size := by
    have h3 := hne; rw [hns, List.length_map, Array.length_toList] at h3; exact h3
  have hl' : s.heap.IsList l (intItems xs) := e ▸ isl hl
  refine PySem.wpAny_with_toks (n := s.toks) (Nat.le_refl _) (min_intList hh hl' hsz fun v h' tk hv hk htk => ?_)
  obtain ⟨t, rfl⟩ := intItems_at hv
  obtain ⟨h1, h2⟩ := argBest_lt (numAt xs) (xs.size - 1)
  refine k { s with heap := h', toks := tk } t _ ⟨hk, htk, rfl, rfl⟩ ?_ fun a ha => ?_
  · rw [hns, numAt_eq]; exact getD_mem (by rw [List.length_map, Array.length_toList]; omega)
  · rw [hns] at ha
    obtain ⟨j, hj, rfl⟩ := mem_getD ha
    rw [List.length_map, Array.length_toList] at hj
    rw [← numAt_eq]; exact h2 j (by lia  )
theorem maxL {l : Addr} {vs : List Value} {c : Nat} {ns : List Int} {Q : Value → Shared → Prop} (hl : s.heap.get? l = some (lstO vs c)) (iv : IV vs ns) (hne : 0 < ns.length) (hh : A.handled = none)
    (k : ∀ s' t M, Grew s s' → M ∈ ns → (∀ a ∈ ns, a ≤ M) → Q (.int M t) s') : wpAny (model prog w) A (PySem.call (.builtin "max") [.ref l]) Q E s := by
  obtain ⟨xs, e⟩ := iv.are.allInts.items
  have hns : ns = xs.toList.map (·.1) := by
    rw [← iv.are.numsOf, ← nums_intItems, ← e]
  have hsz : 0 < xs.size := by
    have h3 := hne; rw [hns, List.length_map, Array.length_toList] at h3; exact h3
  have hl' : s.heap.IsList l (intItems xs) := e ▸ isl hl
  refine PySem.wpAny_with_toks (n := s.toks) (Nat.le_refl _) (max_intList hh hl' hsz fun v h' tk hv hk htk => ?_)
  obtain ⟨t, rfl⟩ := intItems_at hv
  obtain ⟨h1, h2⟩ := argBest_gt (numAt xs) (xs.size - 1)
  refine k { s with heap := h', toks := tk } t _ ⟨hk, htk, rfl, rfl⟩ ?_ fun a ha => ?_
  · rw [hns, numAt_eq]; exact getD_mem (by rw [List.length_map, Array.length_toList]; omega)
  · rw [hns] at ha
    obtain ⟨j, hj, rfl⟩ := mem_getD ha
    rw [List.length_map, Array.length_toList] at hj
    rw [← numAt_eq]; exact h2 j (by lia  )
end
section
variable {H0 : Heap} {A : Around} {l : List Env} {M : List Addr} {sE : Shared} {L : Addr} {m : Str → Option Value} {led : List (Addr × Obj)} {s : Shared} {prog : Program} {w : World} {E : Value → Shared → Prop} {env : Env}
theorem Cx.grown (C : Cx H0 A l M sE L m led s) {s' : Shared} (g : Grew s s') : Cx H0 A l M sE L m led s' := C.ext g.keep g.toks g.gens g.os
theorem Cx.copyL (C : Cx H0 A l M sE L m led s) {a : Addr} {vs : List Value} {c : Nat} {Q : Value → Shared → Prop} (hl : s.heap.get? a = some (lstO vs c)) (hz : vs.length ≤ 1000)
    (k : ∀ D c' s', Cx H0 A l M sE L m ((D, lstO vs c') :: led) s' → Nw H0 sE D → s.heap.get? D = none → Go H0 [] s s' → Q (.ref D) s') : wpAny (model prog w) A (PySem.call (.type "list") [.ref a]) Q E s := by
  refine call_list_seq a (.inl rfl) hl rfl rfl (fun h' c' hk hD => ?_) (by rw [List.size_toArray, sizeLine_eq]; lia  )
  have C' := C.ext (s' := { s with heap := h' }) hk (Nat.le_refl _) rfl rfl
  refine k _ c' _ (C'.add (okk_lst hD) (fun p hp => Nat.ne_of_lt (C.lt p hp)) (by intro q; cases q)) (C.noE not_at) not_at (.ext (s' := { s with heap := h' }) hk (Nat.le_refl _) rfl rfl _)
theorem Cx.addL (C : Cx H0 A l M sE L m led s) {a b : Addr} {vs ws : List Value} {c d : Nat} {Q : Value → Shared → Prop} (ha : s.heap.get? a = some (lstO vs c)) (hb : s.heap.get? b = some (lstO ws d)) (hz : vs.length + ws.length ≤ 1000)
    (k : ∀ D s', Cx H0 A l M sE L m ((D, lstO (vs ++ ws)) :: led) s' → Q (.ref D) s') : wpAny (model prog w) A (binaryOp .Add (.ref a) (.ref b)) Q E s := by
  have e : vs.toArray ++ ws.toArray = (vs ++ ws).toArray := by simp
  refine concat_meets ⟨_, ha, rfl⟩ ⟨_, hb, rfl⟩ noFill_list_add seq_list_add PySem.F.slot_list_add PySem.F.entry_list_add (PySem.F.args_list_add_2 _ _) (list_addW a b vs.toArray ws.toArray c d none none #[] #[] (by rw [List.size_toArray, List.size_toArray, sizeLine_eq]; lia  )) ⟨ha, hb, ?_⟩
  rw [e]
  exact k _ _ (C.push (lstO (vs ++ ws)) rfl nd_seq rfl)
end
end Mine
end
section
set_option maxRecDepth 100000
set_option autoImplicit false
namespace Mine
open PySem PySem.W PySem.Calls PyProof.Rows PySem.Spec

structure ZS (z TI TO i1 i2 l1 l2 : Addr) (xs ys : List Value) (i : Nat) (h : Heap) : Prop where
  z : IsZip h z TI TO .none
  t : IsPair h TI (.ref i1) (.ref i2)
  o : ∃ a b, IsPair h TO a b
  j1 : h.IsListIter i1 l1 i
  j2 : h.IsListIter i2 l2 i
  m1 : h.IsList l1 xs.toArray
  m2 : h.IsList l2 ys.toArray
theorem iter_of_nd {h h' : Heap} {i l : Addr} {k : Nat} (x : h.IsListIter i l k) (hk : ∀ o, h.get? i = some o → nd o → h'.get? i = some o) : h'.IsListIter i l k := by
  obtain ⟨o, h1, h2, h3⟩ := x
  exact ⟨o, hk o h1 (fun es n q => by rw [h3] at q; cases q), h2, h3⟩
theorem list_of_nd {h h' : Heap} {l : Addr} {xs : Array Value} (x : h.IsList l xs) (hk : ∀ o, h.get? l = some o → nd o → h'.get? l = some o) : h'.IsList l xs := by
  obtain ⟨o, h1, h2, n, h3⟩ := x
  exact ⟨o, hk o h1 (fun es n q => by rw [h3] at q; cases q), h2, n, h3⟩
theorem ZS.keeps {z TI TO i1 i2 l1 l2 : Addr} {xs ys : List Value} {i : Nat} {h h' : Heap} (Z : ZS z TI TO i1 i2 l1 l2 xs ys i h) (hk : ∀ b o, b ∈ [z, TI, TO, i1, i2, l1, l2] → h.get? b = some o → nd o → h'.get? b = some o) : ZS z TI TO i1 i2 l1 l2 xs ys i h' := by
  obtain ⟨a, b, ho⟩ := Z.o
  exact ⟨hk _ _ (by simp) Z.z nd_fields, hk _ _ (by simp) Z.t nd_seq, ⟨a, b, hk _ _ (by simp) ho nd_seq⟩, iter_of_nd Z.j1 (fun o e n => hk _ o (by simp) e n), iter_of_nd Z.j2 (fun o e n => hk _ o (by simp) e n),
    list_of_nd Z.m1 (fun o e n => hk _ o (by simp) e n), list_of_nd Z.m2 (fun o e n => hk _ o (by simp) e n)⟩

section
variable {H0 : Heap} {A : Around} {l : List Env} {M : List Addr} {sE : Shared} {L : Addr} {m : Str → Option Value} {led : List (Addr × Obj)} {s : Shared} {prog : Program} {w : World} {E : Value → Shared → Prop} {env : Env}
theorem Cx.writes (C : Cx H0 A l M sE L m led s) {wr : List Addr} {h' : Heap} {tk : Nat} (hk : ∀ b o, b ∉ wr → s.heap.get? b = some o → h'.get? b = some o) (hL : L ∉ wr) (hE : ∀ b ∈ wr, sE.heap.get? b = none) (hH : ∀ b ∈ wr, H0.get? b = none)
    (hfr : ∀ e ∈ l, ∀ a ∈ wr, e.frame ≠ some a) (hled : ∀ p ∈ led, p.1 ∉ wr ∧ ∀ a ∈ wr, p.2.dict ≠ some a) (ht : s.toks ≤ tk) : Cx H0 A l M sE L m led { s with heap := h', toks := tk } := by
  have neE : ∀ {b o}, sE.heap.get? b = some o → b ∉ wr := fun {b o} e q => by rw [hE b q] at e; cases e
  have neH : ∀ {b o}, H0.get? b = some o → b ∉ wr := fun {b o} e q => by rw [hH b q] at e; cases e
  refine ⟨⟨fun b o e => hk b o (neH e) (C.st.glob b o e), C.st.frames, fun ev he => ?_, Nat.lt_of_lt_of_le C.st.toks ht⟩, ⟨fun hg b o e => hk b o (neH e) (C.go.glob hg b o e), fun b o e hm hn => hk b o (neE e) (C.go.nd b o e hm hn), fun b o es n e hd => ?_, fun b o e hn => ?_, Nat.le_trans C.go.toks ht, C.go.gens, C.go.os⟩, ?_, C.new, C.top, fun p hp => ⟨hk _ _ (hled p hp).1 (C.has p hp).at_, (C.has p hp).nd, fun dx e => ?_⟩, C.dn, C.nodup⟩
  · obtain ⟨hkk, L', o, es, n, h1, h2, h3, h4⟩ := C.st.fr ev he
    exact ⟨hkk, L', o, es, n, h1, h2, hk _ _ (fun q => hfr ev he _ q h1) h3, h4⟩
  · obtain ⟨sl, h1⟩ := C.go.up b o es n e hd
    exact ⟨sl, hk _ _ (neE e) h1⟩
  · obtain ⟨o', h1, h2⟩ := C.go.pres b o e hn
    exact ⟨o', hk _ _ (neE e) h1, h2⟩
  · obtain ⟨o, es, ep, h1, r⟩ := C.ns
    exact ⟨o, es, ep, hk _ _ hL h1, r⟩
  · obtain ⟨o, h1, h2⟩ := (C.has p hp).dx dx e
    exact ⟨o, hk _ _ (fun q => (hled p hp).2 _ q e) h1, h2⟩
theorem Cx.unpackE (C : Cx H0 A l M sE L m led s) {x y : Str} {p1 p2 pos : Pos} {k : Nat} {t : Addr} {u v : Value} {Q : Unit → Shared → Prop} (j : Nat) (hj : led[j]? = some (t, tupO [u, v])) (hh : A.handled = none)
    (h : ∀ s', Cx H0 A l M sE L (updM (updM m x u) y v) led s' → Q () s') (hL : env.locals = L)
    (hx : env.kindOf x = some .local) (hy : env.kindOf y = some .local) (hp : (env.scope.kind == .class || (env.scope.kind == .module && env.locals != env.globals)) = false) :
    wpAny (model prog w) A (assign (.Tuple [.Name x p1, .Name y p2] k pos) env (.ref t)) Q E s := by
  refine assign_Tuple_tuple hh ⟨_, C.at j hj, rfl, 0, rfl⟩ rfl rfl fun h' he => ?_
  have C1 := C.ext (s' := { s with heap := h' }) (fun b o e => he b o (fun q => by rw [q, not_at] at e; cases e) e) (Nat.le_refl _) rfl rfl
  show wpAny _ _ (assignInOrder [assign (.Name x p1) env, assign (.Name y p2) env] [u, v]) _ _ _
  refine wpAny_assignInOrder_more (PySem.wpAny_assign_Name (C1.store hL (fun s1 C2 => ?_) hx hp))
  refine wpAny_assignInOrder_more (PySem.wpAny_assign_Name (C2.store hL (fun s2 C3 => ?_) hy hp))
  exact wpAny_assignInOrder_none (h _ C3)
end
end Mine
end
section
set_option maxRecDepth 100000
set_option autoImplicit false
namespace Mine
open PySem PySem.W PySem.Calls PyProof.Rows PySem.Spec

section
variable {H0 : Heap} {A : Around} {l : List Env} {M : List Addr} {sE : Shared} {L : Addr} {m : Str → Option Value} {led : List (Addr × Obj)} {s : Shared} {prog : Program} {w : World} {E : Value → Shared → Prop} {env : Env}
noncomputable abbrev TurnZ (prog : Program) (w : World) (H0 : Heap) (A : Around) (l : List Env) (led : List (Addr × Obj)) (vs ws : List Value) (D C : Addr) (sB : Shared) (x y : Str) (elt : Expr) (cenv : Env) (P : Nat → List Value → Tok → Prop) : Prop :=
  ∀ (i : Nat) (v u : Value) (acc : List Value) (c : Nat) (mC : Str → Option Value) (s : Shared) (E' : Value → Shared → Prop), vs[i]? = some v → ws[i]? = some u → P i acc s.toks → mC x = some v → mC y = some u → Cx H0 A l [] sB C mC ((D, lstO acc c) :: led) s →
    wpAny (model prog w) A (eval elt cenv) (fun r s₄ => (∃ k, s₄ = { s with toks := s.toks + k }) ∧ P (i + 1) (acc ++ [r]) s₄.toks) E' s

theorem zip_loop {elt iter : Expr} {x y : Str} {px py tp : Pos} {kt : Nat} {scope : Scope} {pos : Pos} {cenv : Env} {z TI TO i1 i2 l1 l2 D C : Addr} {vs ws : List Value} {P : Nat → List Value → Tok → Prop} {R : Result → Shared → Prop} {sB : Shared}
    (hh : A.handled = none) (hL : cenv.locals = C) (hx : cenv.kindOf x = some .local) (hy : cenv.kindOf y = some .local) (hxy : x ≠ y) (hp : (cenv.scope.kind == .class || (cenv.scope.kind == .module && cenv.locals != cenv.globals)) = false)
    (ap : ZipApart z TI TO i1 i2 l1 l2) (hE : ∀ b ∈ [z, TO, i1, i2], sB.heap.get? b = none) (hH : ∀ b ∈ [z, TO, i1, i2], H0.get? b = none) (hfr : ∀ e ∈ l, ∀ a ∈ [z, TO, i1, i2], e.frame ≠ some a) (hD : D ∉ [z, TI, TO, i1, i2, l1, l2]) (hC : C ∉ [z, TI, TO, i1, i2, l1, l2])
    (hled : ∀ p ∈ led, p.1 ∉ [z, TO, i1, i2] ∧ ∀ a ∈ [z, TO, i1, i2], p.2.dict ≠ some a) (hD0 : H0.get? D = none) (hD1 : sB.heap.get? D = none) (hlen : vs.length = ws.length) (hle : vs.length ≤ 1000) (mono : ∀ i acc n n', P i acc n → n ≤ n' → P i acc n')
    (turn : TurnZ prog w H0 A l led vs ws D C sB x y elt cenv P)
    (k : ∀ mC acc c s', Cx H0 A l [] sB C mC ((D, lstO acc c) :: led) s' → P vs.length acc s'.toks → R (.ok .next) s')
    {mC : Str → Option Value} {c : Nat} {s : Shared} (C0 : Cx H0 A l [] sB C mC ((D, lstO [] c) :: led) s) (Z0 : ZS z TI TO i1 i2 l1 l2 vs ws 0 s.heap) (h0 : P 0 [] s.toks) :
    codeAny (model prog w) A (.compLoop (.ListComp elt [⟨.Tuple [.Name x px, .Name y py] kt tp, iter, [], 0⟩] scope pos) 0 (.ref z) (.ref D) cenv) R s := by
  have sub4 : ∀ {b}, b ∈ [z, TO, i1, i2] → b ∈ [z, TI, TO, i1, i2, l1, l2] := fun {b} hb => by
    simp only [List.mem_cons, List.not_mem_nil, or_false] at hb ⊢
    rcases hb with h | h | h | h <;> simp [h]
  have hled' : ∀ (acc : List Value) (c : Nat), ∀ p ∈ (D, lstO acc c) :: led, p.1 ∉ [z, TO, i1, i2] ∧ ∀ a ∈ [z, TO, i1, i2], p.2.dict ≠ some a := fun acc c p hp => by
    rcases List.mem_cons.mp hp with rfl | hp
    · exact ⟨fun q => hD (sub4 q), fun a _ q => by cases q⟩
    · exact hled p hp
  refine LCp.codeAny_compLoop_pair (CInv vs.length P fun i acc c mC s => Cx H0 A l [] sB C mC ((D, lstO acc c) :: led) s ∧ ZS z TI TO i1 i2 l1 l2 vs ws i s.heap) ?_ (vs.length + 1) ⟨0, [], c, mC, rfl, Nat.zero_le _, Nat.le_refl _, h0, C0, Z0⟩
  rintro n s1 ⟨i, acc, c1, mC1, rfl, hi, hal, hP, C1, Z1⟩
  obtain ⟨za, zb, zo⟩ := Z1.o
  cases hv : vs[i]? with
  | none =>
    have hil : i = vs.length := by have := List.getElem?_eq_none_iff.mp hv; lia
    refine wpAny_pyNext_zip_end hh ap Z1.z Z1.t zo Z1.j1 Z1.j2 Z1.m1 Z1.m2 (.inl (by simpa using hv)) fun h' hk => ?_
    have C2 := C1.writes (wr := [z, TO, i1, i2]) (h' := h') (tk := s1.toks) (fun b o hb e => hk b o (fun q => hb (by simp [q])) (fun q => hb (by simp [q])) (fun q => hb (by simp [q])) (fun q => hb (by simp [q])) e) (fun q => hC (sub4 q)) hE hH hfr (hled' _ _) (Nat.le_refl _)
    exact k mC1 acc c1 _ C2 (by rw [← hil]; exact hP)
  | some v =>
    have hlt : i < vs.length := (List.getElem?_eq_some_iff.mp hv).1
    obtain ⟨u, hu⟩ : ∃ u, ws[i]? = some u := ⟨_, List.getElem?_eq_getElem (by lia  )⟩
    refine wpAny_pyNext_zip_item ap Z1.z Z1.t zo Z1.j1 Z1.j2 Z1.m1 Z1.m2 (x := v) (y := u) (by simpa using hv) (by simpa using hu) fun h' a1 a2 a3 a4 a5 a6 hk => ?_
    have C2 := C1.writes (wr := [z, TO, i1, i2]) (h' := h') (tk := s1.toks) (fun b o hb e => hk b o (fun q => hb (by simp [q])) (fun q => hb (by simp [q])) (fun q => hb (by simp [q])) (fun q => hb (by simp [q])) e) (fun q => hC (sub4 q)) hE hH hfr (hled' _ _) (Nat.le_refl _)
    have nT : s1.heap.get? s1.heap.objs.size = none := not_at
    have lt : ∀ {c o}, s1.heap.get? c = some o → s1.heap.objs.size ≠ c := fun e => Nat.ne_of_gt (Heap.lt_size e)
    have hTz : z ≠ s1.heap.objs.size := Ne.symm (lt Z1.z)
    refine wpAny_letOwnedTupleGo_zip (s := { s1 with heap := h' }) a1 fun h2 b1 b2 => ?_
    have C3 := C2.writes (wr := [z]) (h' := h2) (tk := s1.toks) (fun b o hb e => (b2.2 b (fun q => hb (by simp [q]))).trans e) (fun q => hC (sub4 (by simp at q; simp [q]))) (fun b hb => hE b (by simp at hb; simp [hb])) (fun b hb => hH b (by simp at hb; simp [hb])) (fun e he a ha => hfr e he a (by simp at ha; simp [ha]))
      (fun p hp => ⟨fun q => (hled' _ _ p hp).1 (by simp at q; simp [q]), fun a ha => (hled' _ _ p hp).2 a (by simp at ha; simp [ha])⟩) (Nat.le_refl _)
    have hT3 : h2.get? s1.heap.objs.size = some (tupO [v, u]) := (b2.2 _ (Ne.symm hTz)).trans a5
    have C4 := C3.add (okk_tup (h := h2) hT3) (fun p hp => Ne.symm (lt (C1.has p hp).at_)) (by intro q; cases q)
    have keep : ∀ {c o}, c ≠ z → c ≠ TO → c ≠ i1 → c ≠ i2 → s1.heap.get? c = some o → h2.get? c = some o := fun q1 q2 q3 q4 e => (b2.2 _ q1).trans (hk _ _ q1 q2 q3 q4 e)
    have Z3 : ZS z TI TO i1 i2 l1 l2 vs ws (i + 1) h2 := ⟨b1, keep ap.TIz ap.TITO ap.TIi1 ap.TIi2 Z1.t, ⟨_, _, (b2.2 _ ap.TOz).trans a2⟩, iter_of_nd a3 (fun o e _ => (b2.2 _ ap.i1z).trans e), iter_of_nd a4 (fun o e _ => (b2.2 _ ap.i2z).trans e),
      list_of_nd Z1.m1 (fun o e _ => keep ap.l1z ap.l1TO ap.l1i1 ap.l1i2 e), list_of_nd Z1.m2 (fun o e _ => keep ap.l2z ap.l2TO ap.l2i1 ap.l2i2 e)⟩
    refine C4.rebase.unpackE 0 rfl hh (fun s5 C5r => ?_) hL hx hy hp
    have C5 := (C4.unbase C5r).drop ((D, lstO acc c1) :: led) (.cons _ (List.Sublist.refl _))
    have Z5 : ZS z TI TO i1 i2 l1 l2 vs ws (i + 1) s5.heap := Z3.keeps fun b o hb e hn => by
      have hbC : b ≠ C := fun q => hC (by rw [← q]; exact hb)
      exact C5r.go.nd b o ((wiped_of (s := { s1 with heap := h2 }) hbC).trans e) (fun h => nomatch h) hn
    have hts : s1.toks ≤ s5.toks := C5r.go.toks
    refine wpAny_mono (turn i v u acc c1 _ s5 _ hv hu (mono _ _ _ _ hP hts) (by show (if x = y then _ else if x = x then _ else _) = _; rw [if_neg hxy, if_pos rfl]) (if_pos rfl) C5) (fun r s6 h6 => ?_) fun _ _ q => q
    obtain ⟨⟨k6, rfl⟩, hP6⟩ := h6
    have C6 := C5.tok k6
    refine append_list (C6.at 0 rfl) (by lia  ) ?_
    have C7 := C6.upd 0 (f := Obj.mapSeq (·.push r)) rfl rfl nd_seq rfl (.inr hD1) hD0
    have e : (Obj.mapSeq (·.push r) (lstO acc c1)) = lstO (acc ++ [r]) (c1 + 1) := by simp [Obj.mapSeq]
    rw [e] at C7
    refine ⟨vs.length + 1 - (i + 1), by grind, i + 1, acc ++ [r], c1 + 1, _, rfl, hlt, by simp; omega, hP6, C7, ?_⟩
    exact Z5.keeps fun b o hb e _ => by
      have hbD : D ≠ b := fun q => hD (by rw [q]; exact hb)
      exact (Heap.get?_update_other _ _ hbD).trans e
end
end Mine
end
section
set_option maxRecDepth 100000
set_option autoImplicit false
namespace Mine
open PySem PySem.W PySem.Calls PyProof.Rows PySem.Spec

theorem ZS.there {z TI TO i1 i2 l1 l2 : Addr} {xs ys : List Value} {i : Nat} {h : Heap} (Z : ZS z TI TO i1 i2 l1 l2 xs ys i h) : ∀ b ∈ [z, TI, TO, i1, i2, l1, l2], ∃ o, h.get? b = some o := by
  intro b hb
  obtain ⟨p, q, ho⟩ := Z.o
  simp only [List.mem_cons, List.not_mem_nil, or_false] at hb
  rcases hb with rfl | rfl | rfl | rfl | rfl | rfl | rfl
  · exact ⟨_, Z.z⟩
  · exact ⟨_, Z.t⟩
  · exact ⟨_, ho⟩
  · obtain ⟨o, h1, _⟩ := Z.j1; exact ⟨o, h1⟩
  · obtain ⟨o, h1, _⟩ := Z.j2; exact ⟨o, h1⟩
  · obtain ⟨o, h1, _⟩ := Z.m1; exact ⟨o, h1⟩
  · obtain ⟨o, h1, _⟩ := Z.m2; exact ⟨o, h1⟩
section
variable {K : Frag} {H0 : Heap} {mg mb : Str → Option Value} {A : Around} {l : List Env} {M : List Addr} {sE : Shared} {L : Addr} {m : Str → Option Value} {led : List (Addr × Obj)} {s : Shared} {prog : Program} {w : World} {E : Value → Shared → Prop} {env : Env}
theorem Cx.zipComp (C : Cx H0 A l M sE L m led s) (G : Gl K H0 mg mb) (hzip : nsIn K mainGlobals "zip" = some none) {elt : Expr} {x y pn qn : Str} {px py tp pz pp pq pc : Pos} {kt : Nat} {scope : Scope} {cl : List (Str × Addr)} {pos : Pos} {l1 l2 : Addr} {vs ws : List Value} {c d : Nat} {P : Nat → List Value → Tok → Prop} {Q : Value → Shared → Prop} (i j : Nat)
    (hpn : m pn = some (.ref l1)) (hqn : m qn = some (.ref l2)) (hi : led[i]? = some (l1, lstO vs c)) (hj : led[j]? = some (l2, lstO ws d)) (hlen : vs.length = ws.length) (hle : vs.length ≤ 1000) (hxy : x ≠ y) (hh : A.handled = none) (mono : ∀ i acc n n', P i acc n → n ≤ n' → P i acc n') (h0 : ∀ t, P 0 [] t)
    (turn : ∀ D C, TurnZ prog w H0 A l led vs ws D C s x y elt (compEnvC scope cl C env) P)
    (k : ∀ D acc c s', Go H0 [] s s' → P vs.length acc s'.toks → Okk s'.heap (D, lstO acc c) → s.heap.get? D = none → Q (.ref D) s')
    (hL : env.locals = L := by rfl) (hg : env.globals = mainGlobals := by rfl) (hb : env.builtins = builtinsNs := by rfl) (hk : env.scope.kind = .function := by rfl) (hkp : env.kindOf pn = some .local := by rfl) (hkq : env.kindOf qn = some .local := by rfl) (hkz : env.kindOf "zip" = some .globalImplicit := by rfl)
    (hdp : (pn == ("__debug__" : Str)) = false := by decide) (hdq : (qn == ("__debug__" : Str)) = false := by decide)
    (hclos : closureFor scope env = pure cl := by rfl) (hcell : ∀ y ∈ scope.names, y.2 ≠ .cell := by decide) (hkind : scope.kind = .function := by rfl) (hnames : ∀ y ∈ scope.names, y.2 = .local → scope.names.lookup y.1 = some .local := by decide) (hx : scope.names.lookup x = some .local := by rfl) (hy : scope.names.lookup y = some .local := by rfl)
    (hs : ∀ x, foldedSetIterable (.Call (.Name "zip" pz) [.Name pn pp, .Name qn pq] [] pc) env x = pure x := by intro _; rfl) :
    wpAny (model prog w) A (eval (.ListComp elt [⟨.Tuple [.Name x px, .Name y py] kt tp, .Call (.Name "zip" pz) [.Name pn pp, .Name qn pq] [] pc, [], 0⟩] scope pos) env) Q E s := by
  rw [eval_ListComp]
  refine wpAny_comprehension_free (use := none) rfl hs hclos hkind hnames (show wpAny (model prog w) A (eval (.Call (.Name "zip" pz) [.Name pn pp, .Name qn pq] [] pc) env) _ E s from ?_)
  refine Call_ (C.bootE G hzip Boot.«zip» (PyProof.Rows.callWith_type1 (args_cons (C.nameE hpn (args_cons (C.nameE hqn (args_nil ?_) hL hk hkq hdq)) hL hk hkp hdp))) (by decide) hg hb hk hkz (by decide))
  refine call_zip_2 (isl (C.at i hi)) (isl (C.at j hj)) fun h' a1 a2 a3 a4 a5 a6 hk' => ?_
  have n0 : ∀ {b : Addr}, s.heap.objs.size ≤ b → s.heap.get? b = none := fun hb => none_ge hb
  have l1lt : l1 < s.heap.objs.size := Heap.lt_size (C.at i hi)
  have l2lt : l2 < s.heap.objs.size := Heap.lt_size (C.at j hj)
  have ap := zipApart_new l1lt l2lt
  have C1 := C.ext (s' := { s with heap := h' }) hk' (Nat.le_refl _) rfl rfl
  have Z1 : ZS (s.heap.objs.size + 4) (s.heap.objs.size + 2) (s.heap.objs.size + 3) s.heap.objs.size (s.heap.objs.size + 1) l1 l2 vs ws 0 h' := ⟨a1, a2, ⟨_, _, a3⟩, a4, a5, isl (hk' _ _ (C.at i hi)), isl (hk' _ _ (C.at j hj))⟩
  have wr : ∀ b ∈ [s.heap.objs.size + 4, s.heap.objs.size + 3, s.heap.objs.size, s.heap.objs.size + 1], s.heap.get? b = none := fun b hb => by
    simp only [List.mem_cons, List.not_mem_nil, or_false] at hb
    rcases hb with rfl | rfl | rfl | rfl
    · exact n0 (Nat.le_add_right _ 4)
    · exact n0 (Nat.le_add_right _ 3)
    · exact n0 (Nat.le_refl _)
    · exact n0 (Nat.le_add_right _ 1)
  refine wpAny_pyIter_zip (s := { s with heap := h' }) a1 (wpAny_newObj_type (wpAny_newFunctionEnv hcell (by intro y hy; simp at hy) (fun h₁ hns₁ hsb₁ => ?_) hkind) (by show 0 ≤ _; exact Nat.zero_le _))
  dsimp only at hns₁ hsb₁ ⊢
  have C2 := C1.push (lstO []) rfl nd_seq rfl
  have g2 : Go H0 [] s { s with heap := h'.push (lstO []) } := (Go.ext (s' := { s with heap := h' }) hk' (Nat.le_refl _) rfl rfl _).trans (Go.push (s := { s with heap := h' }) _)
  have C3 := C2.inner (k := 0) g2 hns₁ hsb₁
  have nD' : h'.get? h'.objs.size = none := not_at
  have nD : s.heap.get? h'.objs.size = none := by
    cases q : s.heap.get? h'.objs.size with
    | none => rfl
    | some o => have := hk' _ _ q; rw [nD'] at this; cases this
  have nC' : h'.get? (h'.push (lstO [])).objs.size = none := none_ge (by rw [Heap.size_push]; exact Nat.le_succ _)
  have hD := C.noE nD
  have nC := C3.new
  have hDC : h'.objs.size ≠ (h'.push (lstO [])).objs.size := by rw [Heap.size_push]; exact Nat.ne_of_lt (Nat.lt_succ_self _)
  have Z3 : ZS (s.heap.objs.size + 4) (s.heap.objs.size + 2) (s.heap.objs.size + 3) s.heap.objs.size (s.heap.objs.size + 1) l1 l2 vs ws 0 h₁ := Z1.keeps fun b o hb e _ =>
    hsb₁.extBut b o (fun q => by rw [q, nC'] at e; cases e) (Heap.get?_push_of_some _ (Heap.get?_push_of_some _ e))
  have hDf : h'.objs.size ∉ [s.heap.objs.size + 4, s.heap.objs.size + 2, s.heap.objs.size + 3, s.heap.objs.size, s.heap.objs.size + 1, l1, l2] := fun q => by
    obtain ⟨o, e⟩ := Z1.there _ q; rw [nD'] at e; cases e
  have hCf : (h'.push (lstO [])).objs.size ∉ [s.heap.objs.size + 4, s.heap.objs.size + 2, s.heap.objs.size + 3, s.heap.objs.size, s.heap.objs.size + 1, l1, l2] := fun q => by
    obtain ⟨o, e⟩ := Z1.there _ q; rw [nC'] at e; cases e
  have loop : codeAny (model prog w) A (.compLoop (.ListComp elt [⟨.Tuple [.Name x px, .Name y py] kt tp, .Call (.Name "zip" pz) [.Name pn pp, .Name qn pq] [] pc, [], 0⟩] scope pos) 0 (.ref (s.heap.objs.size + 4)) (.ref h'.objs.size) (compEnvC scope cl (h'.push (lstO [])).objs.size env))
      (compPost (model prog w) A E none Q (.ref h'.objs.size) (h'.push (lstO [])).objs.size) { s with heap := h₁, toks := s.toks + 0 } := by
    refine zip_loop (cenv := compEnvC scope cl (h'.push (lstO [])).objs.size env) (P := P) hh rfl (show Env.kindOf _ x = _ from lookup_relabel_local hx) (show Env.kindOf _ y = _ from lookup_relabel_local hy) hxy (by show (scope.kind == .class || (scope.kind == .module && _)) = false; rw [hkind]; rfl) ap wr (fun b hb => (C.noE (wr b hb)).h) (fun e he a ha q => ?_) hDf hCf (fun p hp => ⟨fun q => ?_, fun a ha q => ?_⟩) hD.h nD hlen hle mono (turn _ _) (fun mC acc c s' C4 hP => ?_) C3 Z3 (h0 _)
    · obtain ⟨_, L', o, es, n, h1, h2, h3, h4⟩ := C.st.fr e he
      rw [h1] at q; cases q; rw [wr _ ha] at h3; cases h3
    · have := (C.has p hp).at_; rw [wr _ q] at this; cases this
    · obtain ⟨o, h1, _⟩ := (C.has p hp).dx _ q
      rw [wr _ ha] at h1; cases h1
    · refine ⟨mC, C4.ns, fun h'' hs' => ?_⟩
      have g4 := same_go C4.go nC C.st.glob hs'
      exact k _ acc c _ g4 hP (okk_lst ((hs'.2 _ hDC).trans (C4.at 0 rfl))) nD
  exact codeAny_compStart_list loop (wpAny_pyIter_zip Z3.z loop)
end
end Mine
end
section
set_option maxRecDepth 100000
set_option autoImplicit false
namespace Mine
open PySem PySem.W PySem.Calls PyProof.Rows PySem.Spec

section
variable {H0 : Heap} {A : Around} {l : List Env} {M : List Addr} {sE : Shared} {L : Addr} {m : Str → Option Value} {led : List (Addr × Obj)} {s : Shared} {prog : Program} {w : World} {E : Value → Shared → Prop} {env : Env}
noncomputable abbrev ElemF (prog : Program) (w : World) (H0 : Heap) (A : Around) (l : List Env) (led : List (Addr × Obj)) (sB : Shared) (x : Str) (elt : Expr) (cenv : Addr → Env) (f : Int → Int) (ns : List Int) : Prop :=
  ∀ (p1 p2 : Addr × Obj) (C : Addr) (mC : Str → Option Value) (s : Shared) (E' : Value → Shared → Prop) (n : Int) (u : Tok) (Q : Value → Shared → Prop), n ∈ ns → mC x = some (.int n u) → Cx H0 A l [] sB C mC (p1 :: p2 :: led) s → (∀ t k, Q (.int (f n) t) { s with toks := s.toks + k }) →
    wpAny (model prog w) A (eval elt (cenv C)) Q E' s
theorem turn_map {vals : List Value} {ns : List Int} (iv : IV vals ns) {sB : Shared} {x : Str} {elt : Expr} {scope : Scope} {cl : List (Str × Addr)} {f : Int → Int} {I a D C : Addr} (he : ElemF prog w H0 A l led sB x elt (fun C => compEnvC scope cl C env) f ns) :
    TurnP prog w H0 A l led vals I a D C sB x [] elt (compEnvC scope cl C env) (fun i acc _ => IV acc ((ns.take i).map f)) := by
  intro i v acc c mC s E' hvi hP hm C2
  rw [List.forIn_nil]
  refine wpAny_pure ?_
  first | refine ite_yes' rfl ?_ | refine ite_yes rfl ?_ | rw [if_pos rfl]
  have hlt : i < ns.length := by rw [← iv.len]; exact (List.getElem?_eq_some_iff.mp hvi).1
  obtain ⟨n, hn⟩ : ∃ n, ns[i]? = some n := ⟨_, List.getElem?_eq_getElem hlt⟩
  obtain ⟨u, hu⟩ := iv.at_ i n hn
  rw [hvi] at hu; cases hu
  refine he _ _ C mC s _ n u _ (List.mem_of_getElem? hn) hm C2 fun t k => ⟨C2.tok k, ?_⟩
  show IV _ ((ns.take (i + 1)).map f)
  rw [take_succ' hn, List.map_append]
  exact IV.snoc hP _ _
theorem Cx.mapComp (C : Cx H0 A l M sE L m led s) {x rn : Str} {px pr pos : Pos} {elt : Expr} {scope : Scope} {cl : List (Str × Addr)} {al : Addr} {vals : List Value} {ns : List Int} {ep : Nat} {f : Int → Int} {Q : Value → Shared → Prop} (j : Nat)
    (hrow : ∀ (Q : Value → Shared → Prop), Q (.ref al) s → wpAny (model prog w) A (eval (.Name rn pr) env) Q E s) (hl : led[j]? = some (al, lstO vals ep)) (iv : IV vals ns) (hlen : ns.length ≤ 1000) (hh : A.handled = none)
    (he : ElemF prog w H0 A l led s x elt (fun C => compEnvC scope cl C env) f ns)
    (k : ∀ D acc c' s', Go H0 [] s s' → IV acc (ns.map f) → Okk s'.heap (D, lstO acc c') → s.heap.get? D = none → Q (.ref D) s')
    (hclos : closureFor scope env = pure cl := by rfl) (hcell : ∀ y ∈ scope.names, y.2 ≠ .cell := by decide) (hkind : scope.kind = .function := by rfl) (hnames : ∀ y ∈ scope.names, y.2 = .local → scope.names.lookup y.1 = some .local := by decide) (hxi : scope.names.lookup x = some .local := by rfl) :
    wpAny (model prog w) A (eval (.ListComp elt [⟨.Name x px, .Name rn pr, [], 0⟩] scope pos) env) Q E s := by
  refine Cx.listComp (led := led) (P := fun i acc _ => IV acc ((ns.take i).map f)) hh hclos hcell hkind hnames hxi (fun _ _ _ _ h _ => h) (hrow _ ⟨al, vals, ep, j, rfl, by rw [iv.len]; exact hlen, hl, C, IV.nil, fun I D C1 => turn_map iv he, fun D acc c' s' g h o n => k D acc c' s' g (by rw [iv.len] at h; have h2 : IV acc ((ns.take ns.length).map f) := h; rw [List.take_length] at h2; exact h2) o n⟩)
theorem Cx.mapCompA (C : Cx H0 A l M sE L m led s) {x y rn : Str} {px py pr pos spos : Pos} {elt : Expr} {scope : Scope} {cl : List (Str × Addr)} {al : Addr} {vals : List Value} {ns : List Int} {ep : Nat} {f : Int → Int} {Q : Flow → Shared → Prop} (j : Nat)
    (hrow : ∀ (Q : Value → Shared → Prop), Q (.ref al) s → wpAny (model prog w) A (eval (.Name rn pr) env) Q E s) (hl : led[j]? = some (al, lstO vals ep)) (iv : IV vals ns) (hlen : ns.length ≤ 1000) (hh : A.handled = none)
    (he : ElemF prog w H0 A l led s x elt (fun C => compEnvC scope cl C env) f ns)
    (k : ∀ D acc c' s', Cx H0 A l M sE L (updM m y (.ref D)) ((D, lstO acc c') :: led) s' → IV acc (ns.map f) → Nw H0 sE D → Q .next s')
    (hsw : swapsWith (.ListComp elt [⟨.Name x px, .Name rn pr, [], 0⟩] scope pos) (some (.Name y py)) spos.line env = pure true := by rfl) (hky : env.kindOf y = some .local := by rfl) (hL : env.locals = L := by rfl) (hk : env.scope.kind = .function := by rfl)
    (hclos : closureFor scope env = pure cl := by rfl) (hcell : ∀ y ∈ scope.names, y.2 ≠ .cell := by decide) (hkind : scope.kind = .function := by rfl) (hnames : ∀ y ∈ scope.names, y.2 = .local → scope.names.lookup y.1 = some .local := by decide) (hxi : scope.names.lookup x = some .local := by rfl) :
    wpAny (model prog w) A (exec (.Assign [.Name y py] (.ListComp elt [⟨.Name x px, .Name rn pr, [], 0⟩] scope pos) spos) env) Q E s := by
  refine Cx.listCompA (led := led) (P := fun i acc _ => IV acc ((ns.take i).map f)) hsw hh hclos hcell hkind hnames hxi (fun _ _ _ _ h _ => h) hL hky (by rw [hk]; rfl) (hrow _ ⟨al, vals, ep, j, rfl, by rw [iv.len]; exact hlen, hl, C, IV.nil, fun I D C1 => turn_map iv he, fun D acc c' s' C' h n => k D acc c' s' C' (by rw [iv.len] at h; have h2 : IV acc ((ns.take ns.length).map f) := h; rw [List.take_length] at h2; exact h2) n⟩)
noncomputable abbrev ElemZ (prog : Program) (w : World) (H0 : Heap) (A : Around) (l : List Env) (led : List (Addr × Obj)) (sB : Shared) (x y : Str) (elt : Expr) (cenv : Addr → Env) (f : Int → Int → Int) (ns ms : List Int) : Prop :=
  ∀ (p1 : Addr × Obj) (C : Addr) (mC : Str → Option Value) (s : Shared) (E' : Value → Shared → Prop) (n k : Int) (u t : Tok) (Q : Value → Shared → Prop), n ∈ ns → k ∈ ms → mC x = some (.int n u) → mC y = some (.int k t) → Cx H0 A l [] sB C mC (p1 :: led) s → (∀ t j, Q (.int (f n k) t) { s with toks := s.toks + j }) →
    wpAny (model prog w) A (eval elt (cenv C)) Q E' s
theorem zipWith_take_succ {ns ms : List Int} {f : Int → Int → Int} {i : Nat} {n k : Int} (h1 : ns[i]? = some n) (h2 : ms[i]? = some k) : List.zipWith f (ns.take (i + 1)) (ms.take (i + 1)) = List.zipWith f (ns.take i) (ms.take i) ++ [f n k] := by
  rw [take_succ' h1, take_succ' h2, List.zipWith_append]
  · rfl
  · have a := (List.getElem?_eq_some_iff.mp h1).1
    have b := (List.getElem?_eq_some_iff.mp h2).1
    rw [List.length_take, List.length_take]; lia
theorem turn_zip {vs ws : List Value} {ns ms : List Int} (iv : IV vs ns) (iw : IV ws ms) {sB : Shared} {x y : Str} {elt : Expr} {scope : Scope} {cl : List (Str × Addr)} {f : Int → Int → Int} {D C : Addr} (he : ElemZ prog w H0 A l led sB x y elt (fun C => compEnvC scope cl C env) f ns ms) :
    TurnZ prog w H0 A l led vs ws D C sB x y elt (compEnvC scope cl C env) (fun i acc _ => IV acc (List.zipWith f (ns.take i) (ms.take i))) := by
  intro i v u acc c mC s E' hvi hui hP hx hy C2
  obtain ⟨n, hn⟩ : ∃ n, ns[i]? = some n := ⟨_, List.getElem?_eq_getElem (by rw [← iv.len]; exact (List.getElem?_eq_some_iff.mp hvi).1)⟩
  obtain ⟨k, hk⟩ : ∃ n, ms[i]? = some n := ⟨_, List.getElem?_eq_getElem (by rw [← iw.len]; exact (List.getElem?_eq_some_iff.mp hui).1)⟩
  obtain ⟨t1, ht1⟩ := iv.at_ i n hn
  rw [hvi] at ht1; cases ht1
  obtain ⟨t2, ht2⟩ := iw.at_ i k hk
  rw [hui] at ht2; cases ht2
  refine he _ C mC s _ n k t1 t2 _ (List.mem_of_getElem? hn) (List.mem_of_getElem? hk) hx hy C2 fun t j => ⟨⟨j, rfl⟩, ?_⟩
  show IV _ (List.zipWith f (ns.take (i + 1)) (ms.take (i + 1)))
  rw [zipWith_take_succ hn hk]
  exact IV.snoc hP _ _
end
end Mine
end
section
set_option maxRecDepth 100000
set_option autoImplicit false
namespace Mine
open PySem PySem.W PySem.Calls PyProof.Rows PySem.Spec

theorem carried_of {vs : List Value} {ns : List Int} (h : IntsAre vs ns) : CarriedAll vs (ns.map PyData.int) := ke_carried h
section
variable {prog : Program} {w : World} {A : Around} {E : Value → Shared → Prop} {s : Shared}
theorem shaped2 (xs ys : List Int) : PySem.SeqAt.shaped (.list [.list (xs.map .int), .list (ys.map .int)]) = true := by
  simp [SeqAt.shaped, PyData.canLay0, PyData.canLayAll0, PyData.depth, PyData.depthAll, ke_canLayAll0, ke_depthAll]
theorem ne_pairs {a b a1 a2 b1 b2 : Addr} {xs ys : List Int} {vx vy ux uy : List Value} {c d c1 c2 d1 d2 : Nat} {Q : Value → Shared → Prop} (ha : s.heap.get? a = some (lstO [.ref a1, .ref a2] c)) (hb : s.heap.get? b = some (lstO [.ref b1, .ref b2] d))
    (h1 : s.heap.get? a1 = some (lstO vx c1)) (h2 : s.heap.get? a2 = some (lstO vy c2)) (h3 : s.heap.get? b1 = some (lstO ux d1)) (h4 : s.heap.get? b2 = some (lstO uy d2)) (i1 : IV vx xs) (i2 : IV vy ys) (i3 : IV ux xs) (i4 : IV uy ys) (hu : A.units + 64 < cLine)
    (h : Q (.bool false) s) : wpAny (model prog w) A (compareOp .NotEq (.ref a) (.ref b)) Q E s := by
  have r1 : Reads s.heap (.ref a) (.list [.list (xs.map .int), .list (ys.map .int)]) (a :: ([a1] ++ ([a2] ++ []))) := reads_list_at ha rfl rfl (.cons (reads_newData (isl h1) (carried_of i1.are)) (.cons (reads_newData (isl h2) (carried_of i2.are)) .nil))
  have r2 : Reads s.heap (.ref b) (.list [.list (xs.map .int), .list (ys.map .int)]) (b :: ([b1] ++ ([b2] ++ []))) := reads_list_at hb rfl rfl (.cons (reads_newData (isl h3) (carried_of i3.are)) (.cons (reads_newData (isl h4) (carried_of i4.are)) .nil))
  refine ne_dataH r1 r2 (shaped2 xs ys) (shaped2 xs ys) hu ?_
  have e : PyData.eqv (.list [.list (xs.map .int), .list (ys.map .int)]) (.list [.list (xs.map .int), .list (ys.map .int)]) = true := by
    simp only [PyData.eqv, PyData.eqvAll, ked_eqvAll, decide_true, Bool.and_true, Bool.true_and]
  rw [e]
  exact h
end
end Mine
end
section
set_option maxRecDepth 100000
set_option autoImplicit false
namespace Mine
open PySem PySem.W PySem.Calls PyProof.Rows PySem.Spec

structure NumOk (xs ys : List Int) : Prop where
  okR : CorrOk (rankD xs) (rankD ys)
  okL : CorrOk (devF (places xs)) (devF (places ys))
  same : corrF (devF (places xs)) (devF (places ys)) = corrF (rankD xs) (rankD ys)
  num : ∀ r, corrF (rankD xs) (rankD ys) = some r → Float64.cmp r r = some .eq
theorem ToldV.ne {r? : Option UInt64} {v v' : Value} {prog : Program} {w : World} {A : Around} {E : Value → Shared → Prop} {s : Shared} {Q : Value → Shared → Prop} (hv : ToldV r? v) (hv' : ToldV r? v') (hn : ∀ r, r? = some r → Float64.cmp r r = some .eq) (h : Q (.bool false) s) : wpAny (model prog w) A (compareOp .NotEq v v') Q E s := by
  cases r? with
  | none =>
    obtain ⟨t, rfl⟩ := hv
    obtain ⟨u, rfl⟩ := hv'
    exact PySem.P.ne_str (by simpa using h)
  | some r =>
    obtain ⟨t, rfl⟩ := hv
    obtain ⟨u, rfl⟩ := hv'
    exact AutoFloatOps.ne_0 (by rw [hn r rfl]; exact h)
theorem places_len (ns : List Int) : (places ns).length = ns.length := List.length_map _
theorem place_le (ns : List Int) (v : Int) : place ns v ≤ 2 * ns.length := by
  unfold place
  induction ns with
  | nil => simp
  | cons x r ih =>
    simp only [List.countP_cons, List.length_cons]
    by_cases h1 : x < v
    · have h2 : ¬ x = v := by lia
      simp [h1, h2]; lia
    · by_cases h2 : x = v <;> simp [h1, h2] <;> lia
theorem places_bound (ns : List Int) (h : ns.length < 64) : ∀ x ∈ places ns, x.natAbs ≤ 2 ^ 40 := by
  intro x hx
  obtain ⟨v, _, rfl⟩ := List.mem_map.mp hx
  have := place_le ns v
  have h3 : (place ns v : Int).natAbs = place ns v := Int.natAbs_natCast _
  rw [h3]; lia

noncomputable abbrev eHold (L f : Addr) (cdv : Value) : Env := envOfC "_law_holds" dHold.2.2 L f cdv
section
variable {K : Frag} {a : Adr} {b : Ad2} {H0 : Heap} {mg mb : Str → Option Value} {A : Around} {l : List Env} {s : Shared} {prog : Program} {w : World} {E : Value → Shared → Prop}
theorem hold_a (G : Gl K H0 mg mb) (FF : KF K a) (F : KG K b) (hr : b.rank = a.rank) {L : Addr} {cdv : Value} {s1 : Shared} {xl yl : Addr} {vx vy : List Value} {xs ys : List Int} {ex ey : Nat}
    (C : Cx H0 (A.deeper (eHold L b.hold cdv)) (eHold L b.hold cdv :: l) [] s L (fun _ => none) [(L + 3, cellO none), (L + 2, cellO (some (.ref yl))), (L + 1, cellO (some (.ref xl))), (xl, lstO vx ex), (yl, lstO vy ey)] s1) (hne : xl ≠ yl)
    (hc : Nw H0 s (L + 3)) (ivx : IV vx xs) (ivy : IV vy ys) (KLx : KeyL intKey vx) (KLy : KeyL intKey vy) (hlen : xs.length = ys.length) (h2 : 2 ≤ xs.length) (h3 : xs.length < 64) (nk : NumOk xs ys) (hroom : A.depth + 20 < recursionLimit) (hu : A.units + 100 < cLine) (hh : A.handled = none) {Q : Flow → Shared → Prop}
    (k : ∀ m pl ql vp vq cp cq tn v s', m "p" = some (.ref pl) → m "q" = some (.ref ql) → m "told" = some v → ToldV (corrF (rankD xs) (rankD ys)) v → IV vp (places xs) → IV vq (places ys) → pl ≠ ql →
      Cx H0 (A.deeper (eHold L b.hold cdv)) (eHold L b.hold cdv :: l) [] s L m [(ql, lstO vq cq), (pl, lstO vp cp), (L + 3, cellO (some (.int (xs.length : Int) tn))), (L + 2, cellO (some (.ref yl))), (L + 1, cellO (some (.ref xl))), (xl, lstO vx ex), (yl, lstO vy ey)] s' →
      wpAny (model prog w) (A.deeper (eHold L b.hold cdv)) (execs (dHold.2.1.drop 6) (eHold L b.hold cdv)) Q E s') :
    wpAny (model prog w) (A.deeper (eHold L b.hold cdv)) (execs dHold.2.1 (eHold L b.hold cdv)) Q E s1 := by
  have hh' : (A.deeper (eHold L b.hold cdv)).handled = none := hh
  have hvx : vx.length = xs.length := ivx.len
  have hvy : vy.length = ys.length := ivy.len
  -- n
  refine wpAny_execs_cons (wpAny_Assign_Name (Call_ (C.bootE G F.nlen2 Boot.«len» (PyProof.Rows.callWith_builtin1 (args_cons (C.ldCell 2 rfl rfl (args_nil (PyProof.Rows.len_list ⟨_, C.at 3 rfl, rfl, ex, rfl⟩ (by rw [List.size_toArray]; lia  ) ?_))))))))
  refine (C.tok 2).setCell 0 rfl rfl (.inr hc.e) hc.h fun s2 C2' => ?_
  have C2 : Cx H0 (A.deeper (eHold L b.hold cdv)) (eHold L b.hold cdv :: l) [] s L (fun _ => none) [(L + 3, cellO (some (.int (xs.length : Int) (s1.toks + 1)))), (L + 2, cellO (some (.ref yl))), (L + 1, cellO (some (.ref xl))), (xl, lstO vx ex), (yl, lstO vy ey)] s2 := by rw [← hvx]; exact C2'
  -- kept
  refine wpAny_execs_cons (wpAny_Assign_Name (lst_made (args_cons (Call_ (C2.bootE G F.nlist2 Boot.«list» (PyProof.Rows.callWith_type1 (args_cons (C2.ldCell 2 rfl rfl (args_nil (C2.copyL (C2.at 3 rfl) (by lia  ) fun kx ckx s3 C3 n3 n3' g3 => ?_))))))))))
  refine args_cons (Call_ (C3.bootE G F.nlist2 Boot.«list» (PyProof.Rows.callWith_type1 (args_cons (C3.ldCell 2 rfl rfl (args_nil (C3.copyL (C3.at 5 rfl) (by lia  ) fun ky cky s4 C4 n4 n4' g4 => ?_)))))))
  refine args_nil ⟨_, _, _, _, _, _, _, _, C4, by rw [sizeLine_eq]; show 2 ≤ _; decide, fun kt s5 C5 n5 n5' => ?_⟩
  refine C5.setE fun s6 C6 => ?_
  -- p, q
  refine wpAny_execs_cons (wpAny_Assign_Name (Call_ (C6.globalE G F.nplac (callWith_K (C6.st.X G) F.kplac (args_cons (C6.ldCell 5 rfl rfl (args_nil ⟨C6.st.X G, ?_⟩)))))))
  refine places_spec G F C6.st (C6.ok 6 rfl) ivx (by lia  ) (by show A.depth + 1 < _; lia  ) hh' fun pl vp cp s7 g7 ip op np => ?_
  refine (C6.addNew g7 op np rfl).setE fun s8 C8 => ?_
  refine wpAny_execs_cons (wpAny_Assign_Name (Call_ (C8.globalE G F.nplac (callWith_K (C8.st.X G) F.kplac (args_cons (C8.ldCell 5 rfl rfl (args_nil ⟨C8.st.X G, ?_⟩)))))))
  refine places_spec G F C8.st (C8.ok 8 rfl) ivy (by lia  ) (by show A.depth + 1 < _; lia  ) hh' fun ql vq cq s9 g9 iq oq nq => ?_
  refine (C8.addNew g9 oq nq rfl).setE fun s10 C10 => ?_
  have hpq : pl ≠ ql := C10.ne (i := 1) (j := 0) rfl rfl
  -- told
  refine wpAny_execs_cons (wpAny_Assign_Name (Call_ (C10.globalE G F.ntold (callWith_K (C10.st.X G) F.ktold ?_))))
  refine args_cons (C10.ldCell 7 rfl rfl (args_cons (C10.ldCell 6 rfl rfl (args_cons (wpAny_Constant_str (args_nil ⟨(C10.tok 1).st.X G, ?_⟩))))))
  refine told_spec G F (C10.tok 1).st ((C10.tok 1).ok 8 rfl) ((C10.tok 1).ok 9 rfl) hne (fun A' l' s1 hd hh1 S o1 o2 => ans_ranked G FF F hr S o1 o2 hne ivx ivy KLx KLy hlen h2 h3 nk.okR (by rw [hd]; show A.depth + 1 + 1 + 7 < _; lia  ) hh1) (by show A.depth + 1 < _; lia  ) (by show A.units + 3 + 6 < _; lia  ) hh' fun v s11 hv g11 => ?_
  refine ((C10.tok 1).call g11).setE fun s12 C12 => ?_
  -- the first test
  refine wpAny_execs_cons (wpAny_If (wpAny_isTrue_BoolOp (wpAny_allTrue_Or_cons (wpAny_isTrue_Compare1 (lst_made ?_)))))
  refine args_cons (C12.ldCell 7 rfl rfl (args_cons (C12.ldCell 6 rfl rfl (args_nil ⟨_, _, _, _, _, _, _, _, C12, by rw [sizeLine_eq]; show 2 ≤ _; decide, fun lt s13 C13 n13 n13' => ?_⟩))))
  refine C13.nameE (v := .ref kt) rfl ?_
  refine ne_pairs (C13.at 0 rfl) (C13.at 3 rfl) (C13.at 9 rfl) (C13.at 10 rfl) (C13.at 5 rfl) (C13.at 4 rfl) ivx ivy ivx ivy (by show A.units + 3 + 64 < _; lia  ) (wpAny_truthy_bool ?_)
  refine ite_no' (by decide) ?_
  have C14 := C13.drop [(ql, lstO vq cq), (pl, lstO vp cp), (L + 3, cellO (some (.int (xs.length : Int) (s1.toks + 1)))), (L + 2, cellO (some (.ref yl))), (L + 1, cellO (some (.ref xl))), (xl, lstO vx ex), (yl, lstO vy ey)] ?_
  · refine wpAny_allTrue_Or_cons (wpAny_isTrue_Compare1 (C14.nameE (v := v) rfl (Call_ (C14.globalE G F.ntold (callWith_K (C14.st.X G) F.ktold ?_)))))
    refine args_cons (C14.nameE (v := .ref pl) rfl (args_cons (C14.nameE (v := .ref ql) rfl (args_cons (wpAny_Constant_str (args_nil ⟨(C14.tok 1).st.X G, ?_⟩))))))
    refine told_spec G F (C14.tok 1).st ((C14.tok 1).ok 1 rfl) ((C14.tok 1).ok 0 rfl) hpq (fun A' l' s1 hd hh1 S o1 o2 => ans_linear G F S o1 o2 hpq ip iq (places_bound xs h3) (places_bound ys (by lia  )) (by rw [places_len, places_len]; exact hlen) (by rw [places_len]; exact h2) (by rw [places_len]; lia  ) nk.okL (by rw [hd]; show A.depth + 1 + 1 + 1 < _; lia  ) hh1) (by show A.depth + 1 < _; lia  ) (by show A.units + 3 + 6 < _; lia  ) hh' fun v2 s15 hv2 g15 => ?_
    rw [nk.same] at hv2
    refine hv.ne hv2 nk.num (wpAny_truthy_bool ?_)
    refine ite_no' (by decide) (wpAny_allTrue_Or_nil ?_)
    refine ite_no' (by decide) (wpAny_execs_nil ?_)
    exact k _ pl ql vp vq cp cq _ v _ rfl rfl rfl hv ip iq hpq ((C14.tok 1).call g15)
  · refine .cons _ (.cons_cons _ (.cons_cons _ (.cons _ (.cons _ (.cons _ (List.Sublist.refl _))))))
end
end Mine
end
section
set_option maxRecDepth 100000
set_option autoImplicit false
namespace Mine
open PySem PySem.W PySem.Calls PyProof.Rows PySem.Spec

structure FreshI (acc : List Value) (ns : List Int) (tk : Nat) : Prop where
  iv : IV acc ns
  lt : ∀ v ∈ acc, tokOf v ≠ 0 ∧ tokOf v < tk
  ne : acc.Pairwise fun x y => tokOf x ≠ tokOf y
theorem FreshI.nil (tk : Nat) : FreshI [] [] tk := ⟨IV.nil, fun _ h => (nomatch h), List.Pairwise.nil⟩
theorem FreshI.mono {acc : List Value} {ns : List Int} {a b : Nat} (h : FreshI acc ns a) (hab : a ≤ b) : FreshI acc ns b := ⟨h.iv, fun v hv => ⟨(h.lt v hv).1, Nat.lt_of_lt_of_le (h.lt v hv).2 hab⟩, h.ne⟩
theorem FreshI.snoc {acc : List Value} {ns : List Int} {tk tk' : Nat} (h : FreshI acc ns tk) (n : Int) (t : Tok) (h0 : 0 < tk) (h1 : tk ≤ t) (h2 : t < tk') : FreshI (acc ++ [.int n t]) (ns ++ [n]) tk' := by
  refine ⟨h.iv.snoc n t, fun v hv => ?_, ?_⟩
  · rcases List.mem_append.mp hv with q | q
    · exact ⟨(h.lt v q).1, Nat.lt_trans (h.lt v q).2 (Nat.lt_of_le_of_lt h1 h2)⟩
    · rw [List.mem_singleton.mp q]; exact ⟨Nat.ne_of_gt (Nat.lt_of_lt_of_le h0 h1), h2⟩
  · refine List.pairwise_append.mpr ⟨h.ne, by simp, fun x hx y hy => ?_⟩
    rw [List.mem_singleton.mp hy]
    exact Nat.ne_of_lt (Nat.lt_of_lt_of_le (h.lt x hx).2 h1)
theorem FreshI.key {acc : List Value} {ns : List Int} {tk : Nat} (h : FreshI acc ns tk) : KeyL intKey acc := by
  refine ⟨fun x hx => ⟨h.iv.mem hx, (h.lt x hx).1⟩, fun x hx y hy e => ?_⟩
  have hxy : x = y := by
    obtain ⟨i, hi, rfl⟩ := List.mem_iff_getElem.mp hx
    obtain ⟨j, hj, rfl⟩ := List.mem_iff_getElem.mp hy
    rcases Nat.lt_trichotomy i j with q | q | q
    · exact absurd e (List.pairwise_iff_getElem.mp h.ne i j hi hj q)
    · subst q; rfl
    · exact absurd e.symm (List.pairwise_iff_getElem.mp h.ne j i hj hi q)
  subst hxy
  obtain ⟨n, t, rfl⟩ := h.iv.mem hx
  show (n == n) = true
  simp
section
variable {H0 : Heap} {A : Around} {l : List Env} {M : List Addr} {sE : Shared} {L : Addr} {m : Str → Option Value} {led : List (Addr × Obj)} {s : Shared} {prog : Program} {w : World} {E : Value → Shared → Prop} {env : Env}
noncomputable abbrev ElemN (prog : Program) (w : World) (H0 : Heap) (A : Around) (l : List Env) (led : List (Addr × Obj)) (sB : Shared) (x : Str) (elt : Expr) (cenv : Addr → Env) (f : Int → Int) : Prop :=
  ∀ (p1 p2 : Addr × Obj) (C : Addr) (mC : Str → Option Value) (s : Shared) (E' : Value → Shared → Prop) (n : Int) (u : Tok) (Q : Value → Shared → Prop), mC x = some (.int n u) → Cx H0 A l [] sB C mC (p1 :: p2 :: led) s → (∀ t k, s.toks ≤ t → t < s.toks + k → Q (.int (f n) t) { s with toks := s.toks + k }) →
    wpAny (model prog w) A (eval elt (cenv C)) Q E' s
theorem Cx.freshComp (C : Cx H0 A l M sE L m led s) {x rn : Str} {px pr pos : Pos} {elt : Expr} {scope : Scope} {cl : List (Str × Addr)} {al : Addr} {vals : List Value} {ns : List Int} {ep : Nat} {f : Int → Int} {Q : Value → Shared → Prop} (j : Nat)
    (hrow : ∀ (Q : Value → Shared → Prop), Q (.ref al) s → wpAny (model prog w) A (eval (.Name rn pr) env) Q E s) (hl : led[j]? = some (al, lstO vals ep)) (iv : IV vals ns) (hlen : ns.length ≤ 1000) (hh : A.handled = none)
    (he : ElemN prog w H0 A l led s x elt (fun C => compEnvC scope cl C env) f)
    (k : ∀ D acc c' s', Go H0 [] s s' → FreshI acc (ns.map f) s'.toks → Okk s'.heap (D, lstO acc c') → s.heap.get? D = none → Q (.ref D) s')
    (hclos : closureFor scope env = pure cl := by rfl) (hcell : ∀ y ∈ scope.names, y.2 ≠ .cell := by decide) (hkind : scope.kind = .function := by rfl) (hnames : ∀ y ∈ scope.names, y.2 = .local → scope.names.lookup y.1 = some .local := by decide) (hxi : scope.names.lookup x = some .local := by rfl) :
    wpAny (model prog w) A (eval (.ListComp elt [⟨.Name x px, .Name rn pr, [], 0⟩] scope pos) env) Q E s := by
  refine Cx.listComp (led := led) (P := fun i acc tk => FreshI acc ((ns.take i).map f) tk) hh hclos hcell hkind hnames hxi (fun _ _ _ _ h q => h.mono q) (hrow _ ⟨al, vals, ep, j, rfl, by rw [iv.len]; exact hlen, hl, C, .nil _, fun I D C1 => ?_, fun D acc c' s' g h o n => k D acc c' s' g (by rw [iv.len] at h; have h2 : FreshI acc ((ns.take ns.length).map f) s'.toks := h; rw [List.take_length] at h2; exact h2) o n⟩)
  intro i v acc c mC s E' hvi hP hm C2
  rw [List.forIn_nil]
  refine wpAny_pure ?_
  first | refine ite_yes' rfl ?_ | refine ite_yes rfl ?_ | rw [if_pos rfl]
  have hlt : i < ns.length := by rw [← iv.len]; exact (List.getElem?_eq_some_iff.mp hvi).1
  obtain ⟨n, hn⟩ : ∃ n, ns[i]? = some n := ⟨_, List.getElem?_eq_getElem hlt⟩
  obtain ⟨u, hu⟩ := iv.at_ i n hn
  rw [hvi] at hu; cases hu
  refine he _ _ C1 mC s _ n u _ hm C2 fun t k h1 h2 => ⟨C2.tok k, ?_⟩
  show FreshI _ ((ns.take (i + 1)).map f) _
  rw [take_succ' hn, List.map_append]
  exact FreshI.snoc hP _ _ C2.st.toks h1 h2
end
end Mine
end
section
set_option maxRecDepth 100000
set_option autoImplicit false
namespace Mine
open PySem PySem.W PySem.Calls PyProof.Rows PySem.Spec

noncomputable def AllEq (xs : List Int) : Prop := ∀ a ∈ xs, ∀ b ∈ xs, a = b
noncomputable def negs (xs : List Int) : List Int := xs.map fun v => -v
noncomputable def sqs (xs : List Int) : List Int := xs.map fun v => v * v
structure NumOk2 (xs ys : List Int) : Prop where
  const : AllEq xs ∨ AllEq ys → corrF (rankD xs) (rankD ys) = none
  var : ¬ AllEq xs → ¬ AllEq ys → ∃ r, corrF (rankD xs) (rankD ys) = some r
  neg : ∀ r, corrF (rankD xs) (rankD ys) = some r → CorrOk (rankD (negs xs)) (rankD ys) ∧ ∃ r', corrF (rankD (negs xs)) (rankD ys) = some r' ∧ Float64.cmp r' (Float64.neg r) = some .eq
  sq : ∀ r, corrF (rankD xs) (rankD ys) = some r → CorrOk (devF (sqs (places xs))) (devF (places ys)) ∧ ∃ r2, corrF (devF (sqs (places xs))) (devF (places ys)) = some r2 ∧ Float64.cmp r2 r2 = some .eq
noncomputable abbrev ledH (L xl yl pl ql : Addr) (vx vy vp vq : List Value) (ex ey cp cq : Nat) (n : Int) (tn : Tok) : List (Addr × Obj) :=
  [(ql, lstO vq cq), (pl, lstO vp cp), (L + 3, cellO (some (.int n tn))), (L + 2, cellO (some (.ref yl))), (L + 1, cellO (some (.ref xl))), (xl, lstO vx ex), (yl, lstO vy ey)]

section
variable {K : Frag} {a : Adr} {b : Ad2} {H0 : Heap} {mg mb : Str → Option Value} {A : Around} {l : List Env} {s : Shared} {prog : Program} {w : World} {E : Value → Shared → Prop}
theorem sqs_bound (ns : List Int) (h : ns.length < 64) : ∀ x ∈ sqs (places ns), x.natAbs ≤ 2 ^ 40 := by
  intro x hx
  obtain ⟨y, hy, rfl⟩ := List.mem_map.mp hx
  obtain ⟨v, _, rfl⟩ := List.mem_map.mp hy
  have := place_le ns v
  rw [Int.natAbs_mul, Int.natAbs_natCast]
  have h1 : place ns v ≤ 128 := by lia
  exact Nat.le_trans (Nat.mul_le_mul h1 h1) (by decide)
theorem hold_b (G : Gl K H0 mg mb) (FF : KF K a) (F : KG K b) (hr : b.rank = a.rank) {L : Addr} {cdv : Value} {s1 : Shared} {xl yl pl ql : Addr} {vx vy vp vq : List Value} {xs ys : List Int} {ex ey cp cq : Nat} {n : Int} {tn : Tok} {m : Str → Option Value} {v : Value}
    (C : Cx H0 (A.deeper (eHold L b.hold cdv)) (eHold L b.hold cdv :: l) [] s L m (ledH L xl yl pl ql vx vy vp vq ex ey cp cq n tn) s1)
    (mp : m "p" = some (.ref pl)) (mq : m "q" = some (.ref ql)) (mt : m "told" = some v) (hv : ToldV (corrF (rankD xs) (rankD ys)) v) (ivp : IV vp (places xs)) (ivq : IV vq (places ys)) (hpq : pl ≠ ql)
    (ivx : IV vx xs) (ivy : IV vy ys) (KLy : KeyL intKey vy) (hlen : xs.length = ys.length) (h2 : 2 ≤ xs.length) (h3 : xs.length < 64) (nk : NumOk2 xs ys) (hroom : A.depth + 20 < recursionLimit) (hu : A.units + 100 < cLine) (hh : A.handled = none) {Q : Flow → Shared → Prop}
    (kT : ∀ s', Go H0 [] s s' → Q (.ret (.bool true)) s')
    (k : ∀ r t m' s', corrF (rankD xs) (rankD ys) = some r → m' "p" = some (.ref pl) → m' "q" = some (.ref ql) → m' "told" = some (.float r t) →
      Cx H0 (A.deeper (eHold L b.hold cdv)) (eHold L b.hold cdv :: l) [] s L m' (ledH L xl yl pl ql vx vy vp vq ex ey cp cq n tn) s' →
      wpAny (model prog w) (A.deeper (eHold L b.hold cdv)) (execs (dHold.2.1.drop 10) (eHold L b.hold cdv)) Q E s') :
    wpAny (model prog w) (A.deeper (eHold L b.hold cdv)) (execs (dHold.2.1.drop 6) (eHold L b.hold cdv)) Q E s1 := by
  have hh' : (A.deeper (eHold L b.hold cdv)).handled = none := hh
  have hvx : vx.length = xs.length := ivx.len
  have hvy : vy.length = ys.length := ivy.len
  refine wpAny_execs_cons (wpAny_If (wpAny_isTrue_BoolOp (wpAny_allTrue_Or_cons (wpAny_isTrue_Compare1 ?_))))
  refine Call_ (C.bootE G F.nmin Boot.«min» (PyProof.Rows.callWith_builtin1 (args_cons (C.ldCell 4 rfl rfl (args_nil (minL (C.at 5 rfl) ivx (by lia  ) hh' fun s0 t M hk hM hmin => ?_))))))
  have C1 := C.grown hk
  refine Call_ (C1.bootE G F.nmax2 Boot.«max» (PyProof.Rows.callWith_builtin1 (args_cons (C1.ldCell 4 rfl rfl (args_nil (maxL (C1.at 5 rfl) ivx (by lia  ) hh' fun s02 t2 M2 hk2 hM2 hmax => ?_))))))
  have C2 := C1.grown hk2
  refine PySem.P.eq_int (wpAny_truthy_bool ?_)
  have fin : ∀ s3, (AllEq xs ∨ AllEq ys) → Cx H0 (A.deeper (eHold L b.hold cdv)) (eHold L b.hold cdv :: l) [] s L m (ledH L xl yl pl ql vx vy vp vq ex ey cp cq n tn) s3 → ∀ {k0 k1 k2 : Nat} {q0 q1 q2 q3 : Pos} {Q' : Flow → Shared → Prop}, (∀ s', Go H0 [] s s' → Q' (.ret (.bool true)) s') →
      wpAny (model prog w) (A.deeper (eHold L b.hold cdv)) (execs [.Return (some (.Compare (.Name "told" q0) [.Eq] [.Constant (.str constMsg) k0 q1] q2)) q3] (eHold L b.hold cdv)) Q' E s3 := fun s3 hc C3 => by
    intro k0 k1 k2 q0 q1 q2 q3 Q' kQ
    have hv0 : ToldV none v := by rw [← nk.const hc]; exact hv
    obtain ⟨u, rfl⟩ := hv0
    refine wpAny_execs_cons (wpAny_Return_some (wpAny_Compare1 (C3.nameE (v := .str constMsg u) mt (wpAny_Constant_str (PySem.P.eq_str ?_)))))
    rw [show (constMsg.cps.toList == constMsg.cps.toList) = true from beq_self_eq_true _]
    exact kQ _ (C3.tok 1).go
  by_cases hMM : M = M2
  · have hx : AllEq xs := fun a ha c hc => by have := hmin a ha; have := hmax a ha; have := hmin c hc; have := hmax c hc; lia
    refine ite_yes' (by simpa using hMM) ?_
    refine ite_yes' rfl ?_
    exact fin _ (.inl hx) C2 (k1 := 0) (k2 := 0) kT
  · have hx : ¬ AllEq xs := fun h => hMM (h _ hM _ hM2)
    refine ite_no' (by simpa using hMM) ?_
    refine wpAny_allTrue_Or_cons (wpAny_isTrue_Compare1 ?_)
    refine Call_ (C2.bootE G F.nmin Boot.«min» (PyProof.Rows.callWith_builtin1 (args_cons (C2.ldCell 3 rfl rfl (args_nil (minL (C2.at 6 rfl) ivy (by lia  ) hh' fun s03 t3 N hk3 hN hnmin => ?_))))))
    have C3 := C2.grown hk3
    refine Call_ (C3.bootE G F.nmax2 Boot.«max» (PyProof.Rows.callWith_builtin1 (args_cons (C3.ldCell 3 rfl rfl (args_nil (maxL (C3.at 6 rfl) ivy (by lia  ) hh' fun s04 t4 N2 hk4 hN2 hnmax => ?_))))))
    have C4 := C3.grown hk4
    refine PySem.P.eq_int (wpAny_truthy_bool ?_)
    by_cases hNN : N = N2
    · have hy : AllEq ys := fun a ha c hc => by have := hnmin a ha; have := hnmax a ha; have := hnmin c hc; have := hnmax c hc; lia
      refine ite_yes' (by simpa using hNN) ?_
      refine ite_yes' rfl ?_
      exact fin _ (.inr hy) C4 (k1 := 0) (k2 := 0) kT
    have hy : ¬ AllEq ys := fun h => hNN (h _ hN _ hN2)
    refine ite_no' (by simpa using hNN) (wpAny_allTrue_Or_nil ?_)
    refine ite_no' (by decide) (wpAny_execs_nil ?_)
    obtain ⟨r, hre⟩ := nk.var hx hy
    rw [hre] at hv
    obtain ⟨tr, rfl⟩ := hv
    obtain ⟨okN, r', hr', hneg⟩ := nk.neg r hre
    obtain ⟨okS, r2, hr2, hsq⟩ := nk.sq r hre
    -- the sign
    refine wpAny_execs_cons (wpAny_If (wpAny_isTrue_BoolOp (wpAny_allTrue_Or_cons (wpAny_isTrue_Compare1 ?_))))
    refine Call_ (C4.bootE G F.ntype2 Boot.«type» (PyProof.Rows.callWith_type1 (args_cons (C4.nameE mt (args_nil (call_type_of (typeIs_float _ _ _) (by decide) ?_))))))
    refine C4.bootE G F.nfloat2 Boot.«float» (isnot_type_same (wpAny_truthy_bool ?_))
    refine ite_no' (by decide) ?_
    refine wpAny_allTrue_Or_cons (wpAny_isTrue_Compare1 (Call_ (C4.globalE G F.ntold (callWith_K (C4.st.X G) F.ktold ?_))))
    refine args_cons ?_
    refine C4.freshComp (f := fun v => -v) 5 (fun Q h => C4.ldCell 4 rfl rfl h) rfl ivx (by lia  ) hh' (fun p1 p2 Cc mC s5 E5 n5 u5 Q5 hm5 C5 k5 => ?_) fun D acc c' s5 g5 fr5 o5 n5 => ?_
    · exact wpAny_UnaryOp (C5.nameE hm5 (neg_int (k5 _ 1 (Nat.le_refl _) (Nat.lt_succ_self _))))
    have C6 := C4.addNew g5 o5 n5 rfl
    have hDy : D ≠ yl := C6.ne (i := 0) (j := 7) rfl rfl
    refine args_cons (C6.ldCell 4 rfl rfl (args_cons (wpAny_Constant_str (args_nil ⟨(C6.tok 1).st.X G, ?_⟩))))
    refine told_spec G F (C6.tok 1).st ((C6.tok 1).ok 0 rfl) ((C6.tok 1).ok 7 rfl) hDy (fun A' l' s1 hd hh1 S o1 o2 => ans_ranked G FF F hr S o1 o2 hDy fr5.iv ivy fr5.key KLy (by simpa using hlen) (by simpa using h2) (by simpa using h3) okN (by rw [hd]; show A.depth + 1 + 1 + 7 < _; lia  ) hh1) (by show A.depth + 1 < _; lia  ) (by show A.units + 3 + 6 < _; lia  ) hh' fun v7 s7 hv7 g7 => ?_
    have hv7' : ToldV (corrF (rankD (negs xs)) (rankD ys)) v7 := hv7
    rw [hr'] at hv7'
    obtain ⟨t7, rfl⟩ := hv7'
    have C7 := ((C6.tok 1).call g7).drop (ledH L xl yl pl ql vx vy vp vq ex ey cp cq n tn) (.cons _ (List.Sublist.refl _))
    refine wpAny_UnaryOp (C7.nameE mt (neg_float (AutoFloatOps.ne_0 ?_)))
    rw [hneg]
    refine wpAny_truthy_bool ?_
    refine ite_no' (by decide) (wpAny_allTrue_Or_nil ?_)
    refine ite_no' (by decide) (wpAny_execs_nil ?_)
    -- the squares
    have C8 := C7.tok 1
    refine wpAny_execs_cons (C8.mapCompA (f := fun v => v * v) 1 (fun Q h => C8.nameE mp h) rfl ivp (by rw [places_len]; lia  ) hh' (fun p1 p2 Cc mC s9 E9 n9 u9 Q9 hn9 hm9 C9 k9 => ?_) fun D9 acc9 c9 s9 C9 iv9 nw9 => ?_)
    · have hb9 := places_bound xs h3 n9 hn9
      exact wpAny_BinOp (C9.nameE hm9 (C9.nameE hm9 (mul_int (k9 _ 1))))
    have hDq : D9 ≠ ql := C9.ne (i := 0) (j := 1) rfl rfl
    have mq9 : (updM m (Str.ofString "squares") (Value.ref D9)) "q" = some (.ref ql) := by
      show (if Str.ofString "q" = Str.ofString "squares" then _ else _) = _
      rw [if_neg (by decide)]; exact mq
    refine wpAny_execs_cons (wpAny_If (wpAny_isTrue_Compare1 (Call_ (C9.globalE G F.ncorr (callWith_K (C9.st.X G) F.kcorr (args_cons (C9.nameE (v := .ref D9) rfl (args_cons (C9.nameE mq9 (args_nil ⟨C9.st.X G, wpAny_call ?_⟩))))))))))
    refine ans_default G F C9.st (C9.ok 0 rfl) (C9.ok 1 rfl) hDq iv9 ivq (sqs_bound xs h3) (places_bound ys (by lia  )) (by rw [List.length_map, places_len, places_len]; exact hlen) (by rw [List.length_map, places_len]; exact h2) (by rw [List.length_map, places_len]; lia  ) okS (by show A.depth + 1 + 1 < _; lia  ) hh' _ (fun ra ta sa hra ga => ?_) (fun e te ue s' hno _ _ => ?_)
    rotate_left
    · have hno' : corrF (devF (sqs (places xs))) (devF (places ys)) = none := hno
      rw [hr2] at hno'; cases hno'
    have hra' : corrF (devF (sqs (places xs))) (devF (places ys)) = some ra := hra
    rw [hr2] at hra'; cases hra'
    have C10 := C9.call ga
    refine Call_ (C10.globalE G F.ntold (callWith_K (C10.st.X G) F.ktold (args_cons (C10.nameE (v := .ref D9) rfl (args_cons (C10.nameE mq9 (args_cons (wpAny_Constant_str (args_nil ⟨(C10.tok 1).st.X G, ?_⟩)))))))))
    refine told_spec G F (C10.tok 1).st ((C10.tok 1).ok 0 rfl) ((C10.tok 1).ok 1 rfl) hDq (fun A' l' s1 hd hh1 S o1 o2 => ans_linear G F S o1 o2 hDq iv9 ivq (sqs_bound xs h3) (places_bound ys (by lia  )) (by rw [List.length_map, places_len, places_len]; exact hlen) (by rw [List.length_map, places_len]; exact h2) (by rw [List.length_map, places_len]; lia  ) okS (by rw [hd]; show A.depth + 1 + 1 + 1 < _; lia  ) hh1) (by show A.depth + 1 < _; lia  ) (by show A.units + 3 + 6 < _; lia  ) hh' fun v11 s11 hv11 g11 => ?_
    have hv11' : ToldV (corrF (devF (sqs (places xs))) (devF (places ys))) v11 := hv11
    rw [hr2] at hv11'
    refine (show ToldV (some r2) (.float r2 ta) from ⟨ta, rfl⟩).ne hv11' (fun q hq => by cases hq; exact hsq) (wpAny_truthy_bool ?_)
    refine ite_no' (by decide) (wpAny_execs_nil ?_)
    refine k r tr (updM m (Str.ofString "squares") (Value.ref D9)) s11 hre ?_ mq9 ?_ (((C10.tok 1).call g11).drop (ledH L xl yl pl ql vx vy vp vq ex ey cp cq n tn) (.cons _ (List.Sublist.refl _)))
    · show (if Str.ofString "p" = Str.ofString "squares" then _ else _) = _
      rw [if_neg (by decide)]; exact mp
    · show (if Str.ofString "told" = Str.ofString "squares" then _ else _) = _
      rw [if_neg (by decide)]; exact mt
end
end Mine
end
section
set_option maxRecDepth 100000
set_option autoImplicit false
namespace Mine
open PySem PySem.W PySem.Calls PyProof.Rows PySem.Spec

noncomputable def jointI (n : Int) (p q : List Int) : Int := (List.zipWith (fun a b => (a - n) * (b - n)) p q).sum
noncomputable def sprI (n : Int) (p : List Int) : Int := (p.map fun a => (a - n) * (a - n)).sum
noncomputable def difI (p q : List Int) : Int := (List.zipWith (fun a b => (a - b) * (a - b)) p q).sum
noncomputable def dueI (j : Int) (down : Nat) : Int := j * j * (down : Int) * (down : Int)
structure NumOk3 (xs ys : List Int) : Prop where
  ok : ∀ r, corrF (rankD xs) (rankD ys) = some r → ∃ (up : Int) (down : Nat), AirF r up down ∧ up.natAbs < 2 ^ 64 ∧ down < 2 ^ 200 ∧
    ¬ (up * jointI xs.length (places xs) (places ys) < 0) ∧
    ¬ (((up * up * (sprI xs.length (places xs) * sprI xs.length (places ys)) - dueI (jointI xs.length (places xs) (places ys)) down).natAbs : Int) * 2 ^ 50 > dueI (jointI xs.length (places xs) (places ys)) down) ∧
    (xs.Nodup → ys.Nodup → nearB up down (2 * (xs.length : Int) * (xs.length * xs.length - 1) - 3 * difI (places xs) (places ys)) (2 * (xs.length : Int) * (xs.length * xs.length - 1)) = true)
theorem intBits_lt {x : Int} {k : Nat} (h : x.natAbs < 2 ^ k) : Builtin.Int.intBits x ≤ k := by
  unfold Builtin.Int.intBits
  split
  · exact Nat.zero_le _
  · rename_i h0
    have hx : x.natAbs ≠ 0 := fun e => h0 (by rw [Int.natAbs_eq_zero.mp e]; rfl)
    exact (Nat.log2_lt hx).mpr h
theorem place_bound {ns : List Int} (h : ns.length < 64) : ∀ x ∈ places ns, 0 ≤ x ∧ x ≤ 128 := by
  intro x hx
  obtain ⟨v, _, rfl⟩ := List.mem_map.mp hx
  have := place_le ns v
  lia
theorem mul_bound {a b : Int} {A B : Nat} (ha : a.natAbs ≤ A) (hb : b.natAbs ≤ B) : (a * b).natAbs ≤ A * B := by
  rw [Int.natAbs_mul]; exact Nat.mul_le_mul ha hb
theorem zip_bound {f : Int → Int → Int} {B : Nat} : ∀ (p q : List Int), (∀ a ∈ p, ∀ b ∈ q, (f a b).natAbs ≤ B) → ∀ x ∈ List.zipWith f p q, x.natAbs ≤ B
  | [], _, _, x, hx => by simp at hx
  | _ :: _, [], _, x, hx => by simp at hx
  | a :: p, b :: q, h, x, hx => by
    rw [List.zipWith_cons_cons] at hx
    rcases List.mem_cons.mp hx with rfl | hx
    · exact h a (.head _) b (.head _)
    · exact zip_bound p q (fun a' ha b' hb => h a' (.tail _ ha) b' (.tail _ hb)) x hx
theorem joint_bound {p q : List Int} {n : Nat} (hn : n < 64) (hp : ∀ x ∈ p, 0 ≤ x ∧ x ≤ 128) (hq : ∀ x ∈ q, 0 ≤ x ∧ x ≤ 128) (hl : p.length < 64) : (jointI n p q).natAbs ≤ 2 ^ 24 := by
  have h1 := sum_le (B := 2 ^ 16) _ (zip_bound (f := fun a b => (a - (n : Int)) * (b - (n : Int))) (B := 2 ^ 16) p q fun a ha b hb => Nat.le_trans (mul_bound (A := 2 ^ 8) (B := 2 ^ 8) (by have := hp a ha; omega) (by have := hq b hb; omega)) (by decide))
  have h2 : (List.zipWith (fun a b => (a - (n : Int)) * (b - (n : Int))) p q).length ≤ 64 := by rw [List.length_zipWith]; grind
  unfold jointI
  lia
theorem dif_bound {p q : List Int} (hp : ∀ x ∈ p, 0 ≤ x ∧ x ≤ 128) (hq : ∀ x ∈ q, 0 ≤ x ∧ x ≤ 128) (hl : p.length < 64) : (difI p q).natAbs ≤ 2 ^ 24 := by
  have h1 := sum_le (B := 2 ^ 16) _ (zip_bound (f := fun a b => (a - b) * (a - b)) (B := 2 ^ 16) p q fun a ha b hb => Nat.le_trans (mul_bound (A := 2 ^ 8) (B := 2 ^ 8) (by have := hp a ha; have := hq b hb; omega) (by have := hp a ha; have := hq b hb; omega)) (by decide))
  have h2 : (List.zipWith (fun a b => (a - b) * (a - b)) p q).length ≤ 64 := by rw [List.length_zipWith]; grind
  unfold difI
  lia
theorem spr_bound {p : List Int} {n : Nat} (hn : n < 64) (hp : ∀ x ∈ p, 0 ≤ x ∧ x ≤ 128) (hl : p.length < 64) : (sprI n p).natAbs ≤ 2 ^ 24 := by
  have h1 := sum_le (B := 2 ^ 16) (p.map fun a => (a - (n : Int)) * (a - (n : Int))) (fun x hx => by
    obtain ⟨a, ha, rfl⟩ := List.mem_map.mp hx
    exact Nat.le_trans (mul_bound (A := 2 ^ 8) (B := 2 ^ 8) (by have := hp a ha; omega) (by have := hp a ha; omega)) (by decide))
  rw [List.length_map] at h1
  unfold sprI
  lia
end Mine
end
section
set_option maxRecDepth 100000
set_option autoImplicit false
namespace Mine
open PySem PySem.W PySem.Calls PyProof.Rows PySem.Spec

section
variable {K : Frag} {a : Adr} {b : Ad2} {H0 : Heap} {mg mb : Str → Option Value} {A : Around} {l : List Env} {s : Shared} {prog : Program} {w : World} {E : Value → Shared → Prop}
theorem Cx.named {M : List Addr} {sE : Shared} {L : Addr} {m : Str → Option Value} {led : List (Addr × Obj)} {x : Str} {v : Value} (C : Cx H0 A l M sE L (updM m x v) led s) : ∃ m', Cx H0 A l M sE L m' led s ∧ m' x = some v ∧ ∀ y, y ≠ x → m' y = m y :=
  ⟨_, C, if_pos rfl, fun y h => if_neg h⟩
theorem IV.append {vs ws : List Value} {ns ms : List Int} (h : IV vs ns) (h' : IV ws ms) : IV (vs ++ ws) (ns ++ ms) := by
  refine ⟨by simp [h.len, h'.len], fun i y hy => ?_⟩
  by_cases hi : i < ns.length
  · rw [List.getElem?_append_left hi] at hy
    rw [List.getElem?_append_left (by rw [h.len]; exact hi)]
    exact h.at_ i y hy
  · rw [List.getElem?_append_right (Nat.not_lt.mp hi)] at hy
    rw [List.getElem?_append_right (by rw [h.len]; exact Nat.not_lt.mp hi), h.len]
    exact h'.at_ _ y hy
theorem nodup_of_counts {xs : List Int} (h : ∀ a ∈ xs.map (fun v => ((xs.count v : Nat) : Int)), a ≤ 1) : xs.Nodup := by
  refine List.nodup_iff_count.mpr fun v => ?_
  by_cases hv : v ∈ xs
  · have := h _ (List.mem_map.mpr ⟨v, hv, rfl⟩); lia
  · rw [List.count_eq_zero.mpr hv]; exact Nat.zero_le _
theorem hold_d (G : Gl K H0 mg mb) (F : KG K b) {L : Addr} {cdv : Value} {s1 : Shared} {xl yl pl ql : Addr} {vx vy vp vq : List Value} {xs ys : List Int} {ex ey cp cq : Nat} {tn tr tu td tj ts : Tok} {m : Str → Option Value} {r : UInt64} {up J S : Int} {down : Nat}
    (C13 : Cx H0 (A.deeper (eHold L b.hold cdv)) (eHold L b.hold cdv :: l) [] s L m (ledH L xl yl pl ql vx vy vp vq ex ey cp cq (xs.length : Int) tn) s1)
    (mp13 : m "p" = some (.ref pl)) (mq13 : m "q" = some (.ref ql)) (mt13 : m "told" = some (.float r tr)) (mu13 : m "up" = some (.int up tu)) (md13 : m "down" = some (.int (down : Int) td)) (mj13 : m "joint" = some (.int J tj)) (mS : m "spread" = some (.int S ts))
    (hup : up.natAbs < 2 ^ 64) (hdown : down < 2 ^ 200) (bj : J.natAbs ≤ 2 ^ 24) (bS : S.natAbs ≤ 2 ^ 48) (hsgn : ¬ (up * J < 0)) (hclose : ¬ ((((up * up * S - dueI J down).natAbs : Int) * 2 ^ 50 > dueI J down))) (hh : A.handled = none) {Q : Flow → Shared → Prop}
    (k : ∀ m' s', m' "p" = some (.ref pl) → m' "q" = some (.ref ql) → m' "told" = some (.float r tr) → Cx H0 (A.deeper (eHold L b.hold cdv)) (eHold L b.hold cdv :: l) [] s L m' (ledH L xl yl pl ql vx vy vp vq ex ey cp cq (xs.length : Int) tn) s' →
      wpAny (model prog w) (A.deeper (eHold L b.hold cdv)) (execs (dHold.2.1.drop 15) (eHold L b.hold cdv)) Q E s') :
    wpAny (model prog w) (A.deeper (eHold L b.hold cdv)) (execs (dHold.2.1.drop 13) (eHold L b.hold cdv)) Q E s1 := by
  have hh' : (A.deeper (eHold L b.hold cdv)).handled = none := hh
  have bJ64 : Builtin.Int.intBits J ≤ 64 := intBits_lt (Nat.lt_of_le_of_lt bj (by decide))
  have bJJ' : (J * J).natAbs ≤ 2 ^ 24 * 2 ^ 24 := mul_bound bj bj
  have bJJ : Builtin.Int.intBits (J * J) ≤ 64 := intBits_lt (Nat.lt_of_le_of_lt bJJ' (by decide))
  have bJd : Builtin.Int.intBits (J * J * (down : Int)) ≤ 2 ^ 20 := Nat.le_trans (intBits_lt (k := 249) (Nat.lt_of_le_of_lt (mul_bound bJJ' (by show ((down : Int)).natAbs ≤ 2 ^ 200; rw [Int.natAbs_natCast]; exact Nat.le_of_lt hdown)) (by decide))) (by decide)
  have bd : Builtin.Int.intBits (down : Int) ≤ 2 ^ 20 := Nat.le_trans (intBits_lt (k := 200) (by rw [Int.natAbs_natCast]; exact hdown)) (by decide)
  have bu : Builtin.Int.intBits up ≤ 64 := intBits_lt hup
  have bs : Builtin.Int.intBits S ≤ 64 := intBits_lt (Nat.lt_of_le_of_lt bS (by decide))
  have b50 : Builtin.Int.intBits ((2 : Int) ^ (Int.toNat 50)) ≤ 64 := intBits_lt (by decide)
  refine wpAny_execs_cons (wpAny_Assign_Name (wpAny_BinOp (wpAny_BinOp (wpAny_BinOp (C13.nameE mj13 (C13.nameE mj13 (mul_int ?_ (hm := .of_left bJ64))))))))
  refine (C13.tok 1).nameE md13 (mul_int ?_ (hm := .of_left bJJ))
  refine (C13.tok 2).nameE md13 (mul_int ?_ (hm := .of_bits bJd bd))
  refine (C13.tok 3).setE fun s14 C14' => ?_
  obtain ⟨m14, C14, mD, mo14⟩ := C14'.named
  have mD' : m14 "due" = some (.int (dueI J down) (s1.toks + 2)) := mD
  have mp14 := (mo14 "p" (by decide)).trans mp13
  have mq14 := (mo14 "q" (by decide)).trans mq13
  have mt14 := (mo14 "told" (by decide)).trans mt13
  have mu14 := (mo14 "up" (by decide)).trans mu13
  have mj14 := (mo14 "joint" (by decide)).trans mj13
  have mS14 := (mo14 "spread" (by decide)).trans mS
  clear C14' mo14 mD
  refine wpAny_execs_cons (wpAny_If (wpAny_isTrue_BoolOp (wpAny_allTrue_Or_cons (wpAny_isTrue_Compare1 (wpAny_BinOp (C14.nameE mu14 (C14.nameE mj14 (mul_int ?_ (hm := .of_left bu)))))))))
  refine wpAny_Constant_int (PySem.P.lt_int (wpAny_truthy_bool ?_))
  refine ite_no' (decide_eq_false hsgn) ?_
  have C15 := C14.tok 2
  refine wpAny_allTrue_Or_cons (wpAny_isTrue_Compare1 (wpAny_BinOp (Call_ (C15.bootE G F.nabs Boot.«abs» (PyProof.Rows.callWith_builtin1 (args_cons ?_))))))
  refine wpAny_BinOp (wpAny_BinOp (wpAny_BinOp (C15.nameE mu14 (C15.nameE mu14 (mul_int ?_ (hm := .of_left bu))))))
  refine (C15.tok 1).nameE mS14 (mul_int ?_ (hm := .of_right bs))
  refine (C15.tok 2).nameE mD' (sub_int (args_nil (abs_up fun u16 k16 => ?_)))
  have C16 := (C15.tok 3).tok k16
  refine wpAny_BinOp (wpAny_Constant_int (wpAny_Constant_int (pow_int_small (by decide) (by decide) (by decide) (mul_int ?_ (hm := .of_right b50)))))
  have C17 := C16.tok 4
  refine C17.nameE mD' (PySem.P.gt_int (wpAny_truthy_bool ?_))
  refine ite_no' (decide_eq_false hclose) (wpAny_allTrue_Or_nil ?_)
  refine ite_no' (by decide) (wpAny_execs_nil ?_)
  exact k m14 _ mp14 mq14 mt14 C17
end
end Mine
end
section
set_option maxRecDepth 100000
set_option autoImplicit false
namespace Mine
open PySem PySem.W PySem.Calls PyProof.Rows PySem.Spec

section
variable {K : Frag} {a : Adr} {b : Ad2} {H0 : Heap} {mg mb : Str → Option Value} {A : Around} {l : List Env} {s : Shared} {prog : Program} {w : World} {E : Value → Shared → Prop}
theorem hold_e (G : Gl K H0 mg mb) (F : KG K b) {L : Addr} {cdv : Value} {s1 : Shared} {xl yl pl ql : Addr} {vx vy vp vq : List Value} {xs ys : List Int} {ex ey cp cq : Nat} {tn tr : Tok} {m : Str → Option Value} {r : UInt64} {up : Int} {down : Nat}
    (C : Cx H0 (A.deeper (eHold L b.hold cdv)) (eHold L b.hold cdv :: l) [] s L m (ledH L xl yl pl ql vx vy vp vq ex ey cp cq (xs.length : Int) tn) s1)
    (mp : m "p" = some (.ref pl)) (mq : m "q" = some (.ref ql)) (mt : m "told" = some (.float r tr)) (ivp : IV vp (places xs)) (ivq : IV vq (places ys)) (ivx : IV vx xs) (ivy : IV vy ys) (hlen : xs.length = ys.length) (h2 : 2 ≤ xs.length) (h3 : xs.length < 64)
    (hair : AirF r up down) (hup : up.natAbs < 2 ^ 64) (hnear : xs.Nodup → ys.Nodup → nearB up down (2 * (xs.length : Int) * (xs.length * xs.length - 1) - 3 * difI (places xs) (places ys)) (2 * (xs.length : Int) * (xs.length * xs.length - 1)) = true)
    (hroom : A.depth + 20 < recursionLimit) (hh : A.handled = none) {Q : Flow → Shared → Prop}
    (kT : ∀ s', Go H0 [] s s' → Q (.ret (.bool true)) s') :
    wpAny (model prog w) (A.deeper (eHold L b.hold cdv)) (execs (dHold.2.1.drop 15) (eHold L b.hold cdv)) Q E s1 := by
  have hh' : (A.deeper (eHold L b.hold cdv)).handled = none := hh
  have bp := place_bound (ns := xs) h3
  have bq := place_bound (ns := ys) (by lia  )
  have lp : (places xs).length < 64 := by rw [places_len]; exact h3
  have bd := dif_bound bp bq lp
  refine wpAny_execs_cons (wpAny_If (wpAny_isTrue_Compare1 (Call_ (C.bootE G F.nmax2 Boot.«max» (PyProof.Rows.callWith_builtin1 (args_cons (wpAny_BinOp ?_)))))))
  refine C.mapComp (f := fun v => ((xs.count v : Nat) : Int)) 5 (fun Q h => C.ldCell 4 rfl rfl h) rfl ivx (by lia  ) hh' (fun p1 p2 Cc mC s7 E7 n7 u7 Q7 hn7 hm7 C7 k7 => ?_) fun D1 acc1 c1 s2 g2 iv1 o1 n1 => ?_
  · refine MethodCall_ (C7.ldCell 6 rfl rfl (getMethod_list_of PySem.F.slot_list_count PySem.F.type_list_count (isl (C7.at 7 rfl)) ?_ (callWith_method1 (args_cons (C7.nameE hm7 (args_nil (count_list_ints (isl (C7.at 7 rfl)) ivx.are (k7 _ 1))))))))
    exact ⟨_, C7.at 7 rfl, rfl⟩
  have C2 := C.addNew g2 o1 n1 rfl
  refine C2.mapComp (f := fun v => ((ys.count v : Nat) : Int)) 7 (fun Q h => C2.ldCell 4 rfl rfl h) rfl ivy (by lia  ) hh' (fun p1 p2 Cc mC s7 E7 n7 u7 Q7 hn7 hm7 C7 k7 => ?_) fun D3 acc3 c3 s3 g3 iv3 o3 n3 => ?_
  · refine MethodCall_ (C7.ldCell 6 rfl rfl (getMethod_list_of PySem.F.slot_list_count PySem.F.type_list_count (isl (C7.at 9 rfl)) ?_ (callWith_method1 (args_cons (C7.nameE hm7 (args_nil (count_list_ints (isl (C7.at 9 rfl)) ivy.are (k7 _ 1))))))))
    exact ⟨_, C7.at 9 rfl, rfl⟩
  have C3 := C2.addNew g3 o3 n3 rfl
  refine C3.addL (C3.at 1 rfl) (C3.at 0 rfl) (by rw [iv1.len, iv3.len, List.length_map, List.length_map]; lia  ) fun D4 s4 C4 => ?_
  refine args_nil (maxL (C4.at 0 rfl) (iv1.append iv3) (by rw [List.length_append, List.length_map]; lia  ) hh' fun s05 t5 M hk5 hM hmax => ?_)
  have C5 := (C4.grown hk5).drop (ledH L xl yl pl ql vx vy vp vq ex ey cp cq (xs.length : Int) tn) (.cons _ (.cons _ (.cons _ (List.Sublist.refl _))))
  clear C2 C3 C4
  refine wpAny_Constant_int (PySem.P.gt_int (wpAny_truthy_bool ?_))
  have C6 := C5.tok 1
  by_cases hM1 : M > 1
  · refine ite_yes' (decide_eq_true hM1) ?_
    exact wpAny_execs_cons (wpAny_Return_some (wpAny_Constant_bool (kT _ C6.go)))
  refine ite_no' (decide_eq_false hM1) (wpAny_execs_nil ?_)
  have nx : xs.Nodup := nodup_of_counts fun a ha => by have := hmax a (List.mem_append_left _ ha); lia
  have ny : ys.Nodup := nodup_of_counts fun a ha => by have := hmax a (List.mem_append_right _ ha); lia
  -- whole
  have bn : Builtin.Int.intBits (2 : Int) ≤ 64 := by decide
  have bn2 : Builtin.Int.intBits (xs.length : Int) ≤ 64 := intBits_lt (by grind)
  have bn3 : Builtin.Int.intBits (2 * (xs.length : Int)) ≤ 64 := intBits_lt (by grind)
  refine wpAny_execs_cons (wpAny_Assign_Name (wpAny_BinOp (wpAny_BinOp (wpAny_Constant_int ((C6.tok 1).ldCell 2 rfl rfl (mul_int ?_ (hm := .of_left bn)))))))
  have C7 := (C6.tok 1).tok 1
  refine wpAny_BinOp (wpAny_BinOp (C7.ldCell 2 rfl rfl (C7.ldCell 2 rfl rfl (mul_int ?_ (hm := .of_left bn2)))))
  refine wpAny_Constant_int (sub_int (mul_int ?_ (hm := .of_left bn3)))
  refine (C7.tok 4).setE fun s8 C8' => ?_
  obtain ⟨m8, C8, mW, mo8⟩ := C8'.named
  have mp8 := (mo8 "p" (by decide)).trans mp
  have mq8 := (mo8 "q" (by decide)).trans mq
  have mt8 := (mo8 "told" (by decide)).trans mt
  clear C8' C7 C6 C5 C
  have bwn : (2 * (xs.length : Int) * (xs.length * xs.length - 1)).natAbs ≤ 2 ^ 8 * 2 ^ 13 := mul_bound (by grind) (by
    have h5 : ((xs.length : Int) * xs.length).natAbs ≤ 2 ^ 6 * 2 ^ 6 := mul_bound (by grind) (by lia  )
    omega)
  -- the end
  refine wpAny_execs_cons (wpAny_Return_some (Call_ (C8.globalE G F.nnear (callWith_K (C8.st.X G) F.knear ?_))))
  refine args_cons (C8.nameE mt8 (args_cons (wpAny_BinOp (C8.nameE mW (wpAny_BinOp (wpAny_Constant_int (Call_ ?_)))))))
  have C9 := C8.tok 1
  refine C9.bootE G F.nsum Boot.«sum» (PyProof.Rows.callWith_builtin1 (args_cons ?_))
  refine C9.zipComp (P := fun i acc _ => IV acc (List.zipWith (fun a b => (a - b) * (a - b)) ((places xs).take i) ((places ys).take i))) G F.nzip2 1 0 mp8 mq8 rfl rfl (by rw [ivp.len, ivq.len, places_len, places_len]; exact hlen) (by rw [ivp.len]; lia  ) (by decide) hh' (fun _ _ _ _ h _ => h) (fun _ => IV.nil)
    (fun D Cc => turn_zip ivp ivq ?_) fun D acc c4 s4 g4 h4 o4 n4 => ?_
  · intro p1 Cc mC s5 E5 n5 k5 u5 t5 Q5 hn5 hk5 hx5 hy5 C5 kk
    have := bp n5 hn5
    have := bq k5 hk5
    refine wpAny_BinOp (wpAny_BinOp (C5.nameE hx5 (C5.nameE hy5 (sub_int ?_))))
    have C6 := C5.tok 1
    exact wpAny_BinOp (C6.nameE hx5 (C6.nameE hy5 (sub_int (mul_int (kk _ 3) (hm := .of_left (intBits_lt (by lia  )))))))
  have e4 : IV acc (List.zipWith (fun a b => (a - b) * (a - b)) (places xs) (places ys)) := by
    have e : vp.length = xs.length := by rw [ivp.len, places_len]
    have h5 : IV acc (List.zipWith (fun a b => (a - b) * (a - b)) ((places xs).take vp.length) ((places ys).take vp.length)) := h4
    rwa [e, List.take_of_length_le (by rw [places_len]; exact Nat.le_refl _), List.take_of_length_le (by rw [places_len]; lia  )] at h5
  have C10 := C9.call g4
  refine args_nil (sumL o4.at_ e4 hh' fun s011 t11 hk11 => ?_)
  have C11 := C10.grown hk11
  have b3 : Builtin.Int.intBits (3 : Int) ≤ 64 := by decide
  refine mul_int (sub_int ?_) (hm := .of_left b3)
  have C12 := C11.tok 2
  refine args_cons (C12.nameE mW (args_nil ⟨C12.st.X G, ?_⟩))
  have bd' : (difI (places xs) (places ys)).natAbs ≤ 2 ^ 24 := bd
  have e5 : (List.zipWith (fun a b => (a - b) * (a - b)) (places xs) (places ys)).sum = difI (places xs) (places ys) := rfl
  rw [e5]
  refine near_spec G F C12.st hair ?_ ?_ hup (by show A.depth + 1 < _; lia  ) hh' fun s13 g13 => ?_
  · omega
  · lia
  · rw [hnear nx ny]
    exact kT _ (C12.call g13).go
end
end Mine
end
section
set_option maxRecDepth 100000
set_option autoImplicit false
namespace Mine
open PySem PySem.W PySem.Calls PyProof.Rows PySem.Spec

section
variable {K : Frag} {a : Adr} {b : Ad2} {H0 : Heap} {mg mb : Str → Option Value} {A : Around} {l : List Env} {s : Shared} {prog : Program} {w : World} {E : Value → Shared → Prop}
theorem hold_c (G : Gl K H0 mg mb) (F : KG K b) {L : Addr} {cdv : Value} {s1 : Shared} {xl yl pl ql : Addr} {vx vy vp vq : List Value} {xs ys : List Int} {ex ey cp cq : Nat} {tn tr : Tok} {m : Str → Option Value} {r : UInt64}
    (C : Cx H0 (A.deeper (eHold L b.hold cdv)) (eHold L b.hold cdv :: l) [] s L m (ledH L xl yl pl ql vx vy vp vq ex ey cp cq (xs.length : Int) tn) s1)
    (mp : m "p" = some (.ref pl)) (mq : m "q" = some (.ref ql)) (mt : m "told" = some (.float r tr)) (hre : corrF (rankD xs) (rankD ys) = some r) (ivp : IV vp (places xs)) (ivq : IV vq (places ys))
    (ivx : IV vx xs) (ivy : IV vy ys) (hlen : xs.length = ys.length) (h2 : 2 ≤ xs.length) (h3 : xs.length < 64) (nk : NumOk3 xs ys) (hroom : A.depth + 20 < recursionLimit) (hu : A.units + 100 < cLine) (hh : A.handled = none) {Q : Flow → Shared → Prop}
    (kT : ∀ s', Go H0 [] s s' → Q (.ret (.bool true)) s') :
    wpAny (model prog w) (A.deeper (eHold L b.hold cdv)) (execs (dHold.2.1.drop 10) (eHold L b.hold cdv)) Q E s1 := by
  have hh' : (A.deeper (eHold L b.hold cdv)).handled = none := hh
  obtain ⟨up, down, hair, hup, hdown, hsgn, hclose, hnear⟩ := nk.ok r hre
  have bp := place_bound (ns := xs) h3
  have bq := place_bound (ns := ys) (by lia  )
  have lp : (places xs).length < 64 := by rw [places_len]; exact h3
  have lq : (places ys).length < 64 := by rw [places_len]; lia
  have bj := joint_bound h3 bp bq lp
  have bs1 := spr_bound h3 bp lp
  have bs2 := spr_bound (n := xs.length) h3 bq lq
  have bd := dif_bound bp bq lp
  -- up, down
  refine wpAny_execs_cons (Assign_Tuple (MethodCall_ (C.nameE mt (getMethod_air (callWith_method0 (C.air hair fun ad u v s2 C2 _ => ?_))))))
  refine C2.unpackE 0 rfl hh' (fun s3 C3' => ?_) rfl rfl rfl rfl
  have C3 := C3'.drop (ledH L xl yl pl ql vx vy vp vq ex ey cp cq (xs.length : Int) tn) (.cons _ (List.Sublist.refl _))
  have mup : ∀ {y : Str} {v0 : Value}, y ≠ "down" → y ≠ "up" → m y = some v0 → (updM (updM m (Str.ofString "up") (Value.int up u)) (Str.ofString "down") (Value.int (down : Int) v)) y = some v0 := fun h1 h2 h => by
    show (if _ = _ then _ else if _ = _ then _ else _) = _
    rw [if_neg h1, if_neg h2]; exact h
  have mp3 := mup (y := "p") (by decide) (by decide) mp
  have mq3 := mup (y := "q") (by decide) (by decide) mq
  have mt3 := mup (y := "told") (by decide) (by decide) mt
  have mu3 : (updM (updM m (Str.ofString "up") (Value.int up u)) (Str.ofString "down") (Value.int (down : Int) v)) "up" = some (.int up u) := rfl
  have md3 : (updM (updM m (Str.ofString "up") (Value.int up u)) (Str.ofString "down") (Value.int (down : Int) v)) "down" = some (.int (down : Int) v) := rfl
  clear C C2 C3'
  generalize (updM (updM m (Str.ofString "up") (Value.int up u)) (Str.ofString "down") (Value.int (down : Int) v)) = m3 at C3 mp3 mq3 mt3 mu3 md3
  -- joint
  refine wpAny_execs_cons (wpAny_Assign_Name (Call_ (C3.bootE G F.nsum Boot.«sum» (PyProof.Rows.callWith_builtin1 (args_cons ?_)))))
  refine C3.zipComp (P := fun i acc _ => IV acc (List.zipWith (fun a b => (a - (xs.length : Int)) * (b - (xs.length : Int))) ((places xs).take i) ((places ys).take i))) G F.nzip2 1 0 mp3 mq3 rfl rfl (by rw [ivp.len, ivq.len, places_len, places_len]; exact hlen) (by rw [ivp.len]; lia  ) (by decide) hh' (fun _ _ _ _ h _ => h) (fun _ => IV.nil)
    (fun D Cc => turn_zip ivp ivq ?_) fun D acc c4 s4 g4 h4 o4 n4 => ?_
  · intro p1 Cc mC s5 E5 n5 k5 u5 t5 Q5 hn5 hk5 hx5 hy5 C5 kk
    have := bp n5 hn5
    have := bq k5 hk5
    refine wpAny_BinOp (wpAny_BinOp (C5.nameE hx5 (C5.ldCell 3 rfl rfl (sub_int ?_))))
    have C6 := C5.tok 1
    exact wpAny_BinOp (C6.nameE hy5 (C6.ldCell 3 rfl rfl (sub_int (mul_int (kk _ 3)))))
  have e4 : IV acc (List.zipWith (fun a b => (a - (xs.length : Int)) * (b - (xs.length : Int))) (places xs) (places ys)) := by
    have e : vp.length = xs.length := by rw [ivp.len, places_len]
    have h5 : IV acc (List.zipWith (fun a b => (a - (xs.length : Int)) * (b - (xs.length : Int))) ((places xs).take vp.length) ((places ys).take vp.length)) := h4
    rwa [e, List.take_of_length_le (by rw [places_len]; exact Nat.le_refl _), List.take_of_length_le (by rw [places_len]; lia  )] at h5
  have C4 := C3.call g4
  refine args_nil (sumL o4.at_ e4 hh' fun s05 t5 hk5 => ?_)
  refine (C4.grown hk5).setE fun s6 C6 => ?_
  -- spread
  have mp6 : (updM m3 (Str.ofString "joint") (Value.int (jointI xs.length (places xs) (places ys)) t5)) "p" = some (.ref pl) := by show (if _ = _ then _ else _) = _; rw [if_neg (by decide)]; exact mp3
  have mq6 : (updM m3 (Str.ofString "joint") (Value.int (jointI xs.length (places xs) (places ys)) t5)) "q" = some (.ref ql) := by show (if _ = _ then _ else _) = _; rw [if_neg (by decide)]; exact mq3
  have mt6 : (updM m3 (Str.ofString "joint") (Value.int (jointI xs.length (places xs) (places ys)) t5)) "told" = some (.float r tr) := by show (if _ = _ then _ else _) = _; rw [if_neg (by decide)]; exact mt3
  have mu6 : (updM m3 (Str.ofString "joint") (Value.int (jointI xs.length (places xs) (places ys)) t5)) "up" = some (.int up u) := by show (if _ = _ then _ else _) = _; rw [if_neg (by decide)]; exact mu3
  have md6 : (updM m3 (Str.ofString "joint") (Value.int (jointI xs.length (places xs) (places ys)) t5)) "down" = some (.int (down : Int) v) := by show (if _ = _ then _ else _) = _; rw [if_neg (by decide)]; exact md3
  have mj6 : (updM m3 (Str.ofString "joint") (Value.int (jointI xs.length (places xs) (places ys)) t5)) "joint" = some (.int (jointI xs.length (places xs) (places ys)) t5) := rfl
  have C6' : Cx H0 (A.deeper (eHold L b.hold cdv)) (eHold L b.hold cdv :: l) [] s L (updM m3 (Str.ofString "joint") (Value.int (jointI xs.length (places xs) (places ys)) t5)) (ledH L xl yl pl ql vx vy vp vq ex ey cp cq (xs.length : Int) tn) s6 := C6
  clear C3 C4 C6
  generalize (updM m3 (Str.ofString "joint") (Value.int (jointI xs.length (places xs) (places ys)) t5)) = m6 at C6' mp6 mq6 mt6 mu6 md6 mj6
  refine wpAny_execs_cons (wpAny_Assign_Name (wpAny_BinOp (Call_ (C6'.bootE G F.nsum Boot.«sum» (PyProof.Rows.callWith_builtin1 (args_cons ?_))))))
  refine C6'.mapComp (f := fun a => (a - (xs.length : Int)) * (a - (xs.length : Int))) 1 (fun Q h => C6'.nameE mp6 h) rfl ivp (by lia  ) hh' (fun p1 p2 Cc mC s7 E7 n7 u7 Q7 hn7 hm7 C7 k7 => ?_) fun D8 acc8 c8 s8 g8 iv8 o8 n8 => ?_
  · have := bp n7 hn7
    refine wpAny_BinOp (wpAny_BinOp (C7.nameE hm7 (C7.ldCell 4 rfl rfl (sub_int ?_))))
    have C8 := C7.tok 1
    exact wpAny_BinOp (C8.nameE hm7 (C8.ldCell 4 rfl rfl (sub_int (mul_int (k7 _ 3)))))
  have C8 := C6'.call g8
  refine args_nil (sumL o8.at_ iv8 hh' fun s09 t9 hk9 => ?_)
  have C9 := C8.grown hk9
  refine Call_ (C9.bootE G F.nsum Boot.«sum» (PyProof.Rows.callWith_builtin1 (args_cons ?_)))
  refine C9.mapComp (f := fun a => (a - (xs.length : Int)) * (a - (xs.length : Int))) 0 (fun Q h => C9.nameE mq6 h) rfl ivq (by lia  ) hh' (fun p1 p2 Cc mC s7 E7 n7 u7 Q7 hn7 hm7 C7 k7 => ?_) fun D10 acc10 c10 s10 g10 iv10 o10 n10 => ?_
  · have := bq n7 hn7
    refine wpAny_BinOp (wpAny_BinOp (C7.nameE hm7 (C7.ldCell 4 rfl rfl (sub_int ?_))))
    have C8 := C7.tok 1
    exact wpAny_BinOp (C8.nameE hm7 (C8.ldCell 4 rfl rfl (sub_int (mul_int (k7 _ 3)))))
  have C10 := C9.call g10
  refine args_nil (sumL o10.at_ iv10 hh' fun s011 t11 hk11 => ?_)
  have C11 := C10.grown hk11
  have bs1' : ((places xs).map fun a => (a - (xs.length : Int)) * (a - (xs.length : Int))).sum.natAbs ≤ 2 ^ 24 := bs1
  have bs2' : ((places ys).map fun a => (a - (xs.length : Int)) * (a - (xs.length : Int))).sum.natAbs ≤ 2 ^ 24 := bs2
  refine mul_int ?_
  refine (C11.tok 1).setE fun s12 C12 => ?_
  have hS : sprI xs.length (places xs) * sprI xs.length (places ys) = ((places xs).map fun a => (a - (xs.length : Int)) * (a - (xs.length : Int))).sum * ((places ys).map fun a => (a - (xs.length : Int)) * (a - (xs.length : Int))).sum := rfl
  rw [← hS] at C12
  obtain ⟨m12, C13, mS, mo⟩ := C12.named
  have mp13 := (mo "p" (by decide)).trans mp6
  have mq13 := (mo "q" (by decide)).trans mq6
  have mt13 := (mo "told" (by decide)).trans mt6
  have mu13 := (mo "up" (by decide)).trans mu6
  have md13 := (mo "down" (by decide)).trans md6
  have mj13 := (mo "joint" (by decide)).trans mj6
  exact hold_d (ys := ys) G F C13 mp13 mq13 mt13 mu13 md13 mj13 mS hup hdown bj (Nat.le_trans (mul_bound bs1 bs2) (by decide)) hsgn hclose hh fun m' s' mp' mq' mt' C' =>
    hold_e G F C' mp' mq' mt' ivp ivq ivx ivy hlen h2 h3 hair hup hnear hroom hh kT
end
end Mine
end
section
set_option maxRecDepth 100000
set_option autoImplicit false
namespace Mine
open PySem PySem.W PySem.Calls PyProof.Rows PySem.Spec

structure AllOk (xs ys : List Int) : Prop where
  n1 : NumOk xs ys
  n2 : NumOk2 xs ys
  n3 : NumOk3 xs ys
section
variable {K : Frag} {a : Adr} {b : Ad2} {H0 : Heap} {mg mb : Str → Option Value} {A : Around} {l : List Env} {s : Shared} {prog : Program} {w : World} {E : Value → Shared → Prop}
theorem holds_spec (G : Gl K H0 mg mb) (FF : KF K a) (F : KG K b) (hr : b.rank = a.rank) (S : St H0 A l s) {xl yl : Addr} {vx vy : List Value} {xs ys : List Int} {ex ey : Nat} (hxl : Okk s.heap (xl, lstO vx ex)) (hyl : Okk s.heap (yl, lstO vy ey)) (hne : xl ≠ yl)
    (ivx : IV vx xs) (ivy : IV vy ys) (KLx : KeyL intKey vx) (KLy : KeyL intKey vy) (hlen : xs.length = ys.length) (h2 : 2 ≤ xs.length) (h3 : xs.length < 64) (nk : AllOk xs ys) (hroom : A.depth + 20 < recursionLimit) (hu : A.units + 100 < cLine) (hh : A.handled = none) {Q : Value → Shared → Prop}
    (k : ∀ s', Go H0 [] s s' → Q (.bool true) s') : wpAny (model prog w) A (call (.ref b.hold) [.ref xl, .ref yl]) Q E s := by
  refine wpAny_call (enterCX G S F.hold [] (by lia  ) (by intro n; show ([Str.ofString "n", Str.ofString "y", Str.ofString "x"] : List Str).Nodup; decide) fun name doc pm an cdv ct E' => wpAny_of_eq (a := [(Str.ofString "x", .ref xl), (Str.ofString "y", .ref yl)]) rfl ⟨fun _ _ h => h, Nat.le_refl _, rfl, rfl, fun n x hx => ?_, [(xl, lstO vx ex), (yl, lstO vy ey)], fun p hp => ?_, by simp [hne], fun L cdv s1 hcd C hnw => ?_⟩)
  · rcases List.mem_cons.mp hx with rfl | hx
    · exact .inr ⟨rfl, rfl⟩
    · rw [List.mem_singleton.mp hx]; exact .inr ⟨rfl, rfl⟩
  · rcases List.mem_cons.mp hp with rfl | hp
    · exact hxl
    · rw [List.mem_singleton.mp hp]; exact hyl
  have C1 : Cx H0 (A.deeper (eHold L b.hold cdv)) (eHold L b.hold cdv :: l) [] s L (fun _ => none) [(L + 3, cellO none), (L + 2, cellO (some (.ref yl))), (L + 1, cellO (some (.ref xl))), (xl, lstO vx ex), (yl, lstO vy ey)] s1 := C
  have hc := hnw ("n", L + 3) (.head _)
  refine hold_a G FF F hr C1 hne hc ivx ivy KLx KLy hlen h2 h3 nk.n1 hroom hu hh fun m pl ql vp vq cp cq tn v s' mp mq mt hv ip iq hpq C2 => ?_
  refine hold_b G FF F hr C2 mp mq mt hv ip iq hpq ivx ivy KLy hlen h2 h3 nk.n2 hroom hu hh (fun s' g => k s' g) fun r t m' s' hre mp' mq' mt' C3 => ?_
  exact hold_c G F C3 mp' mq' mt' hre ip iq ivx ivy hlen h2 h3 nk.n3 hroom hu hh (fun s' g => k s' g)
end
end Mine
end
section
set_option maxRecDepth 100000
set_option autoImplicit false
namespace Mine
open PySem PySem.W PySem.Calls PyProof.Rows PySem.Spec

noncomputable def lawNs (ns : List Int) : List Int := if (ns.take 63).length < 4 then ns ++ [2, 0, 3, 7] else ns.take 63
noncomputable def lawN (ns : List Int) : Nat := (lawNs ns).length / 2
noncomputable def lawX (ns : List Int) : List Int := (lawNs ns).take (lawN ns)
noncomputable def lawY (ns : List Int) : List Int := ((lawNs ns).drop (lawN ns)).take (lawN ns)
theorem lawNs_len (ns : List Int) : 4 ≤ (lawNs ns).length ∧ (lawNs ns).length ≤ 63 := by
  unfold lawNs
  split
  · rename_i h
    rw [List.length_take] at h
    rw [List.length_append]
    simp only [List.length_cons, List.length_nil]
    lia
  · rename_i h
    have := List.length_take_le 63 ns
    lia
theorem lawX_len (ns : List Int) : (lawX ns).length = lawN ns := by
  have := lawNs_len ns
  unfold lawX lawN; rw [List.length_take]; (clear this; lia)
theorem lawY_len (ns : List Int) : (lawY ns).length = lawN ns := by
  have := lawNs_len ns
  unfold lawY lawN; rw [List.length_take, List.length_drop]; (clear this; lia)
theorem lawN_le (ns : List Int) : 2 ≤ lawN ns ∧ lawN ns ≤ 31 := by
  have := lawNs_len ns
  unfold lawN; lia

theorem IV.sub {vs : List Value} {ns : List Int} (h : IV vs ns) (i : Nat) : IV (vs.take i) (ns.take i) ∧ IV (vs.drop i) (ns.drop i) := by
  refine ⟨⟨by simp [h.len], fun j n hn => ?_⟩, ⟨by simp [h.len], fun j n hn => ?_⟩⟩
  · rw [List.getElem?_take] at hn ⊢
    split at hn
    · rename_i hj; rw [if_pos hj]; exact h.at_ j n hn
    · cases hn
  · rw [List.getElem?_drop] at hn ⊢
    exact h.at_ _ n hn
theorem FreshI.take {vs : List Value} {ns : List Int} {tk : Nat} (h : FreshI vs ns tk) (i : Nat) : FreshI (vs.take i) (ns.take i) tk := ⟨(h.iv.sub i).1, fun v hv => h.lt v (List.mem_of_mem_take hv), h.ne.sublist (List.take_sublist i vs)⟩
theorem FreshI.drop {vs : List Value} {ns : List Int} {tk : Nat} (h : FreshI vs ns tk) (i : Nat) : FreshI (vs.drop i) (ns.drop i) tk := ⟨(h.iv.sub i).2, fun v hv => h.lt v (List.mem_of_mem_drop hv), h.ne.sublist (List.drop_sublist i vs)⟩

section
variable {H0 : Heap} {A : Around} {l : List Env} {M : List Addr} {sE : Shared} {L : Addr} {m : Str → Option Value} {led : List (Addr × Obj)} {s : Shared} {prog : Program} {w : World} {E : Value → Shared → Prop} {env : Env}
theorem Cx.sliceL (C : Cx H0 A l M sE L m led s) {value slice : Expr} {a : Addr} {vs ws : List Value} {c : Nat} {vl vu : Value} {lo hi : Option Int} {Q : Value → Shared → Prop} (hl : s.heap.get? a = some (lstO vs c)) (pl : IsPart vl lo) (pu : IsPart vu hi) (hw : slicePick vs.toArray lo hi none = ws.toArray) (hz : vs.length ≤ 1000)
    (k : ∀ D s', Cx H0 A l M sE L m ((D, lstO ws) :: led) s' → Nw H0 sE D → s.toks ≤ s'.toks → Q (.ref D) s')
    (hs : subscripted slice false (.ref a) (.ref s.heap.objs.size) = operate [.ref s.heap.objs.size, .ref a] (getItem (.ref a) (.ref s.heap.objs.size)) := by with_unfolding_all rfl)
    (ht : ∀ r, letTemporaryGo value (.ref a) r = pure () := by intro _; with_unfolding_all rfl) :
    wpAny (model prog w) A (subscriptTail value slice (.ref a) (.ref s.heap.objs.size)) Q E { s with heap := s.heap.push { cls := .type "slice", data := .fields #[vl, vu, .none] } } := by
  refine slice_listK (isl hl) pl pu ?_ hs ht (by rw [List.size_toArray, sizeLine_eq]; lia  )
  rw [hw]
  have C1 := C.push (s := s) { cls := .type "slice", data := .fields #[vl, vu, .none] } rfl nd_fields rfl
  have C2 := C1.push (lstO ws) rfl nd_seq rfl
  have hn : s.heap.get? (s.heap.objs.size + 1) = none := none_ge (Nat.le_succ _)
  have C3 : Cx H0 A l M sE L m ((s.heap.objs.size + 1, lstO ws) :: led) { s with heap := (s.heap.push { cls := .type "slice", data := .fields #[vl, vu, .none] }).push (lstO ws) } := by
    have e : (s.heap.push { cls := .type "slice", data := .fields #[vl, vu, .none] }).objs.size = s.heap.objs.size + 1 := Heap.size_push ..
    have := C2.drop ((((s.heap.push { cls := .type "slice", data := .fields #[vl, vu, .none] }).objs.size, lstO ws)) :: led) (.cons_cons _ (.cons _ (List.Sublist.refl _)))
    rw [e] at this
    exact this
  exact k _ _ C3 (C.noE hn) (Nat.le_refl _)
end
end Mine
end
section
set_option maxRecDepth 100000
set_option autoImplicit false
namespace Mine
open PySem PySem.W PySem.Calls PyProof.Rows PySem.Spec

theorem Cx.setT {H0 : Heap} {A : Around} {l : List Env} {M : List Addr} {sE : Shared} {L : Addr} {m : Str → Option Value} {led : List (Addr × Obj)} {s : Shared} {prog : Program} {w : World} {E : Value → Shared → Prop} {env : Env} (C : Cx H0 A l M sE L m led s) {x : Str} {v : Value} {Q : Unit → Shared → Prop}
    (h : ∀ s' m', Cx H0 A l M sE L m' led s' → m' x = some v → (∀ y, y ≠ x → m' y = m y) → s.toks ≤ s'.toks → Q () s')
    (hL : env.locals = L := by rfl) (hl : env.kindOf x = some .local := by rfl) (hp : (env.scope.kind == .class || (env.scope.kind == .module && env.locals != env.globals)) = false := by rfl) : wpAny (model prog w) A (storeName env x v) Q E s :=
  C.mark.setE (fun s' C' => h s' _ (Cx.unmark (sE := sE) (n := s.toks) C' C.go.toks) (if_pos rfl) (fun y hy => if_neg hy) C'.go.toks) hL hl hp
section
variable {K : Frag} {a : Adr} {b : Ad2} {H0 : Heap} {mg mb : Str → Option Value} {A : Around} {l : List Env} {s : Shared} {prog : Program} {w : World} {E : Value → Shared → Prop}
noncomputable abbrev eLaw (L f : Addr) (cdv : Value) : Env := envOf "law" dLaw.2.2 L f cdv
theorem law_rest (G : Gl K H0 mg mb) (FF : KF K a) (F : KG K b) (hr : b.rank = a.rank) {L : Addr} {cdv : Value} {s1 : Shared} {m : Str → Option Value} {led : List (Addr × Obj)} {nl : Addr} {nv : List Value} {cn : Nat} {zs : List Int} {N : Nat}
    (C : Cx H0 (A.deeper (eLaw L b.law cdv)) (eLaw L b.law cdv :: l) [] s L m ((nl, lstO nv cn) :: led) s1) (mn : m "numbers" = some (.ref nl)) (fr : FreshI nv zs s1.toks) (h4 : 4 ≤ zs.length) (h63 : zs.length ≤ 63) (hN : N = zs.length / 2)
    (hT1 : AllOk (zs.take N) ((zs.drop N).take N)) (hT2 : AllOk ((zs.take N).map fun v => v.fmod 5) (((zs.drop N).take N).map fun v => v.fmod 3))
    (hroom : A.depth + 30 < recursionLimit) (hu : A.units + 200 < cLine) (hh : A.handled = none) {Q : Flow → Shared → Prop}
    (kT : ∀ s', Go H0 [] s s' → Q (.ret (.bool true)) s') :
    wpAny (model prog w) (A.deeper (eLaw L b.law cdv)) (execs (dLaw.2.1.drop 2) (eLaw L b.law cdv)) Q E s1 := by
  have hh' : (A.deeper (eLaw L b.law cdv)).handled = none := hh
  have hlv : nv.length = zs.length := fr.iv.len
  have hsz : nv.toArray.size = zs.length := by rw [List.size_toArray]; exact hlv
  -- n
  refine wpAny_execs_cons (wpAny_Assign_Name (wpAny_BinOp (Call_ (C.bootE G F.nlen2 Boot.«len» (PyProof.Rows.callWith_builtin1 (args_cons (C.nameE mn (args_nil (PyProof.Rows.len_list ⟨_, C.at 0 rfl, rfl, cn, rfl⟩ (by rw [hsz]; lia  ) ?_)))))))))
  refine wpAny_Constant_int (floordiv_int (by decide) ?_)
  rw [hsz]
  have eN : (zs.length : Int).fdiv 2 = (N : Int) := by rw [hN]; rw [Int.fdiv_eq_ediv_of_nonneg _ (by decide)]; lia
  rw [eN]
  refine (C.tok 4).setT fun s2 m2 C2 mN mo2 t2 => ?_
  have mn2 := (mo2 "numbers" (by decide)).trans mn
  have fr2 : FreshI nv zs s2.toks := fr.mono (Nat.le_trans (Nat.le_add_right _ 4) t2)
  clear C
  -- x
  refine wpAny_execs_cons (wpAny_Assign_Name (Subscript_ (C2.nameE mn2 (wpAny_Slice ?_))))
  refine wpAny_pure ?_
  show wpAny _ _ (eval _ _) _ _ _
  refine C2.nameE mN (wpAny_pure ?_)
  refine C2.sliceL (ws := nv.take N) (C2.at 0 rfl) .none (.int _ _) (by rw [slicePick_upto']) (by lia  ) fun xl s3 C3 n3 t3 => ?_
  refine C3.setT fun s4 m4 C4 mx mo4 t4 => ?_
  have mn4 := (mo4 "numbers" (by decide)).trans mn2
  have mN4 := (mo4 "n" (by decide)).trans mN
  have fr4 : FreshI nv zs s4.toks := fr2.mono (Nat.le_trans t3 t4)
  clear C2 C3
  -- y
  refine wpAny_execs_cons (wpAny_Assign_Name (Subscript_ (C4.nameE mn4 (wpAny_Slice ?_))))
  show wpAny _ _ (eval _ _) _ _ _
  refine C4.nameE mN4 ?_
  show wpAny _ _ (eval _ _) _ _ _
  refine wpAny_BinOp (wpAny_Constant_int ((C4.tok 1).nameE mN4 (mul_int (wpAny_pure ?_) (hm := .of_left (intBits_lt (by decide))))))
  refine (C4.tok 2).sliceL (ws := (nv.drop N).take N) (C4.at 1 rfl) (.int _ _) (.int _ _) ?_ (by lia  ) fun yl s5 C5 n5 t5 => ?_
  · have e2 : (2 * (N : Int)) = ((2 * N : Nat) : Int) := by push_cast; rfl
    rw [e2, slicePick_run _ N (2 * N) (by rw [hsz]; lia  ) (by lia  )]
    rw [show 2 * N - N = N by lia  ]
  refine C5.setT fun s6 m6 C6 my mo6 t6 => ?_
  have mx6 := (mo6 "x" (by decide)).trans mx
  have fr6 : FreshI nv zs s6.toks := fr4.mono (Nat.le_trans (Nat.le_trans (Nat.le_add_right _ 2) t5) t6)
  clear C4 C5
  have frx := fr6.take N
  have fry := (fr6.drop N).take N
  have hxy : yl ≠ xl := C6.ne (i := 0) (j := 1) rfl rfl
  have lx : (zs.take N).length = N := by rw [List.length_take]; lia
  have ly : ((zs.drop N).take N).length = N := by rw [List.length_take, List.length_drop]; lia
  refine wpAny_execs_cons (wpAny_Return_some (BoolOp_and (Call_ (C6.globalE G F.nhold (callWith_K (C6.st.X G) F.khold (args_cons (C6.nameE mx6 (args_cons (C6.nameE my (args_nil ⟨C6.st.X G, ?_⟩))))))))))
  refine holds_spec G FF F hr C6.st (C6.ok 1 rfl) (C6.ok 0 rfl) (Ne.symm hxy) frx.iv fry.iv frx.key fry.key (by rw [lx, ly]) (by rw [lx]; lia  ) (by rw [lx]; lia  ) hT1 (by show A.depth + 1 + 20 < _; lia  ) (by show A.units + 3 + 100 < _; lia  ) hh' fun s7 g7 => ?_
  have C7 := C6.call g7
  refine wpAny_truthy_bool ?_
  refine ite_yes' rfl ?_
  refine BoolOp_one (Call_ (C7.globalE G F.nhold (callWith_K (C7.st.X G) F.khold (args_cons ?_))))
  refine C7.freshComp (f := fun v => v.fmod 5) 1 (fun Q h => C7.nameE mx6 h) rfl frx.iv (by rw [lx]; lia  ) hh' (fun p1 p2 Cc mC s8 E8 n8 u8 Q8 hm8 C8 k8 => ?_) fun D8 acc8 c8 s8 g8 fr8 o8 n8 => ?_
  · exact wpAny_BinOp (C8.nameE hm8 (wpAny_Constant_int (mod_int (by decide) (k8 _ 2 (Nat.le_succ _) (Nat.lt_succ_self _)))))
  have C8 := C7.addNew g8 o8 n8 rfl
  refine args_cons (C8.freshComp (f := fun v => v.fmod 3) 1 (fun Q h => C8.nameE my h) rfl fry.iv (by rw [ly]; lia  ) hh' (fun p1 p2 Cc mC s9 E9 n9 u9 Q9 hm9 C9 k9 => ?_) fun D9 acc9 c9 s9 g9 fr9 o9 n9 => args_nil ?_)
  · exact wpAny_BinOp (C9.nameE hm9 (wpAny_Constant_int (mod_int (by decide) (k9 _ 2 (Nat.le_succ _) (Nat.lt_succ_self _)))))
  have C9 := C8.addNew g9 o9 n9 rfl
  refine ⟨C9.st.X G, ?_⟩
  refine holds_spec G FF F hr C9.st (C9.ok 1 rfl) (C9.ok 0 rfl) (Ne.symm (C9.ne (i := 0) (j := 1) rfl rfl)) fr8.iv fr9.iv fr8.key fr9.key (by rw [List.length_map, List.length_map, lx, ly]) (by rw [List.length_map, lx]; lia  ) (by rw [List.length_map, lx]; lia  ) hT2 (by show A.depth + 1 + 20 < _; lia  ) (by show A.units + 3 + 100 < _; lia  ) hh' fun s10 g10 => ?_
  exact kT _ (C9.call g10).go
end
end Mine
end
section
set_option maxRecDepth 100000
set_option autoImplicit false
namespace Mine
open PySem PySem.W PySem.Calls PyProof.Rows PySem.Spec

noncomputable def FloatsOk : Prop := ∀ xs ys : List Int, xs.length = ys.length → 2 ≤ xs.length → xs.length ≤ 31 → AllOk xs ys
section
variable {K : Frag} {a : Adr} {b : Ad2} {H0 : Heap} {mg mb : Str → Option Value} {A : Around} {l : List Env} {s : Shared} {prog : Program} {w : World} {E : Value → Shared → Prop}
theorem law_spec (hT : FloatsOk) (G : Gl K H0 mg mb) (FF : KF K a) (F : KG K b) (hr : b.rank = a.rank) (S : St H0 A l s) {sl : Addr} {vs : List Value} {c : Nat} {ns : List Int} (hs : Okk s.heap (sl, lstO vs c)) (fr : FreshI vs ns s.toks) (hle : ns.length ≤ 1000)
    (hroom : A.depth + 30 < recursionLimit) (hu : A.units + 200 < cLine) (hh : A.handled = none) {R : Result → Shared → Prop}
    (k : ∀ s', Go H0 [] s s' → R (.ok (.ret (.bool true))) s') : codeAny (model prog w) A (.call (.ref b.law) ⟨[.ref sl], []⟩) R s := by
  refine enterF (binds := [(Str.ofString "script", .ref sl)]) G S F.law [] [(sl, lstO vs c)] (fun p hp => by rw [List.mem_singleton.mp hp]; exact hs) (by simp) (by lia  ) (fun _ _ _ _ _ _ => BindsTo.of_eq rfl) (by decide) (locs rfl) fun L cdv s1 _ C => ?_
  have hh' : (A.deeper (eLaw L b.law cdv)).handled = none := hh
  have fr1 : FreshI vs ns s1.toks := fr.mono C.go.toks
  have hlv : vs.length = ns.length := fr.iv.len
  refine wpAny_execs_cons (wpAny_Assign_Name (Subscript_ (C.nameE rfl (wpAny_Slice ?_))))
  refine wpAny_pure ?_
  show wpAny _ _ (eval _ _) _ _ _
  refine wpAny_Constant_int (wpAny_pure ?_)
  refine (C.tok 1).sliceL (ws := vs.take 63) (C.at 0 rfl) .none (.int _ _) (slicePick_upto' _ 63) (by lia  ) fun nl s2 C2 n2 t2 => ?_
  refine C2.setT fun s3 m3 C3 mn mo3 t3 => ?_
  have ms3 := (mo3 "script" (by decide)).trans (show (fun x => List.lookup x [(Str.ofString "script", Value.ref sl)].reverse) (Str.ofString "script") = some (.ref sl) from rfl)
  have fr3 : FreshI vs ns s3.toks := fr1.mono (Nat.le_trans (Nat.le_trans (Nat.le_add_right _ 1) t2) t3)
  clear C C2
  have hlt : (vs.take 63).toArray.size = (ns.take 63).length := by rw [List.size_toArray, List.length_take, List.length_take, hlv]
  refine wpAny_execs_cons (wpAny_If (wpAny_isTrue_Compare1 (Call_ (C3.bootE G F.nlen2 Boot.«len» (PyProof.Rows.callWith_builtin1 (args_cons (C3.nameE mn (args_nil (PyProof.Rows.len_list ⟨_, C3.at 0 rfl, rfl, 0, rfl⟩ (by rw [hlt, List.length_take]; lia  ) ?_)))))))))
  refine wpAny_Constant_int (PySem.P.lt_int (wpAny_truthy_bool ?_))
  rw [hlt]
  have C4 := C3.tok 3
  by_cases h4 : (ns.take 63).length < 4
  · refine ite_yes' (decide_eq_true (by lia  )) ?_
    have hl4 : ns.length < 4 := by rw [List.length_take] at h4; lia
    have eL : lawNs ns = ns ++ [2, 0, 3, 7] := by unfold lawNs; rw [if_pos h4]
    refine wpAny_execs_cons (wpAny_Assign_Name (wpAny_BinOp (C4.nameE ms3 (lst_made ?_))))
    refine args_cons (wpAny_Constant_int (args_cons (wpAny_Constant_int (args_cons (wpAny_Constant_int (args_cons (wpAny_Constant_int (args_nil ⟨_, _, _, _, _, _, _, _, (C4.tok 4).mark, by rw [sizeLine_eq]; show 4 ≤ _; decide, fun cl s5 C5 n5 n5' => ?_⟩))))))))
    have t5 : s3.toks + 3 + 4 ≤ s5.toks := C5.go.toks
    have C6 := C5.unmark (sE := s) (n := s3.toks + 3 + 4) (C4.tok 4).go.toks
    refine C6.mark.addL (C6.at 2 rfl) (C6.at 0 rfl) (by rw [hlv]; show _ + 4 ≤ _; lia  ) fun D s6 C7' => ?_
    have t6 : s5.toks ≤ s6.toks := C7'.go.toks
    have C7 := C7'.unmark (sE := s) (n := s5.toks) C6.go.toks
    refine C7.setT fun s8 m8 C8 mn8 mo8 t8 => wpAny_execs_nil ?_
    have pos : 0 < s3.toks := C3.st.toks
    have f0 : FreshI vs ns (s3.toks + 3) := fr3.mono (Nat.le_add_right _ 3)
    have f1 := f0.snoc 2 (s3.toks + 3) (Nat.lt_of_lt_of_le pos (Nat.le_add_right _ 3)) (Nat.le_refl _) (Nat.lt_succ_self _)
    have f2 := f1.snoc 0 (s3.toks + 3 + 1) (Nat.succ_pos _) (Nat.le_refl _) (Nat.lt_succ_self _)
    have f3 := f2.snoc 3 (s3.toks + 3 + 1 + 1) (Nat.succ_pos _) (Nat.le_refl _) (Nat.lt_succ_self _)
    have f4 := f3.snoc 7 (s3.toks + 3 + 1 + 1 + 1) (Nat.succ_pos _) (Nat.le_refl _) (Nat.lt_succ_self _)
    have f5 := f4.mono (b := s8.toks) (Nat.le_trans t5 (Nat.le_trans t6 t8))
    have e1 : ((((vs ++ [Value.int 2 (s3.toks + 3)]) ++ [Value.int 0 (s3.toks + 3 + 1)]) ++ [Value.int 3 (s3.toks + 3 + 1 + 1)]) ++ [Value.int 7 (s3.toks + 3 + 1 + 1 + 1)]) = vs ++ [Value.int 2 (s3.toks + 3), Value.int 0 (s3.toks + 3 + 1), Value.int 3 (s3.toks + 3 + 1 + 1), Value.int 7 (s3.toks + 3 + 1 + 1 + 1)] := by simp
    have e2 : ((((ns ++ [(2 : Int)]) ++ [0]) ++ [3]) ++ [7]) = lawNs ns := by rw [eL]; simp
    rw [e1, e2] at f5
    have hb := lawNs_len ns
    have hn := lawN_le ns
    refine law_rest (zs := lawNs ns) (N := lawN ns) G FF F hr C8 mn8 f5 hb.1 hb.2 rfl (hT (lawX ns) (lawY ns) (by rw [lawX_len, lawY_len]) (by rw [lawX_len]; exact hn.1) (by rw [lawX_len]; exact hn.2)) (hT ((lawX ns).map fun v => v.fmod 5) ((lawY ns).map fun v => v.fmod 3) (by rw [List.length_map, List.length_map, lawX_len, lawY_len]) (by rw [List.length_map, lawX_len]; exact hn.1) (by rw [List.length_map, lawX_len]; exact hn.2)) hroom hu hh fun s' g => k s' g
  · refine ite_no' (decide_eq_false (by lia  )) (wpAny_execs_nil ?_)
    have eL : lawNs ns = ns.take 63 := by unfold lawNs; rw [if_neg h4]
    have fr4 := (fr3.take 63).mono (Nat.le_add_right s3.toks 3)
    have hb := lawNs_len ns
    have hn := lawN_le ns
    rw [← eL] at fr4
    refine law_rest (zs := lawNs ns) (N := lawN ns) G FF F hr C4 mn fr4 hb.1 hb.2 rfl (hT (lawX ns) (lawY ns) (by rw [lawX_len, lawY_len]) (by rw [lawX_len]; exact hn.1) (by rw [lawX_len]; exact hn.2)) (hT ((lawX ns).map fun v => v.fmod 5) ((lawY ns).map fun v => v.fmod 3) (by rw [List.length_map, List.length_map, lawX_len, lawY_len]) (by rw [List.length_map, lawX_len]; exact hn.1) (by rw [List.length_map, lawX_len]; exact hn.2)) hroom hu hh fun s' g => k s' g
end
end Mine
end
section
set_option maxRecDepth 100000
set_option autoImplicit false
namespace Mine
open PySem PySem.W PySem.Calls PyProof.Rows PySem.Spec

theorem nob_of {K : Frag} {h : Heap} (X : K.In h) (hn : ∃ mc, h.Ns cStatics mc ∧ mc "sys.int_max_str_digits" = none) (e : nsIn K cStatics sharingNotToldKey = some none) : NoneBooked h := by
  obtain ⟨mc, h1, _⟩ := hn
  exact ⟨mc, h1, ns_none_of X h1 e⟩
theorem lay_fresh {R : WRecords} {cl : Str → Option Addr} {P : Params} {ord : List DictEntry → List DictEntry} : ∀ (ns : List Int) (s : Shared) (r : List Value × Shared), layAllW R cl P ord (ofPys (ns.map PyData.int)) s = some r → 0 < s.toks → ∀ (acc : List Value) (as : List Int), FreshI acc as s.toks → FreshI (acc ++ r.1) (as ++ ns) r.2.toks
  | [], s, r, e, _, acc, as, h => by
    have : layAllW R cl P ord (ofPys (List.map PyData.int [])) s = some ([], s) := by simp [ofPys, layAllW]
    rw [this] at e
    cases e
    simpa using h
  | n :: ns, s, r, e, hp, acc, as, h => by
    simp only [List.map_cons, ofPys, ofPy, layAllW, layW] at e
    cases q : layAllW R cl P ord (ofPys (List.map PyData.int ns)) { s with toks := s.toks + 1 } with
    | none => rw [q] at e; cases e
    | some r' =>
      rw [q] at e
      cases e
      have h1 := h.snoc n s.toks hp (Nat.le_refl _) (Nat.lt_succ_self _)
      have h2 := lay_fresh ns { s with toks := s.toks + 1 } r' q (Nat.succ_pos _) _ _ h1
      simpa using h2
theorem script_fresh {R : WRecords} {w : World} {s₀ s₁ : Shared} {ns : List Int} {a : Addr} {as : List Addr} (L : Laid R w s₀ s₁ [ofPy (PyData.list (ns.map PyData.int))] [.ref a] as) (h : 0 < s₀.toks) : ∃ vs, s₁.heap.get? a = some (lstO vs) ∧ FreshI vs ns s₁.toks := by
  obtain ⟨ord, _, e⟩ := L.laid
  simp only [ofPy, layAllW, layW] at e
  cases q : layAllW R (classAt s₀.heap) w.params ord (ofPys (List.map PyData.int ns)) s₀ with
  | none => rw [q] at e; cases e
  | some r =>
    rw [q] at e
    simp only [Option.some.injEq, Prod.mk.injEq, List.cons.injEq, Value.ref.injEq] at e
    obtain ⟨⟨ea, _⟩, es⟩ := e
    have hf := lay_fresh ns s₀ r q h [] [] (.nil _)
    refine ⟨r.1, ?_, ?_⟩
    · rw [← es, ← ea]; exact Heap.get?_push_size _ rfl
    · rw [← es]; simpa using hf
theorem endLaw (hT : FloatsOk) {K : Frag} {a : Adr} {b : Ad2} (FF : KF K a) (F : KG K b) (hr : b.rank = a.rank) {prog : Program} {w : World} {s : Shared} {mg mb : Str → Option Value} (KX : K.In s.heap) (g : s.heap.Ns mainGlobals mg) (gb : s.heap.Ns builtinsNs mb) (boot : ∀ x : Str, x ≠ "__name__" → mb x = bootBuiltins x)
    (lim : s.heap.NoLimit) (nob : NoneBooked s.heap) {sl : Addr} {vs : List Value} {ns : List Int} (hsl : s.heap.get? sl = some (lstO vs)) (fr : FreshI vs ns s.toks) (hle : ns.length ≤ 1000) (hgen : AllBare s.gens) (htok : 0 < s.toks) {Q : Value → Shared → Prop} {E : Value → Shared → Prop}
    (k : ∀ s', (∀ b o, s.heap.get? b = some o → s'.heap.get? b = some o) → s'.os = s.os → AllBare s'.gens → Q (.bool true) s') : wpAny (model prog w) callerA (call (.ref b.law) [.ref sl]) Q E s := by
  have G : Gl K s.heap mg mb := ⟨KX, g, gb, boot, lim, nob⟩
  have S : St s.heap callerA [] s := ⟨fun _ _ h => h, rfl, fun _ h => (nomatch h), htok⟩
  refine wpAny_call (law_spec hT G FF F hr S (okk_lst hsl) fr hle (by decide +kernel) (by decide +kernel) rfl fun s' gg => ?_)
  exact k s' (gg.glob fun _ _ h => h) gg.os (gg.gens hgen)
end Mine
end
section
set_option maxRecDepth 100000
set_option autoImplicit false
set_option exponentiation.threshold 3000
namespace Mine
open PySem PySem.Float64

noncomputable def Rp (Z : Nat) : Prop := ∃ t, t < infMag ∧ V t = Z
noncomputable def Ev (x : UInt64) (C : Int) : Prop := ∃ s t, t < infMag ∧ x = pack s t ∧ sgn s (V t) = C
noncomputable def Rnd (C : Int) (D : Nat) (C' : Int) : Prop := Rp C'.natAbs ∧ ∀ Z : Int, Rp Z.natAbs → (C - D * C').natAbs ≤ (C - D * Z).natAbs

theorem Ev.dec {x : UInt64} {C : Int} (h : Ev x C) : ∃ s m e, decode x = .fin s m e ∧ val x = C ∧ (m = 0 ↔ C = 0) := by
  obtain ⟨s, t, h1, h2, h3⟩ := h
  obtain ⟨m, e, h4, h5⟩ := decode_pack s h1
  refine ⟨s, m, e, by rw [h2]; exact h4, by rw [h2, val_pack _ h1, h3], ?_⟩
  have h6 : C.natAbs = V t := by rw [← h3, sgn_natAbs]
  constructor
  · intro q
    rw [q, Nat.zero_mul, ← h6] at h5
    exact Int.natAbs_eq_zero.mp h5.symm
  · intro q
    rw [q] at h6
    rw [← h6] at h5
    rcases Nat.mul_eq_zero.mp h5 with q | q
    · exact q
    · exact absurd q (Nat.ne_of_gt (Nat.two_pow_pos _))
theorem Ev.rp {x : UInt64} {C : Int} (h : Ev x C) : Rp C.natAbs := by
  obtain ⟨s, t, h1, h2, h3⟩ := h
  exact ⟨t, h1, by rw [← h3, sgn_natAbs]⟩
theorem Rp.zero : Rp 0 := ⟨0, by decide, V_zero⟩
theorem Ev.of_zero (s : Bool) : Ev (zero s) 0 := ⟨s, 0, by decide, rfl, by rw [V_zero]; cases s <;> rfl⟩
theorem V_max {t : Nat} (h : t < infMag) : V t ≤ (2 ^ 53 - 1) * 2 ^ 2045 := by
  obtain ⟨k, q, h1, h2, h3, h4⟩ := V_form t
  have hk : k ≤ 2045 := by
    have : infMag = 2047 * 2 ^ 52 := rfl
    rcases h3 with h3 | h3
    · have h5 : k * 2 ^ 52 + 2 ^ 52 < 2047 * 2 ^ 52 := by lia
      lia
    · lia
  rw [h4]
  exact Nat.mul_le_mul (by grind) (Nat.pow_le_pow_right (by decide) hk)
noncomputable def MX : Nat := (2 ^ 53 - 1) * 2 ^ 2045
theorem Rp.le_max {Z : Nat} (h : Rp Z) : Z ≤ MX := by
  obtain ⟨t, h1, h2⟩ := h
  rw [← h2]; exact V_max h1
theorem mx_1990 : 2 ^ 1990 ≤ MX := by decide
theorem le_mx {W D : Nat} (h : W ≤ D * 2 ^ 1990) : W ≤ D * MX := Nat.le_trans h (Nat.mul_le_mul_left _ mx_1990)
theorem mx_over : 2 * MX < (2 ^ 54 - 1) * 2 ^ 2045 := by decide
theorem rp_of {m k : Nat} (hm : m ≤ 2 ^ 53) (h2 : k ≤ 1990) : Rp (m * 2 ^ k) := by
  have hi : infMag = 2047 * 2 ^ 52 := rfl
  by_cases h0 : m = 0
  · subst h0; exact ⟨0, by decide, by rw [V_zero, Nat.zero_mul]⟩
  by_cases h53 : m = 2 ^ 53
  · refine ⟨k * 2 ^ 52 + 2 ^ 53, ?_, ?_⟩
    · have : k * 2 ^ 52 ≤ 1990 * 2 ^ 52 := Nat.mul_le_mul_right _ h2
      lia
    · rw [V_at (Nat.le_refl _) (.inl (by decide)), h53]
  have g1 := Nat.log2_self_le h0
  have g2 : m < 2 ^ (m.log2 + 1) := Nat.lt_log2_self
  have hl : m.log2 ≤ 52 := by
    rcases Nat.lt_or_ge 52 m.log2 with z | z
    · have : (2 : Nat) ^ (52 + 1) ≤ 2 ^ m.log2 := Nat.pow_le_pow_right (by decide) z
      lia
    · exact z
  generalize m.log2 = l at g1 g2 hl
  have key : ∀ c, c ≤ k → l + c ≤ 52 → (l + c = 52 ∨ c = k) → Rp (m * 2 ^ k) := by
    intro c hck hlc hor
    have q2 : m * 2 ^ c < 2 ^ 53 := by
      have : m * 2 ^ c < 2 ^ (l + 1) * 2 ^ c := Nat.mul_lt_mul_of_pos_right g2 (Nat.two_pow_pos _)
      rw [← Nat.pow_add] at this
      exact Nat.lt_of_lt_of_le this (Nat.pow_le_pow_right (by decide) (by lia  ))
    have q1 : 2 ^ 52 ≤ m * 2 ^ c ∨ k - c = 0 := by
      rcases hor with h | h
      · left
        have : 2 ^ l * 2 ^ c ≤ m * 2 ^ c := Nat.mul_le_mul_right _ g1
        rw [← Nat.pow_add, h] at this
        exact this
      · right; lia
    refine ⟨(k - c) * 2 ^ 52 + m * 2 ^ c, ?_, ?_⟩
    · have h3 : (k - c) * 2 ^ 52 ≤ 1990 * 2 ^ 52 := Nat.mul_le_mul_right _ (by grind)
      lia
    · rw [V_at (Nat.le_of_lt q2) q1, Nat.mul_assoc, ← Nat.pow_add, show c + (k - c) = k by grind]
  rcases Nat.lt_or_ge k (52 - l) with h | h
  · exact key k (Nat.le_refl _) (by grind) (.inr rfl)
  · exact key (52 - l) h (by lia  ) (.inl (by grind))
theorem rp_pow {k : Nat} (h : k ≤ 1990) : Rp (2 ^ k) := by
  have := rp_of (m := 1) (k := k) (by decide) h
  rwa [Nat.one_mul] at this
theorem sgn_zero (s : Bool) : sgn s 0 = 0 := by cases s <;> rfl
theorem sgn_dist (s : Bool) (a b : Nat) : (sgn s a - sgn s b).natAbs = dist a b := by
  unfold sgn dist; cases s <;> simp <;> lia
theorem rnd_of {r : UInt64} {s : Bool} {W D : Nat} (R : Right r s W D) (hD : 0 < D) (hb : W ≤ D * MX) {C : Int} (hC : sgn s W = C) : ∃ C', Ev r C' ∧ Rnd C D C' := by
  obtain ⟨t, hr, hle, hov, hnear⟩ := R
  have hlt : t < infMag := by
    rcases Nat.lt_or_ge t infMag with z | z
    · exact z
    · exfalso
      have h1 := hov.mp (Nat.le_antisymm hle z)
      have h4 : D * ((2 ^ 54 - 1) * 2 ^ 2045) ≤ D * (2 * MX) := Nat.le_trans h1 (by rw [Nat.mul_left_comm D 2]; exact Nat.mul_le_mul_left 2 hb)
      have h5 : (2 ^ 54 - 1) * 2 ^ 2045 ≤ 2 * MX := Nat.le_of_mul_le_mul_left h4 hD
      exact absurd h5 (Nat.not_le.mpr mx_over)
  refine ⟨sgn s (V t), ⟨s, t, hlt, hr, rfl⟩, by rw [sgn_natAbs]; exact ⟨t, hlt, rfl⟩, fun Z hZ => ?_⟩
  have e1 : (C - D * sgn s (V t)).natAbs = dist W (D * V t) := by
    rw [← hC, Int.mul_comm, ← sgn_mul, sgn_dist, Nat.mul_comm]
  rw [e1]
  obtain ⟨t', ht', hV⟩ := hZ
  have hcase : Z = sgn s Z.natAbs ∨ Z = -sgn s Z.natAbs := by
    unfold sgn; cases s <;> simp <;> lia
  rcases hcase with h | h
  · have e2 : (C - D * Z).natAbs = dist W (D * V t') := by
      rw [h, ← hV, ← hC, Int.mul_comm, ← sgn_mul, sgn_dist, Nat.mul_comm]
    rw [e2]
    exact (hnear hlt t').1
  · have h0 := (hnear hlt 0).1
    rw [V_zero, Nat.mul_zero] at h0
    refine Nat.le_trans h0 ?_
    have e2 : (C - D * Z) = sgn s (W + D * Z.natAbs) := by
      rw [h, ← hC]
      generalize Z.natAbs = z
      unfold sgn; cases s <;> simp <;> grind
    rw [e2, sgn_natAbs]
    unfold dist; lia

theorem Rnd.exact {C : Int} {D : Nat} {C' Z : Int} (h : Rnd C D C') (hD : 0 < D) (hz : Rp Z.natAbs) (e : C = D * Z) : C' = Z := by
  have h1 := h.2 Z hz
  rw [e, Int.sub_self, ← Int.mul_sub] at h1
  have h2 : (D : Int) * (Z - C') = 0 := Int.natAbs_eq_zero.mp (by simpa using h1)
  rcases Int.mul_eq_zero.mp h2 with h3 | h3 <;> lia
theorem Rnd.le {C : Int} {D : Nat} {C' Z : Int} (h : Rnd C D C') (hD : 0 < D) (hz : Rp Z.natAbs) (e : C ≤ D * Z) : C' ≤ Z := by
  have h1 := h.2 Z hz
  rcases Int.lt_or_le Z C' with q | q
  · exfalso
    have h3 : (D : Int) * Z < D * C' := Int.mul_lt_mul_of_pos_left q (by lia  )
    omega
  · exact q
theorem Rnd.ge {C : Int} {D : Nat} {C' Z : Int} (h : Rnd C D C') (hD : 0 < D) (hz : Rp Z.natAbs) (e : D * Z ≤ C) : Z ≤ C' := by
  have h1 := h.2 Z hz
  rcases Int.lt_or_le C' Z with q | q
  · exfalso
    have h3 : (D : Int) * C' < D * Z := Int.mul_lt_mul_of_pos_left q (by lia  )
    grind
  · exact q
theorem Rnd.abs_le {C : Int} {D : Nat} {C' : Int} {Z : Nat} (h : Rnd C D C') (hD : 0 < D) (hz : Rp Z) (e : C.natAbs ≤ D * Z) : C'.natAbs ≤ Z := by
  have h0 : ((D * Z : Nat) : Int) = D * (Z : Int) := by simp
  have h1 := h.le (Z := Z) hD (by simpa using hz) (by omega)
  have h2 := h.ge (Z := -(Z : Int)) hD (by simpa using hz) (by rw [Int.mul_neg]; omega)
  lia
theorem near_float {W D p : Nat} (hD : 0 < D) (hp : p ≤ 1900) (hW : W ≤ D * 2 ^ (p + 53)) : ∃ Z, Rp Z ∧ 2 * dist W (D * Z) ≤ D * 2 ^ p := by
  have hP := Nat.two_pow_pos p
  rw [Nat.pow_add] at hW
  have hrp : ∀ m, m ≤ 2 ^ 53 → Rp (m * 2 ^ p) := fun m h => rp_of h (by lia  )
  generalize 2 ^ p = P at *
  have hDP : 0 < D * P := Nat.mul_pos hD hP
  have h1 := Nat.div_add_mod W (D * P)
  have h2 := Nat.mod_lt W hDP
  have hq : W / (D * P) ≤ 2 ^ 53 := by
    apply Nat.le_of_lt_succ
    apply (Nat.div_lt_iff_lt_mul hDP).mpr
    have : D * (P * 2 ^ 53) = 2 ^ 53 * (D * P) := by rw [← Nat.mul_assoc, Nat.mul_comm]
    rw [Nat.succ_mul]
    lia
  generalize hqq : W / (D * P) = q at *
  generalize W % (D * P) = r at *
  have e1 : D * P * q = D * (q * P) := by rw [Nat.mul_assoc, Nat.mul_comm P q]
  have e2 : D * ((q + 1) * P) = D * (q * P) + D * P := by rw [Nat.add_mul, Nat.mul_add, Nat.one_mul]
  rcases Nat.lt_or_ge (2 * r) (D * P + 1) with h | h
  · exact ⟨q * P, hrp _ hq, by unfold dist; lia  ⟩
  · refine ⟨(q + 1) * P, hrp _ ?_, by unfold dist; grind⟩
    rcases Nat.lt_or_ge q (2 ^ 53) with hh | hh
    · lia
    · exfalso
      have h5 : D * P * 2 ^ 53 ≤ D * P * q := Nat.mul_le_mul_left _ hh
      have : D * (P * 2 ^ 53) = D * P * 2 ^ 53 := (Nat.mul_assoc ..).symm
      lia
theorem Rnd.near {C : Int} {D : Nat} {C' : Int} {p : Nat} (h : Rnd C D C') (hD : 0 < D) (hp : p ≤ 1900) (e : C.natAbs ≤ D * 2 ^ (p + 53)) : 2 * (C - D * C').natAbs ≤ D * 2 ^ p := by
  obtain ⟨Z, hZ, hd⟩ := near_float hD hp e
  refine Nat.le_trans (Nat.mul_le_mul_left 2 (h.2 (sgn (decide (C < 0)) Z) (by rw [sgn_natAbs]; exact hZ))) ?_
  have e1 : (C - D * sgn (decide (C < 0)) Z).natAbs = dist C.natAbs (D * Z) := by
    have : C = sgn (decide (C < 0)) C.natAbs := (sgn_abs C).symm
    generalize decide (C < 0) = s at *
    generalize C.natAbs = w at *
    rw [this, Int.mul_comm, ← sgn_mul, sgn_dist, Nat.mul_comm]
  rw [e1]; exact hd

theorem Ev.add {x y : UInt64} {A B : Int} (hx : Ev x A) (hy : Ev y B) (hb : (A + B).natAbs ≤ MX) : ∃ C', Ev (Float64.add x y) C' ∧ Rnd (A + B) 1 C' := by
  obtain ⟨a, m, e, d1, v1, _⟩ := hx.dec
  obtain ⟨b, k, f, d2, v2, _⟩ := hy.dec
  obtain ⟨r1, r2⟩ := add_right d1 d2
  rw [v1, v2] at r1 r2
  by_cases h : A + B = 0
  · rw [r1 h, h]
    exact ⟨0, Ev.of_zero _, Rp.zero, fun Z _ => by simp⟩
  · exact rnd_of (r2 h) (by decide) (by rw [Nat.one_mul]; exact hb) (sgn_abs _)
theorem Ev.neg {x : UInt64} {A : Int} (hx : Ev x A) : Ev (Float64.neg x) (-A) := by
  obtain ⟨a, m, e, d1, v1, hz⟩ := hx.dec
  obtain ⟨s, t, h1, h2, h3⟩ := hx
  refine ⟨!s, t, h1, ?_, by rw [sgn_not, h3]⟩
  obtain ⟨hn1, hn2⟩ := neg_toNat (y := x) (by unfold isNaN; rw [d1])
  have ht63 : t < 2 ^ 63 := Nat.lt_trans h1 (by decide)
  apply UInt64.toNat_inj.mp
  rw [pack_toNat _ ht63]
  rw [h2, pack_toNat _ ht63] at hn1 hn2
  have hlt : (Float64.neg x).toNat < 2 ^ 64 := UInt64.toNat_lt _
  rw [h2] at hlt ⊢
  generalize (Float64.neg (pack s t)).toNat = q at *
  cases s with
  | true =>
    simp only [if_true, Bool.not_true, Bool.false_eq_true, if_false] at *
    have : q / 2 ^ 63 ≠ 1 := by
      intro h; rw [h] at hn2
      have h5 : ((2 ^ 63 + t) / 2 ^ 63 == 1) = true := by
        have : (2 ^ 63 + t) / 2 ^ 63 = 1 := by lia
        rw [this]; rfl
      rw [h5] at hn2
      simp at hn2
    lia
  | false =>
    simp only [Bool.false_eq_true, if_false, Bool.not_false, if_true] at *
    have : q / 2 ^ 63 = 1 := by
      have h5 : ((0 + t) / 2 ^ 63 == 1) = false := by
        have : (0 + t) / 2 ^ 63 = 0 := Nat.div_eq_of_lt (by lia  )
        rw [this]; rfl
      rw [h5] at hn2
      simpa using hn2
    lia
theorem Ev.sub {x y : UInt64} {A B : Int} (hx : Ev x A) (hy : Ev y B) (hb : (A - B).natAbs ≤ MX) : ∃ C', Ev (Float64.sub x y) C' ∧ Rnd (A - B) 1 C' := by
  unfold Float64.sub
  rw [Int.sub_eq_add_neg] at hb ⊢
  exact hx.add hy.neg hb
theorem sgn_mul_sgn (a b : Bool) (m n : Nat) : sgn (a != b) (m * n) = sgn a m * sgn b n := by
  unfold sgn; cases a <;> cases b <;> simp [Int.neg_mul, Int.mul_neg]
theorem val_sgn {x : UInt64} {s : Bool} {m : Nat} {e : Int} (h : decode x = .fin s m e) : sgn s (val x).natAbs = val x := by
  rw [val_eq h, sgn_natAbs]
theorem Ev.mul {x y : UInt64} {A B : Int} (hx : Ev x A) (hy : Ev y B) (hb : (A * B).natAbs ≤ 2 ^ 1074 * MX) : ∃ C', Ev (Float64.mul x y) C' ∧ Rnd (A * B) (2 ^ 1074) C' := by
  obtain ⟨a, m, e, d1, v1, _⟩ := hx.dec
  obtain ⟨b, k, f, d2, v2, _⟩ := hy.dec
  have R := mul_right d1 d2
  refine rnd_of R (Nat.two_pow_pos _) (by rw [v1, v2, ← Int.natAbs_mul]; exact hb) ?_
  rw [sgn_mul_sgn, val_sgn d1, val_sgn d2, v1, v2]
theorem Ev.div {x y : UInt64} {A : Int} {B : Nat} (hx : Ev x A) (hy : Ev y B) (hB : B ≠ 0) (hb : A.natAbs * 2 ^ 1074 ≤ B * MX) : ∃ C', Ev (Float64.div x y) C' ∧ Rnd (A * 2 ^ 1074) B C' := by
  obtain ⟨a, m, e, d1, v1, _⟩ := hx.dec
  obtain ⟨b, k, f, d2, v2, hk⟩ := hy.dec
  have hk0 : k ≠ 0 := fun h => hB (by have := hk.mp h; lia  )
  have R := div_right d1 d2 hk0
  have hv2 : (val y).natAbs = B := by rw [v2]; simp
  rw [v1, hv2] at R
  have hbf : b = false := by
    have h1 := val_sgn d2
    rw [hv2, v2] at h1
    unfold sgn at h1
    cases b
    · rfl
    · simp at h1; lia
  refine rnd_of R (by lia  ) hb ?_
  subst hbf
  have h1 := val_sgn d1
  rw [v1] at h1
  rw [Bool.bne_false, sgn_mul, h1]
  simp
theorem Ev.fin {x : UInt64} {C : Int} (hx : Ev x C) : Float64.isFinite x = true := by
  obtain ⟨s, m, e, d1, _⟩ := hx.dec
  unfold Float64.isFinite; rw [d1]
theorem Ev.notNaN {x : UInt64} {C : Int} (hx : Ev x C) : Float64.isNaN x = false := by
  obtain ⟨s, m, e, d1, _⟩ := hx.dec
  unfold Float64.isNaN; rw [d1]
theorem Ev.isZero {x : UInt64} {C : Int} (hx : Ev x C) : Float64.isZero x = decide (C = 0) := by
  obtain ⟨s, m, e, d1, _, hz⟩ := hx.dec
  unfold Float64.isZero; rw [d1]
  cases m with
  | zero => simp [hz.mp rfl]
  | succ n => simp; exact fun h => nomatch hz.mpr h
theorem Ev.cmp {x y : UInt64} {A B : Int} (hx : Ev x A) (hy : Ev y B) : Float64.cmp x y = some (compare A B) := by
  obtain ⟨s, m, e, d1, v1, _⟩ := hx.dec
  obtain ⟨b, k, f, d2, v2, _⟩ := hy.dec
  rw [cmp_right d1 d2, v1, v2]
theorem toNat_sum {a b c d : Int} (ha : 0 ≤ a) (hb : 0 ≤ b) (hc : 0 ≤ c) (hd : 0 ≤ d) (h : a + b = c + d) : a.toNat + b.toNat = c.toNat + d.toNat := by
  apply Int.ofNat.inj
  show ((a.toNat + b.toNat : Nat) : Int) = ((c.toNat + d.toNat : Nat) : Int)
  rw [Int.natCast_add, Int.natCast_add, Int.toNat_of_nonneg ha, Int.toNat_of_nonneg hb, Int.toNat_of_nonneg hc, Int.toNat_of_nonneg hd]
  exact h
theorem Ev.fma {x y z : UInt64} {A B C : Int} (hx : Ev x A) (hy : Ev y B) (hz : Ev z C) (hb : (A * B + C * 2 ^ 1074).natAbs ≤ 2 ^ 1074 * MX) : ∃ C', Ev (Float64.fma x y z) C' ∧ Rnd (A * B + C * 2 ^ 1074) (2 ^ 1074) C' := by
  obtain ⟨a, m, e, d1, v1, _⟩ := hx.dec
  obtain ⟨b, k, f, d2, v2, _⟩ := hy.dec
  obtain ⟨c, n, g, d3, v3, _⟩ := hz.dec
  have he := decode_ge d1
  have hf := decode_ge d2
  have hg := decode_ge d3
  have hp : (sgn (a != b) (m * k * 2 ^ (e + f - min (e + f) g).toNat) + sgn c (n * 2 ^ (g - min (e + f) g).toNat)) * ((2 ^ (min (e + f) g + 2148).toNat : Nat) : Int) = A * B + C * 2 ^ 1074 := by
    rw [Int.add_mul, ← sgn_mul, ← sgn_mul, Nat.mul_assoc (m * k), Nat.mul_assoc n, ← Nat.pow_add, ← Nat.pow_add]
    have hm : -2148 ≤ min (e + f) g := Int.le_min.mpr ⟨by lia, by lia⟩
    have e1 : (e + f - min (e + f) g).toNat + (min (e + f) g + 2148).toNat = (e + 1074).toNat + (f + 1074).toNat := toNat_sum (Int.sub_nonneg_of_le (Int.min_le_left ..)) (by lia) (by lia) (by lia) (by lia)
    have e2 : (g - min (e + f) g).toNat + (min (e + f) g + 2148).toNat = (g + 1074).toNat + 1074 := toNat_sum (d := 1074) (Int.sub_nonneg_of_le (Int.min_le_right ..)) (by lia) (by lia) (by decide) (by lia)
    rw [e1, e2, Nat.pow_add, Nat.pow_add, show m * k * (2 ^ (e + 1074).toNat * 2 ^ (f + 1074).toNat) = (m * 2 ^ (e + 1074).toNat) * (k * 2 ^ (f + 1074).toNat) by ac_rfl, sgn_mul_sgn, ← Nat.mul_assoc, sgn_mul c, ← val_eq d1, ← val_eq d2, ← val_eq d3, v1, v2, v3]
    simp
  have hfma : Float64.fma x y z = (if sgn (a != b) (m * k * 2 ^ (e + f - min (e + f) g).toNat) + sgn c (n * 2 ^ (g - min (e + f) g).toNat) == 0 then zero (if m * k == 0 && n == 0 then (a != b) && c else false) else ofBin (decide (sgn (a != b) (m * k * 2 ^ (e + f - min (e + f) g).toNat) + sgn c (n * 2 ^ (g - min (e + f) g).toNat) < 0)) (sgn (a != b) (m * k * 2 ^ (e + f - min (e + f) g).toNat) + sgn c (n * 2 ^ (g - min (e + f) g).toNat)).natAbs (min (e + f) g)) := by
    unfold Float64.fma
    rw [d1, d2, d3]
    rfl
  rw [hfma]
  generalize sgn (a != b) (m * k * 2 ^ (e + f - min (e + f) g).toNat) + sgn c (n * 2 ^ (g - min (e + f) g).toNat) = s at *
  by_cases h : s = 0
  · subst h
    rw [← hp, if_pos (by rfl), Int.zero_mul]
    exact ⟨0, Ev.of_zero _, Rp.zero, fun Z _ => by simp⟩
  · rw [if_neg (by simpa using h)]
    rw [← hp] at hb ⊢
    refine rnd_of (W := (s * ((2 ^ (min (e + f) g + 2148).toNat : Nat) : Int)).natAbs) (s := decide (s < 0)) ?_ (Nat.two_pow_pos _) hb ?_
    · unfold ofBin
      refine ofFrac_right (shift_pos _ _ _ (by decide)) ?_ (Nat.two_pow_pos _)
      have := shift_one s.natAbs (min (e + f) g) 2148 (by omega)
      rw [Int.natAbs_mul, Int.natAbs_natCast, Nat.mul_assoc, ← Nat.pow_add]
      exact this
    · rw [Int.natAbs_mul, Int.natAbs_natCast, sgn_mul, sgn_abs]
end Mine
end
section
set_option maxRecDepth 100000
set_option autoImplicit false
set_option exponentiation.threshold 3000
namespace Mine
open PySem PySem.Float64
open PySem.Builtin.Math (dlSum dlMul tlFma tlToFloat)

theorem Ev.addE {x y : UInt64} {A B : Int} (hx : Ev x A) (hy : Ev y B) {C : Int} (e : A + B = C) (hr : Rp C.natAbs) : Ev (Float64.add x y) C := by
  obtain ⟨C', h1, h2⟩ := hx.add hy (by rw [e]; exact hr.le_max)
  rw [e] at h2
  rw [← h2.exact (by decide) hr (by simp)]; exact h1
theorem Ev.subE {x y : UInt64} {A B : Int} (hx : Ev x A) (hy : Ev y B) {C : Int} (e : A - B = C) (hr : Rp C.natAbs) : Ev (Float64.sub x y) C := by
  obtain ⟨C', h1, h2⟩ := hx.sub hy (by rw [e]; exact hr.le_max)
  rw [e] at h2
  rw [← h2.exact (by decide) hr (by simp)]; exact h1
theorem scaled_le {D : Nat} {Z : Int} (hr : Rp Z.natAbs) : ((D : Int) * Z).natAbs ≤ D * MX := by
  rw [Int.natAbs_mul, Int.natAbs_natCast]; exact Nat.mul_le_mul_left _ hr.le_max
theorem Ev.mulE {x y : UInt64} {A B : Int} (hx : Ev x A) (hy : Ev y B) {C : Int} (e : A * B = ((2 ^ 1074 : Nat) : Int) * C) (hr : Rp C.natAbs) : Ev (Float64.mul x y) C := by
  obtain ⟨C', h1, h2⟩ := hx.mul hy (by rw [e]; exact scaled_le hr)
  rw [e] at h2
  rw [← h2.exact (Nat.two_pow_pos _) hr rfl]; exact h1
theorem Ev.fmaE {x y z : UInt64} {A B D : Int} (hx : Ev x A) (hy : Ev y B) (hz : Ev z D) {C : Int} (e : A * B + D * 2 ^ 1074 = ((2 ^ 1074 : Nat) : Int) * C) (hr : Rp C.natAbs) : Ev (Float64.fma x y z) C := by
  obtain ⟨C', h1, h2⟩ := hx.fma hy hz (by rw [e]; exact scaled_le hr)
  rw [e] at h2
  rw [← h2.exact (Nat.two_pow_pos _) hr rfl]; exact h1
theorem dlSum_exact {x y : UInt64} {A B : Int} (hx : Ev x A) (hy : Ev y B) {C : Int} (e : A + B = C) (hr : Rp C.natAbs) : Ev (dlSum x y).1 C ∧ Ev (dlSum x y).2 0 := by
  have h1 := hx.addE hy e hr
  have h2 := h1.subE hx (C := B) (by lia  ) hy.rp
  have h3 := h1.subE h2 (C := A) (by lia  ) hx.rp
  have h4 := hx.subE h3 (C := 0) (by lia  ) Rp.zero
  have h5 := hy.subE h2 (C := 0) (by lia  ) Rp.zero
  exact ⟨h1, h4.addE h5 (by lia  ) Rp.zero⟩
theorem dlMul_gen {x y : UInt64} {A B : Int} (hx : Ev x A) (hy : Ev y B) {P E : Int} (h1 : Ev (Float64.mul x y) P) (e : A * B = ((2 ^ 1074 : Nat) : Int) * (P + E)) (hr : Rp E.natAbs) : Ev (dlMul x y).1 P ∧ Ev (dlMul x y).2 E := by
  refine ⟨h1, hx.fmaE hy h1.neg ?_ hr⟩
  rw [e]
  have : ((2 ^ 1074 : Nat) : Int) = 2 ^ 1074 := by simp
  rw [this]
  generalize (2 : Int) ^ 1074 = K
  grind
structure TE (t : T3) (a b c : Int) : Prop where
  hi : Ev t.1 a
  lo : Ev t.2.1 b
  ti : Ev t.2.2 c
theorem TE.zero : TE z3 0 0 0 := ⟨Ev.of_zero _, Ev.of_zero _, Ev.of_zero _⟩
theorem TE.step {t : T3} {a b : Int} (h : TE t a b 0) {x y : UInt64} {A B P E a' b' : Int} (hx : Ev x A) (hy : Ev y B) (h1 : Ev (Float64.mul x y) P) (e : A * B = ((2 ^ 1074 : Nat) : Int) * (P + E)) (hr : Rp E.natAbs)
    (ea : a + P = a') (ra : Rp a'.natAbs) (eb : b + E = b') (rb : Rp b'.natAbs) : TE (tlFma x y t) a' b' 0 := by
  obtain ⟨m1, m2⟩ := dlMul_gen hx hy h1 e hr
  obtain ⟨s1, s2⟩ := dlSum_exact h.hi m1 ea ra
  obtain ⟨r1, r2⟩ := dlSum_exact h.lo m2 eb rb
  obtain ⟨q1, q2⟩ := dlSum_exact r1 s2 (Int.add_zero _) rb
  exact ⟨s1, q1, (h.ti.addE r2 (Int.add_zero _) Rp.zero).addE q2 (Int.add_zero _) Rp.zero⟩
theorem TE.stepE {t : T3} {a : Int} (h : TE t a 0 0) {x y : UInt64} {A B P a' : Int} (hx : Ev x A) (hy : Ev y B) (e : A * B = ((2 ^ 1074 : Nat) : Int) * P) (hr : Rp P.natAbs)
    (ea : a + P = a') (ra : Rp a'.natAbs) : TE (tlFma x y t) a' 0 0 :=
  h.step (E := 0) (b' := 0) hx hy (hx.mulE hy e hr) (by rw [Int.add_zero]; exact e) Rp.zero ea ra (Int.add_zero _) Rp.zero
theorem TE.out {t : T3} {a b c : Int} (h : TE t a b 0) (e : b + a = c) (hr : Rp c.natAbs) : Ev (tlToFloat t) c := by
  obtain ⟨s1, s2⟩ := dlSum_exact h.lo h.hi e hr
  exact (h.ti.addE s2 (Int.add_zero _) Rp.zero).addE s1 (Int.zero_add _) hr

noncomputable def Cn (x : UInt64) (C : Int) : Prop := ∃ t, t < infMag ∧ x = pack (decide (C < 0)) t ∧ V t = C.natAbs
theorem Cn.ev {x : UInt64} {C : Int} (h : Cn x C) : Ev x C := by
  obtain ⟨t, h1, h2, h3⟩ := h
  exact ⟨_, t, h1, h2, by rw [h3, sgn_abs]⟩
theorem Cn.uniq {x y : UInt64} {C : Int} (h : Cn x C) (h' : Cn y C) : x = y := by
  obtain ⟨t, _, h2, h3⟩ := h
  obtain ⟨t', _, h2', h3'⟩ := h'
  rw [h2, h2', V_inj (h3.trans h3'.symm)]
theorem Ev.cn {x : UInt64} {C : Int} (h : Ev x C) (hz : C ≠ 0) : Cn x C := by
  obtain ⟨s, t, h1, h2, h3⟩ := h
  have h4 : V t = C.natAbs := by rw [← h3, sgn_natAbs]
  refine ⟨t, h1, ?_, h4⟩
  have : s = decide (C < 0) := by
    unfold sgn at h3
    cases s <;> simp at h3 <;> simp <;> lia
  rw [h2, this]
theorem ofInt_zero : Float64.ofInt 0 = Float64.zero false := by decide +kernel
theorem cn_zero : Cn (Float64.zero false) 0 := ⟨0, by decide, rfl, V_zero⟩
theorem cn_add {y : UInt64} {C : Int} (h : Ev y C) : Cn (Float64.add (Float64.ofInt 0) y) C := by
  have h0 : Ev (Float64.ofInt 0) 0 := by rw [ofInt_zero]; exact Ev.of_zero _
  by_cases hz : C = 0
  · subst hz
    obtain ⟨b, k, f, d2, v2, _⟩ := h.dec
    obtain ⟨m, e, d1, _⟩ := decode_pack false (t := 0) (by decide)
    have v1 := val_pack false (t := 0) (by decide)
    rw [V_zero] at v1
    obtain ⟨r1, r2⟩ := add_right d1 d2
    have h1 := r1 (by rw [v2, v1]; rfl)
    rw [ofInt_zero]
    unfold Float64.zero
    rw [h1]
    exact cn_zero
  · exact (h0.addE h (Int.zero_add _) h.rp).cn hz
theorem dot_cn {ps : List (UInt64 × UInt64)} {a b c : Int} (h : TE (tlRun ps z3) a b 0) (e : b + a = c) (hr : Rp c.natAbs) : Cn (dotF ps) c := cn_add (h.out e hr)

noncomputable def dotI (L : List (Int × Int)) : Int := (L.map fun p => p.1 * p.2).sum
section
variable {φ : Int → UInt64} {k0 k1 : Nat}
theorem prod_bound {a b : Int} (ha : a.natAbs ≤ 64) (hb : b.natAbs ≤ 64) : (a * b).natAbs ≤ 4096 := by
  rw [Int.natAbs_mul]; exact Nat.mul_le_mul ha hb
theorem rp_int {z : Int} {k : Nat} (hz : z.natAbs ≤ 2 ^ 53) (hk : k ≤ 1990) : Rp (z * ((2 ^ k : Nat) : Int)).natAbs := by
  rw [Int.natAbs_mul, Int.natAbs_natCast]; exact rp_of hz hk
theorem nat_step {x a b l m : Nat} (t : x ≤ a + b) (hs : a + (l + 1) * 4096 ≤ m) (hb : b ≤ 4096) : x + l * 4096 ≤ m := by lia
theorem run_exact (hφ : ∀ d : Int, d.natAbs ≤ 64 → Ev (φ d) (d * ((2 ^ k0 : Nat) : Int))) (hk : 2 * k0 = k1 + 1074) (hk1 : k1 ≤ 1900) :
    ∀ (L : List (Int × Int)) (s : Int) (t : T3), (∀ p ∈ L, p.1.natAbs ≤ 64 ∧ p.2.natAbs ≤ 64) → s.natAbs + L.length * 4096 ≤ 2 ^ 53 → TE t (s * ((2 ^ k1 : Nat) : Int)) 0 0 →
      tlOk (L.map fun p => (φ p.1, φ p.2)) t ∧ TE (tlRun (L.map fun p => (φ p.1, φ p.2)) t) ((s + dotI L) * ((2 ^ k1 : Nat) : Int)) 0 0
  | [], s, t, _, _, h => ⟨trivial, by show TE t _ 0 0; unfold dotI; simpa using h⟩
  | p :: L, s, t, hb, hs, h => by
    obtain ⟨h1, h2⟩ := hb p (.head _)
    have h3 := prod_bound h1 h2
    have hlen : (p :: L).length = L.length + 1 := rfl
    have hst : TE (tlFma (φ p.1) (φ p.2) t) ((s + p.1 * p.2) * ((2 ^ k1 : Nat) : Int)) 0 0 := by
      refine h.stepE (P := p.1 * p.2 * ((2 ^ k1 : Nat) : Int)) (hφ _ h1) (hφ _ h2) ?_ (rp_int (by lia  ) (by grind)) (by rw [Int.add_mul]) (rp_int (by omega) (by grind))
      have e1 : ((2 ^ k0 : Nat) : Int) * ((2 ^ k0 : Nat) : Int) = ((2 ^ 1074 : Nat) : Int) * ((2 ^ k1 : Nat) : Int) := by
        rw [← Int.natCast_mul, ← Int.natCast_mul, ← Nat.pow_add, ← Nat.pow_add, show k0 + k0 = 1074 + k1 by lia  ]
      generalize ((2 ^ k0 : Nat) : Int) = a at *
      generalize ((2 ^ k1 : Nat) : Int) = b at *
      generalize ((2 ^ 1074 : Nat) : Int) = c at *
      grind
    obtain ⟨g1, g2⟩ := run_exact hφ hk hk1 L (s + p.1 * p.2) _ (fun q hq => hb q (.tail _ hq)) (nat_step (Int.natAbs_add_le s (p.1 * p.2)) (hlen ▸ hs) h3) hst
    refine ⟨⟨hst.hi.fin, g1⟩, ?_⟩
    have e : s + dotI (p :: L) = s + p.1 * p.2 + dotI L := by
      show s + (p.1 * p.2 + _) = _
      rw [← Int.add_assoc]; rfl
    rw [e]; exact g2
theorem dot_bound : ∀ (L : List (Int × Int)), (∀ p ∈ L, p.1.natAbs ≤ 64 ∧ p.2.natAbs ≤ 64) → (dotI L).natAbs ≤ L.length * 4096
  | [], _ => by decide
  | p :: L, hb => by
    obtain ⟨h1, h2⟩ := hb p (.head _)
    have h3 := prod_bound h1 h2
    have h4 := dot_bound L (fun q hq => hb q (.tail _ hq))
    have e : dotI (p :: L) = p.1 * p.2 + dotI L := rfl
    have hlen : (p :: L).length = L.length + 1 := rfl
    rw [e, hlen]
    exact Nat.le_trans (Int.natAbs_add_le _ _) (Nat.le_trans (Nat.add_le_add h3 h4) (Nat.le_of_eq (by rw [Nat.add_mul, Nat.one_mul, Nat.add_comm])))
theorem dot_exact (hφ : ∀ d : Int, d.natAbs ≤ 64 → Ev (φ d) (d * ((2 ^ k0 : Nat) : Int))) (hk : 2 * k0 = k1 + 1074) (hk1 : k1 ≤ 1900) (L : List (Int × Int)) (hb : ∀ p ∈ L, p.1.natAbs ≤ 64 ∧ p.2.natAbs ≤ 64) (hl : L.length ≤ 64) :
    tlOk (L.map fun p => (φ p.1, φ p.2)) z3 ∧ Cn (dotF (L.map fun p => (φ p.1, φ p.2))) (dotI L * ((2 ^ k1 : Nat) : Int)) := by
  obtain ⟨h1, h2⟩ := run_exact hφ hk hk1 L 0 z3 hb (by simp; lia  ) (by rw [Int.zero_mul]; exact TE.zero)
  refine ⟨h1, ?_⟩
  rw [Int.zero_add] at h2
  exact dot_cn h2 (Int.zero_add _) (rp_int (by have := dot_bound L hb; lia  ) (by grind))
end
end Mine
end
section
set_option maxRecDepth 100000
set_option autoImplicit false
set_option exponentiation.threshold 3000
namespace Mine
open PySem PySem.Float64
open PySem.Builtin.Math (dlSum dlMul tlFma tlToFloat)

structure Good (N H κ : Nat) : Prop where
  lo : 2 ^ 52 ≤ H
  hi : H < 2 ^ 53
  up : N * 4 ^ κ + 1 ≤ H * H + H
  dn : H * H + 1 ≤ N * 4 ^ κ + H
  eq : H = 2 ^ 52 → N * 4 ^ κ = H * H
  k1 : 36 ≤ κ
  k2 : κ ≤ 53
theorem sq_le {a b : Nat} (h : a * a ≤ b * b) : a ≤ b := by
  rcases Nat.lt_or_ge b a with q | q
  · exact absurd h (Nat.not_le.mpr (Nat.mul_self_lt_mul_self q))
  · exact q
theorem pow_le_inv {a b : Nat} (h : (2 : Nat) ^ a ≤ 2 ^ b) : a ≤ b := (Nat.pow_le_pow_iff_right (by decide)).mp h
theorem pow_lt_inv {a b : Nat} (h : (2 : Nat) ^ a < 2 ^ b) : a < b := (Nat.pow_lt_pow_iff_right (by decide)).mp h
theorem four_pow (κ : Nat) : (4 : Nat) ^ κ = 2 ^ κ * 2 ^ κ := by
  rw [show (4 : Nat) = 2 * 2 from rfl, Nat.mul_pow]
theorem two_pred {k : Nat} (h : 0 < k) : 2 ^ k = 2 * 2 ^ (k - 1) := by
  obtain ⟨j, rfl⟩ : ∃ j, k = j + 1 := ⟨k - 1, by lia  ⟩
  rw [Nat.pow_succ, Nat.add_sub_cancel, Nat.mul_comm]
theorem odd_co {m : Nat} (h : m % 2 = 1) : Nat.Coprime 2 m := by
  rw [Nat.Coprime, Nat.gcd_rec, h, Nat.gcd_one_left]
theorem cons_dvd {q c : Nat} (h : 2 ^ 72 * c = q * q + q) (h0 : 0 < q) (hq : q < 2 ^ 53) : False := by
  have hd : 2 ^ 72 ∣ q * (q + 1) := ⟨c, by rw [h, Nat.mul_add, Nat.mul_one]⟩
  rcases Nat.mod_two_eq_zero_or_one q with e | e
  · have hc : Nat.Coprime (2 ^ 72) (q + 1) := Nat.Coprime.pow_left _ (odd_co (by lia  ))
    have := Nat.le_of_dvd h0 (hc.dvd_of_dvd_mul_right hd)
    grind
  · have hc : Nat.Coprime (2 ^ 72) q := Nat.Coprime.pow_left _ (odd_co (by omega))
    have := Nat.le_of_dvd (by lia  ) (hc.dvd_of_dvd_mul_left hd)
    grind
theorem root_good {N k1 t : Nat} (hN : 0 < N) (hN2 : N ≤ 2 ^ 30) (hk1 : 100 ≤ k1) (hup : ∀ t', t < t' → 4 * (N * 2 ^ (2 * k1)) ≤ (V t + V t') * (V t + V t')) (hdn : ∀ t', t' < t → (V t + V t') * (V t + V t') ≤ 4 * (N * 2 ^ (2 * k1))) :
    ∃ H κ k, Good N H κ ∧ κ + k = k1 ∧ V t = H * 2 ^ k := by
  obtain ⟨k, q, ht, hq, h52, hV⟩ := V_form t
  have u1 := hup (t + 1) (by lia  )
  have hV1 : V (t + 1) = (q + 1) * 2 ^ k := by
    have := V_at (k := k) (q := q + 1) (by grind) (by grind)
    rw [← this]; congr 1; grind
  rw [hV, hV1, ← Nat.add_mul] at u1
  have hkk : k1 < k + 53 := by
    have h1 : (2 * 2 ^ k1) * (2 * 2 ^ k1) ≤ ((q + (q + 1)) * 2 ^ k) * ((q + (q + 1)) * 2 ^ k) := by
      refine Nat.le_trans ?_ u1
      rw [show 2 * k1 = k1 + k1 by lia  , Nat.pow_add]
      have := Nat.mul_le_mul_right (2 ^ k1 * 2 ^ k1) hN
      generalize 2 ^ k1 = a at *
      grind
    have h2 := sq_le h1
    have h3 : (q + (q + 1)) * 2 ^ k < 2 ^ 54 * 2 ^ k := Nat.mul_lt_mul_of_pos_right (by lia  ) (Nat.two_pow_pos _)
    have h4 : 2 ^ (k1 + 1) < 2 ^ (54 + k) := by
      rw [Nat.pow_succ, Nat.pow_add]; lia
    have := pow_lt_inv h4
    lia
  have h52' : 2 ^ 52 ≤ q := by grind
  have hk0 : 0 < k := by lia
  have hkl : k + 36 ≤ k1 := by
    have d0 := hdn (t - 1) (by lia  )
    have h1 : V t * V t ≤ (2 ^ (k1 + 16)) * (2 ^ (k1 + 16)) := by
      refine Nat.le_trans (Nat.mul_le_mul (Nat.le_add_right _ (V (t - 1))) (Nat.le_add_right _ (V (t - 1)))) (Nat.le_trans d0 ?_)
      rw [show 2 * k1 = k1 + k1 by lia  , Nat.pow_add, Nat.pow_add]
      have := Nat.mul_le_mul_right (2 ^ k1 * 2 ^ k1) hN2
      have e : 2 ^ k1 * 2 ^ 16 * (2 ^ k1 * 2 ^ 16) = 4 * (2 ^ 30 * (2 ^ k1 * 2 ^ k1)) := by
        generalize 2 ^ k1 = a
        grind
      rw [e]; lia
    have h2 := sq_le h1
    rw [hV] at h2
    have h3 : 2 ^ 52 * 2 ^ k ≤ q * 2 ^ k := Nat.mul_le_mul_right _ h52'
    rw [← Nat.pow_add] at h3
    have := pow_le_inv (Nat.le_trans h3 h2)
    lia
  obtain ⟨κ, hκ⟩ : ∃ κ, κ + k = k1 := ⟨k1 - k, by lia  ⟩
  have hpow : N * 2 ^ (2 * k1) = N * 4 ^ κ * (2 ^ k * 2 ^ k) := by
    rw [four_pow, ← hκ, show 2 * (κ + k) = κ + κ + (k + k) by lia  , Nat.pow_add, Nat.pow_add, Nat.pow_add]
    ac_rfl
  have hP : 0 < 2 ^ k * 2 ^ k := Nat.mul_pos (Nat.two_pow_pos _) (Nat.two_pow_pos _)
  obtain ⟨c, hc⟩ : ∃ c, N * 4 ^ κ = 2 ^ 72 * c := ⟨N * 4 ^ (κ - 36), by
    have : (4 : Nat) ^ κ = 4 ^ 36 * 4 ^ (κ - 36) := by rw [← Nat.pow_add]; congr 1; lia
    rw [this, show (2 : Nat) ^ 72 = 4 ^ 36 by decide]; ac_rfl⟩
  have hup1 : N * 4 ^ κ ≤ q * q + q := by
    rw [hpow] at u1
    have h1 : 4 * (N * 4 ^ κ) * (2 ^ k * 2 ^ k) ≤ ((q + (q + 1)) * (q + (q + 1))) * (2 ^ k * 2 ^ k) := by
      generalize 2 ^ k = a at *
      generalize N * 4 ^ κ = b at *
      grind
    have h2 := Nat.le_of_mul_le_mul_right h1 hP
    have h3 : (q + (q + 1)) * (q + (q + 1)) = 4 * (q * q) + 4 * q + 1 := by grind
    lia
  have hup2 : N * 4 ^ κ ≠ q * q + q := fun h => cons_dvd (hc.symm.trans h) (by lia  ) hq
  refine ⟨q, κ, k, ⟨h52', hq, by lia  , ?_, ?_, by lia  , by lia  ⟩, hκ, hV⟩
  · have d0 := hdn (t - 1) (by lia  )
    by_cases hq0 : q = 2 ^ 52
    · have hVm : V (t - 1) = (2 ^ 53 - 1) * 2 ^ (k - 1) := by
        have := V_at (k := k - 1) (q := 2 ^ 53 - 1) (by lia  ) (.inl (by decide))
        rw [← this]; congr 1; lia
      have hVt : V t = 2 ^ 53 * 2 ^ (k - 1) := by
        rw [hV, hq0, show (2 : Nat) ^ 53 = 2 ^ 52 * 2 by decide, Nat.mul_assoc, ← two_pred hk0]
      have h2k : 2 ^ k = 2 * 2 ^ (k - 1) := two_pred hk0
      rw [hVm, hVt, hpow, h2k, ← Nat.add_mul, hc] at d0
      have hP' : 0 < 2 ^ (k - 1) * 2 ^ (k - 1) := Nat.mul_pos (Nat.two_pow_pos _) (Nat.two_pow_pos _)
      have h1 : ((2 ^ 53 + (2 ^ 53 - 1)) * (2 ^ 53 + (2 ^ 53 - 1))) * (2 ^ (k - 1) * 2 ^ (k - 1)) ≤ (16 * (2 ^ 72 * c)) * (2 ^ (k - 1) * 2 ^ (k - 1)) := by
        generalize 2 ^ (k - 1) = a at *
        grind
      have h2 := Nat.le_of_mul_le_mul_right h1 hP'
      rw [hc, hq0]
      omega
    · have hVm : V (t - 1) = (q - 1) * 2 ^ k := by
        have := V_at (k := k) (q := q - 1) (by grind) (.inl (by lia  ))
        rw [← this]; congr 1; grind
      rw [hVm, hV, hpow, ← Nat.add_mul] at d0
      have h1 : ((q + (q - 1)) * (q + (q - 1))) * (2 ^ k * 2 ^ k) ≤ (4 * (N * 4 ^ κ)) * (2 ^ k * 2 ^ k) := by
        generalize 2 ^ k = a at *
        generalize N * 4 ^ κ = b at *
        generalize q - 1 = r at *
        grind
      have h2 := Nat.le_of_mul_le_mul_right h1 hP
      obtain ⟨r, hr⟩ : ∃ r, q = r + 1 := ⟨q - 1, by grind⟩
      subst hr
      have h3 : (r + 1 + (r + 1 - 1)) * (r + 1 + (r + 1 - 1)) = 4 * (r * r) + 4 * r + 1 := by
        rw [Nat.add_sub_cancel]; grind
      have h4 : (r + 1) * (r + 1) = r * r + 2 * r + 1 := by grind
      lia
  · intro hq0
    have d0 := hdn (t - 1) (by (clear hq0; omega)  )
    have hVm : V (t - 1) = (2 ^ 53 - 1) * 2 ^ (k - 1) := by
      have := V_at (k := k - 1) (q := 2 ^ 53 - 1) (by lia  ) (.inl (by decide))
      rw [← this]; congr 1; lia
    have hVt : V t = 2 ^ 53 * 2 ^ (k - 1) := by
      rw [hV, hq0, show (2 : Nat) ^ 53 = 2 ^ 52 * 2 by decide, Nat.mul_assoc, ← two_pred hk0]
    have h2k : 2 ^ k = 2 * 2 ^ (k - 1) := two_pred hk0
    rw [hVm, hVt, hpow, h2k, ← Nat.add_mul, hc] at d0
    have hP' : 0 < 2 ^ (k - 1) * 2 ^ (k - 1) := Nat.mul_pos (Nat.two_pow_pos _) (Nat.two_pow_pos _)
    have h1 : ((2 ^ 53 + (2 ^ 53 - 1)) * (2 ^ 53 + (2 ^ 53 - 1))) * (2 ^ (k - 1) * 2 ^ (k - 1)) ≤ (16 * (2 ^ 72 * c)) * (2 ^ (k - 1) * 2 ^ (k - 1)) := by
      generalize 2 ^ (k - 1) = a at *
      grind
    have h2 := Nat.le_of_mul_le_mul_right h1 hP'
    rw [hc, hq0]
    rw [hc, hq0] at hup1
    lia
theorem Good.big {N H κ : Nat} (g : Good N H κ) : 2 ^ 104 ≤ N * 4 ^ κ := by
  have h1 := g.lo
  have h2 := g.dn
  by_cases h : H = 2 ^ 52
  · rw [g.eq h, h]; decide
  · obtain ⟨r, rfl⟩ : ∃ r, H = r + 1 := ⟨H - 1, by grind⟩
    have h3 : 2 ^ 52 * 2 ^ 52 ≤ r * r := Nat.mul_le_mul (by lia  ) (by lia  )
    have h4 : (r + 1) * (r + 1) = r * r + 2 * r + 1 := by grind
    grind
theorem Good.small {N H κ : Nat} (g : Good N H κ) : N * 4 ^ κ < 2 ^ 106 := by
  have h1 := g.hi
  have h2 := g.up
  have h3 : H * H ≤ (2 ^ 53 - 1) * (2 ^ 53 - 1) := Nat.mul_le_mul (by lia  ) (by lia  )
  lia
theorem Good.uniq {N H κ H' κ' : Nat} (g : Good N H κ) (g' : Good N H' κ') : H = H' ∧ κ = κ' := by
  have hk : κ = κ' := by
    have key : ∀ {H κ H' κ' : Nat}, Good N H κ → Good N H' κ' → κ < κ' → False := by
      intro H κ H' κ' g g' h
      obtain ⟨d, rfl⟩ : ∃ d, κ' = κ + 1 + d := ⟨κ' - κ - 1, by grind⟩
      have h1 := g.big
      have h2 := g'.small
      have h3 : N * 4 ^ (κ + 1 + d) = N * 4 ^ κ * 4 * 4 ^ d := by rw [Nat.pow_add, Nat.pow_succ]; ac_rfl
      have h4 : 0 < 4 ^ d := Nat.pow_pos (by decide)
      rw [h3] at h2
      have h5 : N * 4 ^ κ * 4 * 1 ≤ N * 4 ^ κ * 4 * 4 ^ d := Nat.mul_le_mul_left _ h4
      lia
    rcases Nat.lt_trichotomy κ κ' with h | h | h
    · exact (key g g' h).elim
    · exact h
    · exact (key g' g h).elim
  subst hk
  refine ⟨?_, rfl⟩
  have key : ∀ {H H' : Nat}, Good N H κ → Good N H' κ → H < H' → False := by
    intro H H' g g' h
    have h1 := g.up
    have h2 := g'.dn
    obtain ⟨r, rfl⟩ : ∃ r, H' = r + 1 := ⟨H' - 1, by lia  ⟩
    have h3 : H * H + H ≤ r * r + r := Nat.add_le_add (Nat.mul_le_mul (by lia  ) (by lia  )) (by lia  )
    have h4 : (r + 1) * (r + 1) = r * r + 2 * r + 1 := by (clear h3; grind)
    grind
  rcases Nat.lt_trichotomy H H' with h | h | h
  · exact (key g g' h).elim
  · exact h
  · exact (key g' g h).elim
end Mine
end
section
set_option maxRecDepth 100000
set_option autoImplicit false
set_option exponentiation.threshold 3000
namespace Mine
open PySem PySem.Float64
open PySem.Builtin.Math (dlSum dlMul tlFma tlToFloat)

theorem rp_dvd {Z k : Nat} (h : Rp Z) (h1 : 2 ^ (52 + k) ≤ Z) : ∃ c, Z = c * 2 ^ k := by
  obtain ⟨t, _, hV⟩ := h
  obtain ⟨k', q, _, hq, _, hV'⟩ := V_form t
  rw [hV] at hV'
  have hk : k ≤ k' := by
    have h3 : q * 2 ^ k' < 2 ^ 53 * 2 ^ k' := Nat.mul_lt_mul_of_pos_right hq (Nat.two_pow_pos _)
    rw [← Nat.pow_add] at h3
    have := pow_lt_inv (Nat.lt_of_le_of_lt h1 (hV' ▸ h3))
    lia
  exact ⟨q * 2 ^ (k' - k), by rw [hV', Nat.mul_assoc, ← Nat.pow_add, Nat.sub_add_cancel hk]⟩
theorem natCast_pow2 (k : Nat) : ((2 ^ k : Nat) : Int) = 2 ^ k := by simp
theorem two_ev : Ev twoF ((2 : Int) * ((2 ^ 1074 : Nat) : Int)) := by
  refine ⟨false, 1024 * 2 ^ 52, by decide, by decide, ?_⟩
  have := V_at (k := 1023) (q := 2 ^ 52) (by decide) (.inl (Nat.le_refl _))
  have e : 1023 * 2 ^ 52 + 2 ^ 52 = 1024 * 2 ^ 52 := by decide
  rw [e] at this
  rw [this, ← Nat.pow_add]
  show ((2 ^ (52 + 1023) : Nat) : Int) = _
  have e2 : (2 : Nat) ^ (52 + 1023) = 2 * 2 ^ 1074 := by rw [show 52 + 1023 = 1074 + 1 from rfl, Nat.pow_succ, Nat.mul_comm]
  rw [e2, Int.natCast_mul]
  rfl

theorem pred_mul {D H P : Nat} (hP : 0 < P) (hH : H < P) (hD : D + 1 ≤ H) : D * P ≤ H * (P - 1) := by
  obtain ⟨M, rfl⟩ : ∃ M, P = M + 1 := ⟨P - 1, by lia  ⟩
  have := Nat.mul_le_mul_right (M + 1) hD
  rw [Nat.add_mul, Nat.one_mul] at this
  rw [Nat.add_sub_cancel]
  rw [Nat.mul_add H] at this
  grind
theorem hh_parts {H k u : Nat} (hu : u + 1074 = 2 * k) (hub : u ≤ 1800) (lo : 2 ^ 52 ≤ H) (hi : H < 2 ^ 53) {h : UInt64} (hh : Ev h ((H * 2 ^ k : Nat) : Int)) :
    ∃ c : Nat, Ev (Float64.mul h (Float64.neg h)) (-((c * 2 ^ 52 * 2 ^ u : Nat) : Int)) ∧ (((c * 2 ^ 52 : Nat) : Int) - (H * H : Nat)).natAbs ≤ 2 ^ 52 := by
  have hsq : 2 ^ 52 * 2 ^ 52 ≤ H * H := Nat.mul_le_mul lo lo
  have hsq2 : H * H ≤ 2 ^ 53 * 2 ^ 53 := Nat.mul_le_mul (by lia  ) (by lia  )
  have hPW : (((H * 2 ^ k : Nat) : Int)) * (-((H * 2 ^ k : Nat) : Int)) = -((2 ^ 1074 * (H * H * 2 ^ u) : Nat) : Int) := by
    have e : H * 2 ^ k * (H * 2 ^ k) = 2 ^ 1074 * (H * H * 2 ^ u) := by
      have e1 : 2 ^ k * 2 ^ k = 2 ^ 1074 * 2 ^ u := by rw [← Nat.pow_add, ← Nat.pow_add]; congr 1; lia
      generalize 2 ^ k = a at *
      generalize (2 : Nat) ^ 1074 = b at *
      generalize 2 ^ u = d at *
      grind
    rw [Int.mul_neg, ← Int.natCast_mul, e]
  have habs : ((((H * 2 ^ k : Nat) : Int)) * (-((H * 2 ^ k : Nat) : Int))).natAbs = 2 ^ 1074 * (H * H * 2 ^ u) := by rw [hPW, Int.natAbs_neg, Int.natAbs_natCast]
  have hle : H * H * 2 ^ u ≤ 2 ^ (u + 53 + 53) := by
    rw [Nat.pow_add, Nat.pow_add]
    exact Nat.le_trans (Nat.mul_le_mul_right _ hsq2) (Nat.le_of_eq (by ac_rfl))
  obtain ⟨P, hP, hR⟩ := hh.mul hh.neg (by
    rw [habs]
    refine le_mx (Nat.mul_le_mul_left _ (Nat.le_trans hle ?_))
    exact Nat.pow_le_pow_right (by decide) (by grind))
  have hn := hR.near (p := u + 53) (Nat.two_pow_pos _) (by grind) (by rw [habs]; exact Nat.mul_le_mul_left _ hle)
  have hge : P ≤ -((2 ^ (52 + (52 + u)) : Nat) : Int) := by
    refine hR.le (Nat.two_pow_pos _) (by rw [Int.natAbs_neg, Int.natAbs_natCast]; exact rp_pow (by grind)) ?_
    rw [hPW, Int.mul_neg, ← Int.natCast_mul]
    have : 2 ^ 1074 * 2 ^ (52 + (52 + u)) ≤ 2 ^ 1074 * (H * H * 2 ^ u) := by
      refine Nat.mul_le_mul_left _ ?_
      rw [← Nat.add_assoc, Nat.pow_add, Nat.pow_add]
      exact Nat.mul_le_mul_right _ hsq
    omega
  obtain ⟨c, hc⟩ := rp_dvd (k := 52 + u) hP.rp (by omega)
  have hPc : P = -((c * 2 ^ 52 * 2 ^ u : Nat) : Int) := by
    rw [Nat.mul_assoc, ← Nat.pow_add, ← hc]
    have := Nat.two_pow_pos (52 + (52 + u))
    (clear this hc; lia)
  refine ⟨c, hPc ▸ hP, ?_⟩
  have e3 : (((H * 2 ^ k : Nat) : Int)) * (-((H * 2 ^ k : Nat) : Int)) - ((2 ^ 1074 : Nat) : Int) * P = ((2 ^ 1074 : Nat) : Int) * (((2 ^ u : Nat) : Int) * (((c * 2 ^ 52 : Nat) : Int) - (H * H : Nat))) := by
    rw [hPW, hPc, Int.natCast_mul (2 ^ 1074), Int.natCast_mul (H * H), Int.natCast_mul (c * 2 ^ 52)]
    generalize ((2 ^ 1074 : Nat) : Int) = a
    generalize ((2 ^ u : Nat) : Int) = b
    generalize ((H * H : Nat) : Int) = d
    generalize ((c * 2 ^ 52 : Nat) : Int) = e
    grind
  rw [e3, Int.natAbs_mul, Int.natAbs_mul, Int.natAbs_natCast, Int.natAbs_natCast, Nat.pow_add 2 u] at hn
  generalize (((c * 2 ^ 52 : Nat) : Int) - (H * H : Nat)).natAbs = z at *
  have h5 : (2 ^ 1074 * 2 ^ u) * (2 * z) ≤ (2 ^ 1074 * 2 ^ u) * 2 ^ 53 := by
    refine Nat.le_trans (Nat.le_of_eq ?_) (Nat.le_trans hn (Nat.le_of_eq ?_))
    · ac_rfl
    · ac_rfl
  have := Nat.le_of_mul_le_mul_left h5 (Nat.mul_pos (Nat.two_pow_pos _) (Nat.two_pow_pos _))
  lia
theorem sqrt_ev {m : UInt64} {N k1 : Nat} (hm : Ev m ((N * 2 ^ (2 * k1 - 1074) : Nat) : Int)) (hN : 0 < N) (hN2 : N ≤ 2 ^ 30) (hk1 : 1000 ≤ k1) : ∃ H κ k, Good N H κ ∧ κ + k = k1 ∧ Cn (Float64.sqrt m) ((H * 2 ^ k : Nat) : Int) := by
  obtain ⟨s, mm, e, d, v, hz⟩ := hm.dec
  have hpos : 0 < N * 2 ^ (2 * k1 - 1074) := Nat.mul_pos hN (Nat.two_pow_pos _)
  have hs : s = false := by
    have h1 := val_sgn d
    rw [v, Int.natAbs_natCast] at h1
    unfold sgn at h1
    cases s
    · rfl
    · simp only [if_true] at h1; omega
  subst hs
  obtain ⟨t, h1, h2, h3, h4⟩ := sqrt_right d (fun h => by have := hz.mp h; omega)
  rw [v, Int.natAbs_natCast, Nat.mul_assoc, ← Nat.pow_add, show 2 * k1 - 1074 + 1074 = 2 * k1 by grind] at h3 h4
  obtain ⟨H, κ, k, g, hk, hV⟩ := root_good hN hN2 (by lia  ) h3 h4
  refine ⟨H, κ, k, g, hk, t, h2, ?_, by rw [hV, Int.natAbs_natCast]⟩
  rw [h1, decide_eq_false (by lia  )]
theorem q_1 {A b m : Nat} {δ : Int} (h : δ.natAbs ≤ b) (hm : A + b ≤ m) : ((A : Int) + δ).natAbs ≤ m := by omega
theorem q_2 {A K b : Nat} {δ S : Int} (h : ((A : Int) + δ - ((1 : Nat) : Int) * S).natAbs ≤ ((A : Int) + δ - ((1 : Nat) : Int) * (A : Int)).natAbs) (hd : δ.natAbs ≤ b) (hb : 2 * b < K) : (S - (A : Int)).natAbs < K := by omega
theorem q_3 {A K L : Nat} {S : Int} (h : (S - (A : Int)).natAbs < K) (hl : L + K ≤ A) : L ≤ S.natAbs := by omega
theorem abs3 {r c : Int} (h1 : r ≤ c + 3) (h2 : c ≤ r + 3) : (r - c).natAbs ≤ 3 := by omega
theorem sqrtF_exact {x y : UInt64} {a b k1 : Nat} (hx : Ev x ((a * 2 ^ k1 : Nat) : Int)) (hy : Ev y ((b * 2 ^ k1 : Nat) : Int)) (ha : 0 < a) (hb : 0 < b) (ha2 : a ≤ 2 ^ 15) (hb2 : b ≤ 2 ^ 15) (hk1 : 1060 ≤ k1) (hk2 : k1 ≤ 1080) :
    ∃ H κ k, Good (a * b) H κ ∧ κ + k = k1 ∧ Cn (sqrtF x y) ((H * 2 ^ k : Nat) : Int) ∧ SqOk x y := by
  have hab : a * b ≤ 2 ^ 15 * 2 ^ 15 := Nat.mul_le_mul ha2 hb2
  have hab0 : 0 < a * b := Nat.mul_pos ha hb
  have hm : Ev (Float64.mul x y) ((a * b * 2 ^ (2 * k1 - 1074) : Nat) : Int) := by
    refine hx.mulE hy ?_ (by rw [Int.natAbs_natCast]; exact rp_of (by lia  ) (by grind))
    rw [← Int.natCast_mul, ← Int.natCast_mul]
    congr 1
    have e : 2 ^ k1 * 2 ^ k1 = 2 ^ 1074 * 2 ^ (2 * k1 - 1074) := by rw [← Nat.pow_add, ← Nat.pow_add]; congr 1; lia
    generalize 2 ^ (2 * k1 - 1074) = c at *
    generalize (2 : Nat) ^ 1074 = d at *
    generalize 2 ^ k1 = f at *
    grind
  obtain ⟨H, κ, k, g, hk, hh⟩ := sqrt_ev hm hab0 (by omega) (by lia  )
  have hHpos : 0 < H := Nat.lt_of_lt_of_le (by decide) g.lo
  have gk1 := g.k1
  have gk2 := g.k2
  have glo := g.lo
  have ghi := g.hi
  have gup := g.up
  have gdn := g.dn
  have heq := g.eq
  obtain ⟨u, hu⟩ : ∃ u, u + 1074 = 2 * k := ⟨2 * k - 1074, by lia  ⟩
  have hev : Ev (hF x y) ((H * 2 ^ k : Nat) : Int) := hh.ev
  have hHk0 : 0 < H * 2 ^ k := Nat.mul_pos hHpos (Nat.two_pow_pos _)
  have hz : Float64.isZero (hF x y) = false := by
    rw [hev.isZero]; exact decide_eq_false (by lia  )
  -- the number under the root, by the unit of h * h
  obtain ⟨r, hr⟩ : ∃ r, a * b * 4 ^ κ = r * 2 ^ 52 := ⟨a * b * 4 ^ (κ - 26), by
    have : (4 : Nat) ^ κ = 4 ^ (κ - 26) * 4 ^ 26 := by rw [← Nat.pow_add]; congr 1; lia
    rw [this, show (2 : Nat) ^ 52 = 4 ^ 26 by decide]; ac_rfl⟩
  have hm2 : (a * b * 2 ^ (2 * k1 - 1074) : Nat) = r * 2 ^ 52 * 2 ^ u := by
    have e : 2 ^ (2 * k1 - 1074) = 2 ^ κ * 2 ^ κ * 2 ^ u := by rw [← Nat.pow_add, ← Nat.pow_add]; congr 1; lia
    rw [e, ← hr, four_pow]; ac_rfl
  obtain ⟨c, hc1, hc2⟩ := hh_parts hu (by lia  ) glo ghi hev
  rw [hr] at gup gdn
  have hrc1 : (r : Int) ≤ c + 3 := by omega
  have hrc2 : (c : Int) ≤ r + 3 := by omega
  have hrc : ((r : Int) - c).natAbs ≤ 3 := abs3 hrc1 hrc2
  have s1 : TE (tlFma x y z3) ((r * 2 ^ 52 * 2 ^ u : Nat) : Int) 0 0 := by
    rw [hm2] at hm
    refine TE.zero.step (E := 0) (b' := 0) hx hy hm ?_ Rp.zero (Int.zero_add _) hm.rp (Int.add_zero _) Rp.zero
    rw [← hm2, Int.add_zero, ← Int.natCast_mul, ← Int.natCast_mul]
    congr 1
    have e : 2 ^ k1 * 2 ^ k1 = 2 ^ 1074 * 2 ^ (2 * k1 - 1074) := by rw [← Nat.pow_add, ← Nat.pow_add]; congr 1; lia
    generalize 2 ^ (2 * k1 - 1074) = c at *
    generalize (2 : Nat) ^ 1074 = d at *
    generalize 2 ^ k1 = f at *
    grind
  have hEabs : ((((c * 2 ^ 52 : Nat) : Int) - (H * H : Nat)) * ((2 ^ u : Nat) : Int)).natAbs.succ > 0 := Nat.succ_pos _
  have rE : Rp ((((c * 2 ^ 52 : Nat) : Int) - (H * H : Nat)) * ((2 ^ u : Nat) : Int)).natAbs := rp_int (by lia  ) (by lia  )
  have s2 : TE (tlFma (hF x y) (Float64.neg (hF x y)) (tlFma x y z3)) (((r : Int) - c) * ((2 ^ (52 + u) : Nat) : Int)) ((((c * 2 ^ 52 : Nat) : Int) - (H * H : Nat)) * ((2 ^ u : Nat) : Int)) 0 := by
    refine s1.step (E := (((c * 2 ^ 52 : Nat) : Int) - (H * H : Nat)) * ((2 ^ u : Nat) : Int)) hev hev.neg hc1 ?_ rE ?_ (rp_int (by lia  ) (by lia  )) (Int.zero_add _) rE
    · have e : ((2 ^ k : Nat) : Int) * ((2 ^ k : Nat) : Int) = ((2 ^ 1074 : Nat) : Int) * ((2 ^ u : Nat) : Int) := by
        rw [← Int.natCast_mul, ← Int.natCast_mul, ← Nat.pow_add, ← Nat.pow_add]; congr 2; lia
      rw [Int.natCast_mul H, Int.natCast_mul (c * 2 ^ 52), Int.natCast_mul H H]
      generalize ((2 ^ k : Nat) : Int) = p at *
      generalize ((2 ^ 1074 : Nat) : Int) = q at *
      generalize ((2 ^ u : Nat) : Int) = w at *
      generalize ((c * 2 ^ 52 : Nat) : Int) = z at *
      grind
    · rw [Nat.pow_add, Int.natCast_mul (2 ^ 52), Int.natCast_mul (r * 2 ^ 52), Int.natCast_mul (c * 2 ^ 52), Int.natCast_mul r, Int.natCast_mul c]
      generalize ((2 ^ u : Nat) : Int) = w at *
      generalize ((2 ^ 52 : Nat) : Int) = z at *
      grind
  have hD : (((r * 2 ^ 52 : Nat) : Int) - (H * H : Nat)).natAbs + 1 ≤ H := by lia
  have hD53 : (((r * 2 ^ 52 : Nat) : Int) - (H * H : Nat)).natAbs ≤ 2 ^ 53 := Nat.le_trans (Nat.le_of_succ_le hD) (Nat.le_of_lt ghi)
  have hdot : Ev (dotF [(x, y), (hF x y, Float64.neg (hF x y))]) ((((r * 2 ^ 52 : Nat) : Int) - (H * H : Nat)) * ((2 ^ u : Nat) : Int)) := by
    have s2' : TE (tlRun [(x, y), (hF x y, Float64.neg (hF x y))] z3) (((r : Int) - c) * ((2 ^ (52 + u) : Nat) : Int)) ((((c * 2 ^ 52 : Nat) : Int) - (H * H : Nat)) * ((2 ^ u : Nat) : Int)) 0 := s2
    refine (dot_cn s2' ?_ (rp_int hD53 (by lia  ))).ev
    rw [Nat.pow_add, Int.natCast_mul (2 ^ 52), Int.natCast_mul r, Int.natCast_mul c]
    generalize ((2 ^ u : Nat) : Int) = w at *
    generalize ((2 ^ 52 : Nat) : Int) = z at *
    grind
  have htwo : Ev (Float64.mul twoF (hF x y)) ((H * 2 ^ (k + 1) : Nat) : Int) := by
    refine two_ev.mulE hev ?_ (by rw [Int.natAbs_natCast]; exact rp_of (by lia  ) (by lia  ))
    have e2 : 2 ^ (k + 1) = 2 ^ k * 2 := Nat.pow_succ ..
    rw [e2, Int.natCast_mul H, Int.natCast_mul H, Int.natCast_mul (2 ^ k)]
    generalize ((2 ^ k : Nat) : Int) = p at *
    generalize ((2 ^ 1074 : Nat) : Int) = q at *
    grind
  have hHk1 : 0 < H * 2 ^ (k + 1) := Nat.mul_pos hHpos (Nat.two_pow_pos _)
  refine ⟨H, κ, k, g, hk, ?_, ⟨?_, hev.fin, fun h => absurd h (by rw [hz]; decide), fun _ => ⟨⟨s1.hi.fin, s2.hi.fin, trivial⟩, by rw [htwo.isZero]; exact decide_eq_false (by lia  )⟩⟩⟩
  · unfold sqrtF
    rw [if_neg (by rw [hz]; decide)]
    obtain ⟨D, hDD⟩ : ∃ D : Int, D = ((r * 2 ^ 52 : Nat) : Int) - (H * H : Nat) := ⟨_, rfl⟩
    rw [← hDD] at hdot hD
    have hdiv : (D * ((2 ^ u : Nat) : Int)).natAbs * 2 ^ 1074 ≤ H * 2 ^ (k + 1) * ((2 ^ 53 - 1) * 2 ^ (k - 54)) := by
      rw [Int.natAbs_mul, Int.natAbs_natCast, Nat.mul_assoc, ← Nat.pow_add, hu]
      have e1 : 2 ^ (2 * k) = 2 ^ (k + 1) * 2 ^ (k - 54) * 2 ^ 53 := by rw [← Nat.pow_add, ← Nat.pow_add]; congr 1; lia
      rw [e1]
      have h1 : D.natAbs * 2 ^ 53 ≤ H * (2 ^ 53 - 1) := pred_mul (by decide) ghi hD
      generalize 2 ^ (k + 1) = p
      generalize 2 ^ (k - 54) = q
      have h2 := Nat.mul_le_mul_right (p * q) h1
      refine Nat.le_trans (Nat.le_of_eq ?_) (Nat.le_trans h2 (Nat.le_of_eq ?_))
      · ac_rfl
      · ac_rfl
    have hrp : Rp ((2 ^ 53 - 1) * 2 ^ (k - 54)) := rp_of (by decide) (by lia  )
    obtain ⟨δ, hδ, hRδ⟩ := hdot.div htwo (by lia  ) (Nat.le_trans hdiv (Nat.mul_le_mul_left _ hrp.le_max))
    have hδb := hRδ.abs_le hHk1 hrp (by rw [Int.natAbs_mul, Int.natAbs_pow]; exact hdiv)
    have hkk : 2 ^ k = 2 ^ 54 * 2 ^ (k - 54) := by rw [← Nat.pow_add]; congr 1; lia
    have hp54 := Nat.two_pow_pos (k - 54)
    by_cases hD0 : D = 0
    · have : δ = 0 := hRδ.exact hHk1 Rp.zero (by rw [hD0]; simp)
      rw [this] at hδ
      exact (hev.addE hδ (Int.add_zero _) hev.rp).cn (by lia  )
    · have hH2 : 2 ^ 52 + 1 ≤ H := by
        rcases Nat.lt_or_ge H (2 ^ 52 + 1) with h | h
        · exfalso
          have h1 := heq (by omega)
          apply hD0
          rw [hr] at h1
          omega
        · exact h
      have hHmx : H * 2 ^ k + 2 ^ k ≤ 2 ^ 1990 := by
        have : (H + 1) * 2 ^ k ≤ 2 ^ 53 * 2 ^ k := Nat.mul_le_mul_right _ (by lia  )
        rw [← Nat.pow_add, Nat.add_mul, Nat.one_mul] at this
        exact Nat.le_trans this (Nat.pow_le_pow_right (by decide) (by lia  ))
      have hmx := mx_1990
      obtain ⟨S, hS, hRS⟩ := hev.add hδ (q_1 hδb (by lia))
      have hnear := hRS.2 ((H * 2 ^ k : Nat) : Int) hev.rp
      have hS2 : (S - ((H * 2 ^ k : Nat) : Int)).natAbs < 2 ^ k := q_2 hnear hδb (by lia)
      have hlow : (2 ^ 52 + 1) * 2 ^ k ≤ H * 2 ^ k := Nat.mul_le_mul_right _ hH2
      rw [Nat.add_mul, Nat.one_mul, ← Nat.pow_add] at hlow
      have hSpos : 2 ^ (52 + k) ≤ S.natAbs := q_3 hS2 (by lia)
      obtain ⟨c', hc'⟩ := rp_dvd hS.rp hSpos
      have hw := Nat.two_pow_pos (52 + k)
      have hSS : S = ((c' * 2 ^ k : Nat) : Int) := by
        rw [← hc']; grind
      rw [hSS] at hS hS2
      have hcc : c' = H := by
        rcases Nat.lt_trichotomy c' H with h | h | h
        · have : (c' + 1) * 2 ^ k ≤ H * 2 ^ k := Nat.mul_le_mul_right _ h
          rw [Nat.add_mul, Nat.one_mul] at this
          lia
        · exact h
        · have : (H + 1) * 2 ^ k ≤ c' * 2 ^ k := Nat.mul_le_mul_right _ h
          rw [Nat.add_mul, Nat.one_mul] at this
          grind
      subst hcc
      exact hS.cn (by omega)
  · rw [hm.notNaN, hev.notNaN]; decide
end Mine
end
section
set_option maxRecDepth 100000
set_option autoImplicit false
set_option exponentiation.threshold 3000
namespace Mine
open PySem PySem.Float64
open PySem.Builtin.Math (dlSum dlMul tlFma tlToFloat)

theorem scale_iff {m D W : Nat} (K : Nat) (hm : 0 < m) : D * K ≤ 2 * W ↔ m * D * K ≤ 2 * (m * W) := by
  rw [Nat.mul_assoc, Nat.mul_left_comm 2 m W]
  exact ⟨fun h => Nat.mul_le_mul_left _ h, fun h => Nat.le_of_mul_le_mul_left h hm⟩
theorem right_scale {r : UInt64} {s : Bool} {W D m : Nat} (R : Right r s W D) (hm : 0 < m) : Right r s (m * W) (m * D) := by
  obtain ⟨t, h1, h2, h3, h4⟩ := R
  refine ⟨t, h1, h2, ?_, fun h t' => ?_⟩
  · exact h3.trans (scale_iff _ hm)
  · obtain ⟨a, b⟩ := h4 h t'
    rw [Nat.mul_assoc, Nat.mul_assoc, dist_mul, dist_mul]
    exact ⟨Nat.mul_le_mul_left _ a, fun hv he => b hv (Nat.eq_of_mul_eq_mul_left hm he)⟩
theorem dist_mid {W X Y Z : Nat} (h1 : X < Y) (h2 : Y < Z) (a : dist W X ≤ dist W Y) (b : dist W Z ≤ dist W Y) : False := by
  unfold dist at *
  rcases Nat.le_total W Y with h | h
  · clear a
    rw [Nat.sub_eq_zero_of_le h, Nat.zero_add, Nat.sub_eq_zero_of_le (Nat.le_trans h (Nat.le_of_lt h2)), Nat.zero_add] at b
    lia
  · clear b
    rw [Nat.sub_eq_zero_of_le h, Nat.add_zero, Nat.sub_eq_zero_of_le (Nat.le_trans (Nat.le_of_lt h1) h), Nat.add_zero] at a
    lia
theorem right_uniq0 {r r' : UInt64} {s : Bool} {W D : Nat} (R : Right r s W D) (R' : Right r' s W D) (hD : 0 < D) : r = r' := by
  obtain ⟨t, h1, h2, h3, h4⟩ := R
  obtain ⟨t', h1', h2', h3', h4'⟩ := R'
  have key : ∀ {t t' : Nat}, (∀ t', dist W (D * V t) ≤ dist W (D * V t') ∧ (V t' ≠ V t → dist W (D * V t) = dist W (D * V t') → t % 2 = 0)) → (∀ t, dist W (D * V t') ≤ dist W (D * V t) ∧ (V t ≠ V t' → dist W (D * V t') = dist W (D * V t) → t' % 2 = 0)) → t < t' → False := by
    intro t t' h4 h4' hlt
    have a1 := (h4 t').1
    have a2 := (h4' t).1
    have he : dist W (D * V t) = dist W (D * V t') := by lia
    have hv := V_lt hlt
    have e1 := (h4 t').2 (by lia  ) he
    have e2 := (h4' t).2 (by lia  ) he.symm
    have hv1 : V t < V (t + 1) := V_succ t
    have hv2 : V (t + 1) < V t' := V_lt (by lia  )
    have b1 := (h4 (t + 1)).1
    have b2 := (h4' (t + 1)).1
    have c1 : D * V t < D * V (t + 1) := Nat.mul_lt_mul_of_pos_left hv1 hD
    have c2 : D * V (t + 1) < D * V t' := Nat.mul_lt_mul_of_pos_left hv2 hD
    exact dist_mid c1 c2 b1 b2
  have : t = t' := by
    by_cases hi : t = infMag
    · rw [hi]; exact (h3'.mpr (h3.mp hi)).symm
    · by_cases hi' : t' = infMag
      · exact absurd (h3.mpr (h3'.mp hi')) hi
      · have g := h4 (by lia  )
        have g' := h4' (by omega)
        rcases Nat.lt_trichotomy t t' with h | h | h
        · exact (key g g' h).elim
        · exact h
        · exact (key g' g h).elim
  rw [h1, h1', this]
theorem right_uniq {r r' : UInt64} {s : Bool} {W D W' D' : Nat} (R : Right r s W D) (R' : Right r' s W' D') (hD : 0 < D) (hD' : 0 < D') (e : W * D' = W' * D) : r = r' := by
  have h1 := right_scale R hD'
  have h2 := right_scale R' hD
  rw [Nat.mul_comm D' W, e, Nat.mul_comm W' D, Nat.mul_comm D' D] at h1
  exact right_uniq0 h1 h2 (Nat.mul_pos hD hD')
theorem Cn.dec {x : UInt64} {C : Int} (h : Cn x C) : ∃ m e, decode x = .fin (decide (C < 0)) m e ∧ val x = C ∧ (m = 0 ↔ C = 0) := by
  obtain ⟨t, h1, h2, h3⟩ := h
  obtain ⟨m, e, h4, h5⟩ := decode_pack (decide (C < 0)) h1
  refine ⟨m, e, by rw [h2]; exact h4, by rw [h2, val_pack _ h1, h3, sgn_abs], ?_⟩
  rw [h3] at h5
  constructor
  · intro q
    rw [q, Nat.zero_mul] at h5
    exact Int.natAbs_eq_zero.mp h5.symm
  · intro q
    rw [q] at h5
    rcases Nat.mul_eq_zero.mp h5 with q | q
    · exact q
    · exact absurd q (Nat.ne_of_gt (Nat.two_pow_pos _))
theorem Cn.div {x y : UInt64} {A : Int} {B : Nat} (hx : Cn x A) (hy : Cn y (B : Int)) (hB : 0 < B) : Right (Float64.div x y) (decide (A < 0)) (A.natAbs * 2 ^ 1074) B := by
  obtain ⟨m, e, d1, v1, _⟩ := hx.dec
  obtain ⟨k, f, d2, v2, hk⟩ := hy.dec
  have R := div_right d1 d2 (fun h => by have := hk.mp h; lia  )
  rw [v1, v2, Int.natAbs_natCast, decide_eq_false (p := (B : Int) < 0) (by lia  ), Bool.bne_false] at R
  exact R
theorem sqrt_zero {m : UInt64} (h : Ev m 0) : Float64.sqrt m = m := by
  obtain ⟨s, mm, e, d, v, hz⟩ := h.dec
  unfold Float64.sqrt
  rw [d, hz.mpr rfl]
  simp

section
variable {φ : Int → UInt64} {k0 k1 : Nat}
theorem zip_maps (φ : Int → UInt64) (ds es : List Int) : (ds.map φ).zip (es.map φ) = (ds.zip es).map fun p => (φ p.1, φ p.2) := by
  rw [List.zip_map]; rfl
noncomputable def Small (ds : List Int) : Prop := (∀ d ∈ ds, d.natAbs ≤ 64) ∧ ds.length ≤ 64
theorem Small.zip {ds es : List Int} (h : Small ds) (h' : Small es) : (∀ p ∈ ds.zip es, p.1.natAbs ≤ 64 ∧ p.2.natAbs ≤ 64) ∧ (ds.zip es).length ≤ 64 := by
  refine ⟨fun p hp => ?_, by rw [List.length_zip]; exact Nat.le_trans (Nat.min_le_left _ _) h.2⟩
  have := List.of_mem_zip hp
  exact ⟨h.1 _ this.1, h'.1 _ this.2⟩
theorem dotI_nonneg : ∀ ds : List Int, 0 ≤ dotI (ds.zip ds)
  | [] => by decide
  | d :: ds => by
    have := dotI_nonneg ds
    have e : dotI ((d :: ds).zip (d :: ds)) = d * d + dotI (ds.zip ds) := rfl
    have h2 := Int.natAbs_mul_self (a := d)
    lia
noncomputable def ssq (ds : List Int) : Nat := (dotI (ds.zip ds)).toNat
theorem ssq_eq (ds : List Int) : (ssq ds : Int) = dotI (ds.zip ds) := Int.toNat_of_nonneg (dotI_nonneg ds)
theorem corr_exact (hφ : ∀ d : Int, d.natAbs ≤ 64 → Ev (φ d) (d * ((2 ^ k0 : Nat) : Int))) (hk : 2 * k0 = k1 + 1074) (hk1 : 1060 ≤ k1) (hk2 : k1 ≤ 1080) {ds es : List Int} (hd : Small ds) (he : Small es) (hl : ds.length = es.length) (h0 : 0 < ds.length) (ha : ssq ds ≤ 2 ^ 15) (hb : ssq es ≤ 2 ^ 15) :
    CorrOk (ds.map φ) (es.map φ) ∧ ((ssq ds = 0 ∨ ssq es = 0) → corrF (ds.map φ) (es.map φ) = none) ∧
      (0 < ssq ds → 0 < ssq es → ∃ H κ k r, Good (ssq ds * ssq es) H κ ∧ κ + k = k1 ∧ corrF (ds.map φ) (es.map φ) = some r ∧ Right r (decide (dotI (ds.zip es) < 0)) ((dotI (ds.zip es)).natAbs * 2 ^ k1 * 2 ^ 1074) (H * 2 ^ k)) := by
  obtain ⟨xy1, xy2⟩ := dot_exact hφ hk (by grind) _ (hd.zip he).1 (hd.zip he).2
  obtain ⟨xx1, xx2⟩ := dot_exact hφ hk (by grind) _ (hd.zip hd).1 (hd.zip hd).2
  obtain ⟨yy1, yy2⟩ := dot_exact hφ hk (by grind) _ (he.zip he).1 (he.zip he).2
  rw [← zip_maps] at xy1 xy2 xx1 xx2 yy1 yy2
  rw [← ssq_eq, ← Int.natCast_mul] at xx2 yy2
  have hcase : (ssq ds = 0 ∨ ssq es = 0) ∨ (0 < ssq ds ∧ 0 < ssq es) := by lia
  have mk : SqOk (dotF ((ds.map φ).zip (ds.map φ))) (dotF ((es.map φ).zip (es.map φ))) → CorrOk (ds.map φ) (es.map φ) := fun sq => ⟨by simpa using hl, by simpa using h0, xy1, xx1, yy1, sq⟩
  rcases hcase with hz | ⟨hp, hq⟩
  · have hm : Ev (Float64.mul (dotF ((ds.map φ).zip (ds.map φ))) (dotF ((es.map φ).zip (es.map φ)))) 0 := by
      refine xx2.ev.mulE yy2.ev ?_ Rp.zero
      rcases hz with h | h <;> rw [h] <;> simp
    have hh : Ev (hF (dotF ((ds.map φ).zip (ds.map φ))) (dotF ((es.map φ).zip (es.map φ)))) 0 := by
      unfold hF; rw [sqrt_zero hm]; exact hm
    have hzero := hh.isZero
    simp only [decide_true] at hzero
    refine ⟨mk ⟨by rw [hh.notNaN]; simp, hh.fin, fun _ => ?_, fun h => absurd hzero h⟩, fun _ => ?_, fun h1 h2 => by omega⟩
    · rw [xx2.ev.isZero, yy2.ev.isZero]
      rcases hz with h | h
      · left; rw [h]; simp
      · right; rw [h]; simp
    · unfold corrF
      rw [if_pos]
      unfold sqrtF
      rw [if_pos hzero]; exact hzero
  · obtain ⟨H, κ, k, g, hkk, hs, sq⟩ := sqrtF_exact xx2.ev yy2.ev hp hq ha hb hk1 hk2
    have hHk : 0 < H * 2 ^ k := Nat.mul_pos (Nat.lt_of_lt_of_le (by decide) g.lo) (Nat.two_pow_pos _)
    refine ⟨mk sq, fun h => by lia  , fun _ _ => ⟨H, κ, k, Float64.div (dotF ((ds.map φ).zip (es.map φ))) (sqrtF (dotF ((ds.map φ).zip (ds.map φ))) (dotF ((es.map φ).zip (es.map φ)))), g, hkk, ?_, ?_⟩⟩
    · unfold corrF
      rw [if_neg]
      rw [hs.ev.isZero, decide_eq_false (by lia  )]
      decide
    · have R := xy2.div hs hHk
      have e1 : decide (dotI (ds.zip es) * ((2 ^ k1 : Nat) : Int) < 0) = decide (dotI (ds.zip es) < 0) := by
        have hp := Nat.two_pow_pos k1
        generalize 2 ^ k1 = P at hp
        generalize dotI (ds.zip es) = z
        by_cases h : z < 0
        · have : z * (P : Int) < 0 := Int.mul_neg_of_neg_of_pos h (by lia  )
          simp [h, this]
        · have : ¬ z * (P : Int) < 0 := Int.not_lt.mpr (Int.mul_nonneg (Int.not_lt.mp h) (by lia  ))
          simp [h, this]
      rw [e1, Int.natAbs_mul, Int.natAbs_natCast] at R
      exact R
end
end Mine
end
section
set_option maxRecDepth 100000
set_option autoImplicit false
set_option exponentiation.threshold 3000
namespace Mine
open PySem PySem.Float64

noncomputable def ltC (ns : List Int) (v : Int) : Nat := ns.countP fun x => decide (x < v)
noncomputable def eqC (ns : List Int) (v : Int) : Nat := ns.countP fun x => decide (x = v)
noncomputable def gtC (ns : List Int) (v : Int) : Nat := ns.countP fun x => decide (v < x)
theorem place_eq (ns : List Int) (v : Int) : place ns v = 2 * ltC ns v + eqC ns v := rfl
theorem three (v : Int) : ∀ ns : List Int, ltC ns v + eqC ns v + gtC ns v = ns.length
  | [] => rfl
  | x :: ns => by
    have h := three v ns
    unfold ltC eqC gtC at *
    simp only [List.countP_cons, List.length_cons]
    rcases Int.lt_trichotomy x v with q | q | q
    · simp [q, show ¬ v < x by lia  , show x ≠ v by lia  ]; lia
    · subst q; simp; lia
    · simp [q, show ¬ x < v by lia  , show x ≠ v by lia  ]; lia
theorem count_step (v : Int) (ns : List Int) : ∀ ms : List Int, (ms.map fun x => gtC (v :: ns) x).sum = ltC ms v + (ms.map fun x => gtC ns x).sum
  | [] => rfl
  | x :: ms => by
    have h := count_step v ns ms
    unfold ltC gtC at *
    simp only [List.map_cons, List.sum_cons, List.countP_cons] at h ⊢
    lia
theorem double_count (ms : List Int) : ∀ ns : List Int, (ns.map fun v => ltC ms v).sum = (ms.map fun x => gtC ns x).sum
  | [] => by
    have : ∀ ms : List Int, (ms.map fun x => gtC [] x).sum = 0 := by
      intro ms
      induction ms with
      | nil => rfl
      | cons x ms ih => simp only [List.map_cons, List.sum_cons, ih]; rfl
    rw [this]; rfl
  | v :: ns => by
    rw [count_step, ← double_count ms ns]; rfl
theorem place_gt (ns : List Int) : ∀ l : List Int, (l.map fun v => place ns v).sum + (l.map fun v => gtC ns v).sum = l.length * ns.length + (l.map fun v => ltC ns v).sum
  | [] => by simp
  | v :: l => by
    have h := place_gt ns l
    have h3 := three v ns
    simp only [List.map_cons, List.sum_cons, List.length_cons, place_eq, Nat.add_mul, Nat.one_mul] at h ⊢
    lia
theorem place_sum (ns : List Int) : (ns.map fun v => place ns v).sum = ns.length * ns.length := by
  have h1 := place_gt ns ns
  have h2 := double_count ns ns
  lia
theorem sum_castI (f : Int → Nat) : ∀ l : List Int, (l.map fun v => (f v : Int)).sum = (((l.map f).sum : Nat) : Int)
  | [] => rfl
  | v :: l => by
    have := sum_castI f l
    simp only [List.map_cons, List.sum_cons]
    lia
theorem places_sum (ns : List Int) : (places ns).sum = ((ns.length * ns.length : Nat) : Int) := by
  unfold places
  rw [sum_castI (place ns), place_sum]
noncomputable def dl (ns : List Int) : List Int := ns.map fun v => (place ns v : Int) - ns.length
theorem dl_len (ns : List Int) : (dl ns).length = ns.length := by unfold dl; simp
theorem rankD_eq (ns : List Int) : rankD ns = (dl ns).map hf := by
  unfold rankD dl; rw [List.map_map]; rfl
theorem place_bd {ns : List Int} (v : Int) : place ns v ≤ 2 * ns.length := by
  have h := three v ns
  rw [place_eq]; lia
theorem dl_abs {ns : List Int} : ∀ d ∈ dl ns, d.natAbs ≤ ns.length := by
  intro d hd
  obtain ⟨v, _, rfl⟩ := List.mem_map.mp hd
  have := place_bd (ns := ns) v
  lia
theorem dl_small {ns : List Int} (h : ns.length ≤ 31) : Small (dl ns) := ⟨fun d hd => by have := dl_abs d hd; lia  , by rw [dl_len]; lia  ⟩
theorem ssq_bound {B : Nat} : ∀ (ds : List Int), (∀ d ∈ ds, d.natAbs ≤ B) → ssq ds ≤ ds.length * (B * B) ∧ 0 ≤ dotI (ds.zip ds)
  | [], _ => ⟨Nat.zero_le _, Int.le_refl _⟩
  | d :: ds, h => by
    obtain ⟨h1, h0⟩ := ssq_bound ds (fun e he => h e (.tail _ he))
    have h2 := h d (.head _)
    have h3 := Nat.mul_le_mul h2 h2
    have e : dotI ((d :: ds).zip (d :: ds)) = d * d + dotI (ds.zip ds) := rfl
    have h4 := Int.natAbs_mul_self (a := d)
    unfold ssq at *
    rw [e]
    simp only [List.length_cons, Nat.add_mul, Nat.one_mul]
    omega
theorem dl_ssq {ns : List Int} (h : ns.length ≤ 31) : ssq (dl ns) ≤ 2 ^ 15 := by
  obtain ⟨h1, _⟩ := ssq_bound (B := ns.length) (dl ns) (fun d hd => dl_abs d hd)
  rw [dl_len] at h1
  have h2 : ns.length * (ns.length * ns.length) ≤ 31 * (31 * 31) := Nat.mul_le_mul h (Nat.mul_le_mul h h)
  lia
theorem hf_cn {z : Int} (h : z.natAbs ≤ 2 ^ 52) : Cn (hf z) (z * ((2 ^ 1073 : Nat) : Int)) := by
  obtain ⟨t, h1, h2, h3⟩ := hf_pack h
  have hn : ((2 ^ 1073 : Nat) : Int) = 2 ^ 1073 := natCast_pow2 _
  exact ⟨t, h1, by rw [hn, neg_iff]; exact h2, by rw [h3, hn, abs_cast]⟩
theorem mean_eq {ns : List Int} (h0 : 0 < ns.length) (h : ns.length ≤ 31) : meanF (places ns) = hf (2 * (ns.length : Int)) := by
  have hl : (places ns).length = ns.length := by unfold places; simp
  have hsq : ns.length * ns.length ≤ 31 * 31 := Nat.mul_le_mul h h
  unfold meanF
  rw [places_sum, hl, hf_ofInt (by grind)]
  have c1 := hf_cn (z := 2 * ((ns.length * ns.length : Nat) : Int)) (by lia  )
  have c2 := hf_cn (z := 2 * (ns.length : Int)) (by lia  )
  have e2 : (2 * (ns.length : Int)) * ((2 ^ 1073 : Nat) : Int) = ((2 * ns.length * 2 ^ 1073 : Nat) : Int) := by
    rw [Int.natCast_mul (2 * ns.length), Int.natCast_mul 2]; rfl
  have hpos : 0 < 2 * ns.length * 2 ^ 1073 := Nat.mul_pos (by lia  ) (Nat.two_pow_pos _)
  rw [e2] at c2
  have R := c1.div c2 hpos
  have e1 : 2 * ((ns.length * ns.length : Nat) : Int) * ((2 ^ 1073 : Nat) : Int) = ((2 * (ns.length * ns.length) * 2 ^ 1073 : Nat) : Int) := by
    rw [Int.natCast_mul (2 * (ns.length * ns.length)), Int.natCast_mul 2]; rfl
  rw [e1, decide_eq_false (by lia  ), Int.natAbs_natCast] at R
  have hrp : Rp (2 * ns.length * 2 ^ 1073) := rp_of (by lia  ) (by decide)
  have hW : 2 * (ns.length * ns.length) * 2 ^ 1073 * 2 ^ 1074 = 2 * ns.length * 2 ^ 1073 * (2 * ns.length * 2 ^ 1073) := by
    rw [show (2 : Nat) ^ 1074 = 2 ^ 1073 * 2 from pow1074]
    generalize (2 : Nat) ^ 1073 = P
    grind
  obtain ⟨C, hC, hR⟩ := rnd_of R hpos (by rw [hW]; exact Nat.mul_le_mul_left _ hrp.le_max) (C := ((2 * ns.length * 2 ^ 1073 * (2 * ns.length * 2 ^ 1073) : Nat) : Int)) (by rw [hW]; rfl)
  have hCe := hR.exact hpos (Z := ((2 * ns.length * 2 ^ 1073 : Nat) : Int)) (by rw [Int.natAbs_natCast]; exact hrp) (by rw [← Int.natCast_mul])
  rw [hCe] at hC
  exact (hC.cn (by lia  )).uniq c2
theorem devF_eq {ns : List Int} (h0 : 0 < ns.length) (h : ns.length ≤ 31) : devF (places ns) = (dl ns).map fun d => hf (2 * d) := by
  unfold devF linD
  rw [mean_eq h0 h]
  unfold places dl
  rw [List.map_map, List.map_map]
  apply List.map_congr_left
  intro v _
  have := place_bd (ns := ns) v
  show Float64.sub (Float64.ofInt ((place ns v : Nat) : Int)) (hf (2 * (ns.length : Int))) = hf (2 * ((place ns v : Int) - ns.length))
  rw [hf_ofInt (by lia  ), hf_sub (by lia  ) (by grind) (by lia  )]
  congr 1; lia
theorem eqC_pos {ns : List Int} {v : Int} (h : v ∈ ns) : 0 < eqC ns v := by
  unfold eqC
  exact List.countP_pos_iff.mpr ⟨v, h, by simp⟩
theorem lt_eq_le {v w : Int} (h : v < w) : ∀ ns : List Int, ltC ns v + eqC ns v ≤ ltC ns w
  | [] => Nat.le_refl _
  | x :: ns => by
    have ih := lt_eq_le h ns
    unfold ltC eqC at *
    simp only [List.countP_cons]
    rcases Int.lt_trichotomy x v with q | q | q
    · simp [q, show x ≠ v by lia  , show x < w by lia  ]; omega
    · subst q; simp [h]; omega
    · simp [show ¬ x < v by lia  , show x ≠ v by lia  ]; omega
theorem place_lt {ns : List Int} {v w : Int} (h : v < w) (hv : v ∈ ns) : place ns v < place ns w := by
  have h1 := eqC_pos hv
  have h2 := lt_eq_le h ns
  rw [place_eq, place_eq]; lia
theorem allEq_zero {ns : List Int} (h : AllEq ns) : ssq (dl ns) = 0 := by
  have hd : ∀ d ∈ dl ns, d.natAbs ≤ 0 := by
    intro d hd
    obtain ⟨v, hv, rfl⟩ := List.mem_map.mp hd
    have h1 : eqC ns v = ns.length := List.countP_eq_length.mpr (fun x hx => by simp [h x hx v hv])
    have h2 := three v ns
    rw [place_eq]; lia
  have := (ssq_bound (dl ns) hd).1
  lia
theorem zero_all : ∀ (ds : List Int), ssq ds = 0 → ∀ d ∈ ds, d = 0
  | [], _, _, h => nomatch h
  | e :: ds, h, d, hd => by
    have h0 := dotI_nonneg ds
    have e1 : dotI ((e :: ds).zip (e :: ds)) = e * e + dotI (ds.zip ds) := rfl
    have h4 := Int.natAbs_mul_self (a := e)
    have h5 : ssq ds = 0 ∧ e.natAbs * e.natAbs = 0 := by
      unfold ssq at *
      rw [e1] at h
      grind
    rcases List.mem_cons.mp hd with rfl | hd
    · rcases Nat.mul_eq_zero.mp h5.2 with q | q <;> exact Int.natAbs_eq_zero.mp q
    · exact zero_all ds h5.1 d hd
theorem zero_allEq {ns : List Int} (h : ssq (dl ns) = 0) : AllEq ns := by
  intro a ha b hb
  have h1 := zero_all _ h _ (List.mem_map.mpr ⟨a, ha, rfl⟩)
  have h2 := zero_all _ h _ (List.mem_map.mpr ⟨b, hb, rfl⟩)
  rcases Int.lt_trichotomy a b with q | q | q
  · have := place_lt q ha; lia
  · exact q
  · have := place_lt q hb; lia
theorem ltC_negs (ns : List Int) (v : Int) : ltC (negs ns) (-v) = gtC ns v := by
  unfold ltC gtC negs
  rw [List.countP_map]
  apply List.countP_congr
  intro x _
  simp
theorem eqC_negs (ns : List Int) (v : Int) : eqC (negs ns) (-v) = eqC ns v := by
  unfold eqC negs
  rw [List.countP_map]
  apply List.countP_congr
  intro x _
  simp
theorem dl_negs (ns : List Int) : dl (negs ns) = (dl ns).map fun d => -d := by
  unfold dl
  rw [List.map_map]
  have hl : (negs ns).length = ns.length := by unfold negs; simp
  rw [hl]
  show ((ns.map fun v => -v).map _) = _
  rw [List.map_map]
  apply List.map_congr_left
  intro v _
  show ((place (negs ns) (-v) : Nat) : Int) - ns.length = -((place ns v : Int) - ns.length)
  have h := three v ns
  rw [place_eq, place_eq, ltC_negs, eqC_negs]
  lia
theorem dot_neg : ∀ (ds es : List Int), dotI ((ds.map fun d => -d).zip es) = -dotI (ds.zip es)
  | [], _ => rfl
  | _ :: _, [] => rfl
  | d :: ds, e :: es => by
    have h := dot_neg ds es
    have e1 : dotI (((d :: ds).map fun d => -d).zip (e :: es)) = -d * e + dotI ((ds.map fun d => -d).zip es) := rfl
    have e2 : dotI ((d :: ds).zip (e :: es)) = d * e + dotI (ds.zip es) := rfl
    rw [e1, e2, h, Int.neg_mul]; lia
theorem ssq_neg (ds : List Int) : ssq (ds.map fun d => -d) = ssq ds := by
  unfold ssq
  congr 1
  induction ds with
  | nil => rfl
  | cons d ds ih =>
    have e1 : dotI (((d :: ds).map fun d => -d).zip ((d :: ds).map fun d => -d)) = -d * -d + dotI ((ds.map fun d => -d).zip (ds.map fun d => -d)) := rfl
    have e2 : dotI ((d :: ds).zip (d :: ds)) = d * d + dotI (ds.zip ds) := rfl
    rw [e1, e2, ih, Int.neg_mul_neg]
end Mine
end
section
set_option maxRecDepth 100000
set_option autoImplicit false
set_option exponentiation.threshold 3000
namespace Mine
open PySem PySem.Float64

theorem hf_ev1 : ∀ d : Int, d.natAbs ≤ 64 → Ev (hf d) (d * ((2 ^ 1073 : Nat) : Int)) := fun d h => (hf_cn (by lia  )).ev
theorem hf_ev2 : ∀ d : Int, d.natAbs ≤ 64 → Ev ((fun d => hf (2 * d)) d) (d * ((2 ^ 1074 : Nat) : Int)) := fun d h => by
  have h1 := (hf_cn (z := 2 * d) (by lia  )).ev
  have e : (2 : Nat) ^ 1074 = 2 ^ 1073 * 2 := pow1074
  rw [e, Int.natCast_mul]
  have e2 : 2 * d * ((2 ^ 1073 : Nat) : Int) = d * (((2 ^ 1073 : Nat) : Int) * ((2 : Nat) : Int)) := by
    generalize ((2 ^ 1073 : Nat) : Int) = P
    show 2 * d * P = d * (P * 2)
    grind
  rw [← e2]; exact h1
section
variable {xs ys : List Int}
theorem corr_rank (hl : xs.length = ys.length) (h0 : 0 < xs.length) (h : xs.length ≤ 31) : CorrOk (rankD xs) (rankD ys) ∧ ((ssq (dl xs) = 0 ∨ ssq (dl ys) = 0) → corrF (rankD xs) (rankD ys) = none) ∧
      (0 < ssq (dl xs) → 0 < ssq (dl ys) → ∃ H κ k r, Good (ssq (dl xs) * ssq (dl ys)) H κ ∧ κ + k = 1072 ∧ corrF (rankD xs) (rankD ys) = some r ∧ Right r (decide (dotI ((dl xs).zip (dl ys)) < 0)) ((dotI ((dl xs).zip (dl ys))).natAbs * 2 ^ 1072 * 2 ^ 1074) (H * 2 ^ k)) := by
  rw [rankD_eq, rankD_eq]
  exact corr_exact hf_ev1 (by decide) (by decide) (by decide) (dl_small h) (dl_small (by lia  )) (by rw [dl_len, dl_len]; exact hl) (by rw [dl_len]; exact h0) (dl_ssq h) (dl_ssq (by lia  ))
theorem corr_dev (hl : xs.length = ys.length) (h0 : 0 < xs.length) (h : xs.length ≤ 31) : CorrOk (devF (places xs)) (devF (places ys)) ∧ ((ssq (dl xs) = 0 ∨ ssq (dl ys) = 0) → corrF (devF (places xs)) (devF (places ys)) = none) ∧
      (0 < ssq (dl xs) → 0 < ssq (dl ys) → ∃ H κ k r, Good (ssq (dl xs) * ssq (dl ys)) H κ ∧ κ + k = 1074 ∧ corrF (devF (places xs)) (devF (places ys)) = some r ∧ Right r (decide (dotI ((dl xs).zip (dl ys)) < 0)) ((dotI ((dl xs).zip (dl ys))).natAbs * 2 ^ 1074 * 2 ^ 1074) (H * 2 ^ k)) := by
  rw [devF_eq h0 h, devF_eq (by lia  ) (by lia  )]
  exact corr_exact hf_ev2 (by decide) (by decide) (by decide) (dl_small h) (dl_small (by lia  )) (by rw [dl_len, dl_len]; exact hl) (by rw [dl_len]; exact h0) (dl_ssq h) (dl_ssq (by lia  ))
structure Told (xs ys : List Int) (r : UInt64) (H κ : Nat) : Prop where
  px : 0 < ssq (dl xs)
  py : 0 < ssq (dl ys)
  g : Good (ssq (dl xs) * ssq (dl ys)) H κ
  R : Right r (decide (dotI ((dl xs).zip (dl ys)) < 0)) ((dotI ((dl xs).zip (dl ys))).natAbs * 2 ^ κ * 2 ^ 1074) H
theorem good_pos {N H κ : Nat} (g : Good N H κ) : 0 < H := Nat.lt_of_lt_of_le (by decide) g.lo
theorem told_of {s : Bool} {r : UInt64} {J H κ k k1 : Nat} (hk : κ + k = k1) (R : Right r s (J * 2 ^ k1 * 2 ^ 1074) (H * 2 ^ k)) {r' : UInt64} (R' : Right r' s (J * 2 ^ κ * 2 ^ 1074) H) (hH : 0 < H) : r = r' := by
  refine right_uniq R R' (Nat.mul_pos hH (Nat.two_pow_pos _)) hH ?_
  rw [← hk, Nat.pow_add]
  ac_rfl
theorem told_right {s : Bool} {r : UInt64} {J H κ k k1 : Nat} (hk : κ + k = k1) (R : Right r s (J * 2 ^ k1 * 2 ^ 1074) (H * 2 ^ k)) (hH : 0 < H) : Right r s (J * 2 ^ κ * 2 ^ 1074) H := by
  have h1 : Right (Float64.ofFrac s (J * 2 ^ κ) H) s (J * 2 ^ κ * 2 ^ 1074) H := ofFrac_right hH (by rfl) hH
  rw [told_of hk R h1 hH]; exact h1
theorem told_bound {J H κ a b : Nat} (g : Good (a * b) H κ) (hJ : J ≤ 2 ^ 18) : J * 2 ^ κ * 2 ^ 1074 ≤ H * 2 ^ 1990 := by
  have h1 : 2 ^ κ ≤ 2 ^ 53 := Nat.pow_le_pow_right (by decide) g.k2
  have h2 : J * 2 ^ κ ≤ 2 ^ 18 * 2 ^ 53 := Nat.mul_le_mul hJ h1
  have h3 : J * 2 ^ κ * 2 ^ 1074 ≤ 2 ^ 18 * 2 ^ 53 * 2 ^ 1074 := Nat.mul_le_mul_right _ h2
  have h4 : 1 * 2 ^ 1990 ≤ H * 2 ^ 1990 := Nat.mul_le_mul_right _ (good_pos g)
  refine Nat.le_trans h3 (Nat.le_trans ?_ h4)
  rw [← Nat.pow_add, ← Nat.pow_add, Nat.one_mul]
  exact Nat.pow_le_pow_right (by decide) (by decide)
theorem dot_small (hl : xs.length = ys.length) (h : xs.length ≤ 31) : (dotI ((dl xs).zip (dl ys))).natAbs ≤ 2 ^ 18 := by
  have h1 := (dl_small h).zip (dl_small (ns := ys) (by lia  ))
  have := dot_bound _ h1.1
  have h2 := h1.2
  lia
theorem some_pos (hl : xs.length = ys.length) (h0 : 0 < xs.length) (h : xs.length ≤ 31) {r : UInt64} (e : corrF (rankD xs) (rankD ys) = some r) : ∃ H κ, Told xs ys r H κ := by
  obtain ⟨c1, c2, c3⟩ := corr_rank hl h0 h
  have hp : 0 < ssq (dl xs) ∧ 0 < ssq (dl ys) := by
    by_cases q : ssq (dl xs) = 0 ∨ ssq (dl ys) = 0
    · rw [c2 q] at e; cases e
    · lia
  obtain ⟨H, κ, k, r', g, hk, e', R⟩ := c3 hp.1 hp.2
  rw [e] at e'
  cases e'
  exact ⟨H, κ, hp.1, hp.2, g, told_right hk R (good_pos g)⟩
theorem Told.ev {r : UInt64} {H κ : Nat} (t : Told xs ys r H κ) (hl : xs.length = ys.length) (h : xs.length ≤ 31) : ∃ C, Ev r C ∧ Rnd (dotI ((dl xs).zip (dl ys)) * ((2 ^ κ * 2 ^ 1074 : Nat) : Int)) H C := by
  refine rnd_of t.R (good_pos t.g) (le_mx (told_bound t.g (dot_small hl h))) ?_
  rw [Nat.mul_assoc, sgn_mul, sgn_abs]
theorem numOk (hl : xs.length = ys.length) (h0 : 0 < xs.length) (h : xs.length ≤ 31) : NumOk xs ys := by
  obtain ⟨c1, c2, c3⟩ := corr_rank hl h0 h
  obtain ⟨d1, d2, d3⟩ := corr_dev hl h0 h
  refine ⟨c1, d1, ?_, fun r e => ?_⟩
  · by_cases q : ssq (dl xs) = 0 ∨ ssq (dl ys) = 0
    · rw [c2 q, d2 q]
    · obtain ⟨H, κ, k, r, g, hk, e, R⟩ := c3 (by lia  ) (by lia  )
      obtain ⟨H', κ', k', r', g', hk', e', R'⟩ := d3 (by lia  ) (by lia  )
      obtain ⟨rfl, rfl⟩ := g.uniq g'
      rw [e, e', told_of hk' R' (told_right hk R (good_pos g)) (good_pos g)]
  · obtain ⟨H, κ, t⟩ := some_pos hl h0 h e
    obtain ⟨C, hC, _⟩ := t.ev hl h
    rw [hC.cmp hC]
    simp
theorem negs_len (xs : List Int) : (negs xs).length = xs.length := by unfold negs; simp
theorem numConst (hl : xs.length = ys.length) (h0 : 0 < xs.length) (h : xs.length ≤ 31) (q : AllEq xs ∨ AllEq ys) : corrF (rankD xs) (rankD ys) = none := by
  obtain ⟨c1, c2, c3⟩ := corr_rank hl h0 h
  exact c2 (q.imp allEq_zero allEq_zero)
theorem numVar (hl : xs.length = ys.length) (h0 : 0 < xs.length) (h : xs.length ≤ 31) (q1 : ¬ AllEq xs) (q2 : ¬ AllEq ys) : ∃ r, corrF (rankD xs) (rankD ys) = some r := by
  obtain ⟨c1, c2, c3⟩ := corr_rank hl h0 h
  obtain ⟨H, κ, k, r, g, hk, e, R⟩ := c3 (Nat.pos_of_ne_zero fun z => q1 (zero_allEq z)) (Nat.pos_of_ne_zero fun z => q2 (zero_allEq z))
  exact ⟨r, e⟩
theorem numNeg (hl : xs.length = ys.length) (h0 : 0 < xs.length) (h : xs.length ≤ 31) (r : UInt64) (e : corrF (rankD xs) (rankD ys) = some r) : CorrOk (rankD (negs xs)) (rankD ys) ∧ ∃ r', corrF (rankD (negs xs)) (rankD ys) = some r' ∧ Float64.cmp r' (Float64.neg r) = some .eq := by
  have hn := negs_len xs
  obtain ⟨c1, c2, c3⟩ := corr_rank (xs := negs xs) (ys := ys) (by lia  ) (by lia  ) (by lia  )
  refine ⟨c1, ?_⟩
  obtain ⟨H, κ, t⟩ := some_pos hl h0 h e
  rw [dl_negs, ssq_neg, dot_neg] at c3
  obtain ⟨H', κ', k', r', g', hk', e', R'⟩ := c3 t.px t.py
  obtain ⟨rfl, rfl⟩ := t.g.uniq g'
  refine ⟨r', e', ?_⟩
  have R2 := told_right hk' R' (good_pos g')
  have R1 := t.R
  have hb := told_bound t.g (dot_small hl h)
  rw [Int.natAbs_neg] at R2
  generalize hJ : dotI ((dl xs).zip (dl ys)) = J at *
  have hH := good_pos g'
  by_cases hz : J = 0
  · subst hz
    obtain ⟨C, hC, hR⟩ := rnd_of R1 hH (le_mx hb) (C := 0) (by simp; exact sgn_zero _)
    obtain ⟨C', hC', hR'⟩ := rnd_of R2 hH (le_mx hb) (C := 0) (by simp; exact sgn_zero _)
    have z1 := hR.exact (Z := 0) hH Rp.zero (Int.mul_zero _).symm
    have z2 := hR'.exact (Z := 0) hH Rp.zero (Int.mul_zero _).symm
    rw [hC'.cmp hC.neg, z1, z2]; simp
  · obtain ⟨t, h1, h2, h3, h4⟩ := R1
    have R3 : Right (pack (decide (-J < 0)) t) (decide (-J < 0)) (J.natAbs * 2 ^ κ * 2 ^ 1074) H := ⟨t, rfl, h2, h3, h4⟩
    have e3 := right_uniq0 R2 R3 hH
    obtain ⟨C, hC, hR⟩ := rnd_of (r := r) ⟨t, h1, h2, h3, h4⟩ hH (le_mx hb) rfl
    have ht : t < infMag := by
      rcases Nat.lt_or_ge t infMag with q | q
      · exact q
      · exfalso
        have h5 := h3.mp (Nat.le_antisymm h2 q)
        have hb2 := le_mx hb
        have h6 : H * ((2 ^ 54 - 1) * 2 ^ 2045) ≤ H * (2 * MX) := Nat.le_trans h5 (by rw [Nat.mul_left_comm H 2]; exact Nat.mul_le_mul_left 2 hb2)
        exact absurd (Nat.le_of_mul_le_mul_left h6 hH) (Nat.not_le.mpr mx_over)
    have v1 : Ev r (sgn (decide (J < 0)) (V t)) := ⟨_, t, ht, h1, rfl⟩
    have v2 : Ev r' (sgn (decide (-J < 0)) (V t)) := ⟨_, t, ht, e3, rfl⟩
    rw [v2.cmp v1.neg]
    have : sgn (decide (-J < 0)) (V t) = -sgn (decide (J < 0)) (V t) := by
      rw [← sgn_not]
      congr 1
      by_cases q : J < 0
      · simp [q]; lia
      · simp [q]; grind
    rw [this]; simp
end
end Mine
end
section
set_option maxRecDepth 100000
set_option autoImplicit false
set_option exponentiation.threshold 3000
namespace Mine
open PySem PySem.Float64

theorem dvd_two_pow : ∀ (j g : Nat), g ∣ 2 ^ j → ∃ i, g = 2 ^ i
  | 0, g, h => ⟨0, Nat.dvd_one.mp h⟩
  | j + 1, g, h => by
    rcases Nat.mod_two_eq_zero_or_one g with e | e
    · obtain ⟨g', rfl⟩ := Nat.dvd_of_mod_eq_zero e
      rw [Nat.pow_succ, Nat.mul_comm] at h
      obtain ⟨i, hi⟩ := dvd_two_pow j g' (Nat.dvd_of_mul_dvd_mul_right (by decide) h)
      exact ⟨i + 1, by rw [hi, Nat.pow_succ, Nat.mul_comm]⟩
    · have hc : Nat.Coprime g (2 ^ (j + 1)) := Nat.Coprime.pow_right _ (odd_co e).symm
      exact ⟨0, hc.eq_one_of_dvd h⟩
theorem ratio_spec {m : Nat} {e : Int} (he : -1074 ≤ e) : (∃ i, (ratio m e).2 = 2 ^ i) ∧ (ratio m e).1 * 2 ^ 1074 = m * 2 ^ (e + 1074).toNat * (ratio m e).2 ∧ (ratio m e).1 ≤ m * 2 ^ e.toNat ∧ (ratio m e).2 ≤ 2 ^ (-e).toNat ∧ (m = 0 → (ratio m e).1 = 0 ∧ (ratio m e).2 = 1) := by
  unfold ratio shift
  by_cases h : e ≥ 0
  · simp only [h, if_true, Nat.gcd_one_right, Nat.div_one]
    refine ⟨⟨0, rfl⟩, ?_, Nat.le_refl _, Nat.two_pow_pos _, fun h => by subst h; simp⟩
    rw [show (e + 1074).toNat = e.toNat + 1074 by lia  , Nat.pow_add, Nat.mul_one, Nat.mul_assoc]
  · simp only [h, if_false, Nat.one_mul]
    have h0 : e.toNat = 0 := by lia
    have h1 : (-e).toNat + (e + 1074).toNat = 1074 := by grind
    have hd1 : m.gcd (2 ^ (-e).toNat) ∣ m := Nat.gcd_dvd_left _ _
    have hd2 : m.gcd (2 ^ (-e).toNat) ∣ 2 ^ (-e).toNat := Nat.gcd_dvd_right _ _
    have hgp : 0 < m.gcd (2 ^ (-e).toNat) := Nat.gcd_pos_of_pos_right _ (Nat.two_pow_pos _)
    rw [h0, Nat.pow_zero, Nat.mul_one, ← h1, Nat.pow_add]
    generalize (-e).toNat = j at *
    generalize (e + 1074).toNat = f at *
    generalize hg : m.gcd (2 ^ j) = g at *
    obtain ⟨a, ha⟩ := hd1
    obtain ⟨b, hb⟩ := hd2
    have ea : m / g = a := Nat.div_eq_of_eq_mul_right hgp ha
    have eb : 2 ^ j / g = b := Nat.div_eq_of_eq_mul_right hgp hb
    rw [ea, eb]
    refine ⟨dvd_two_pow j b ⟨g, by rw [hb, Nat.mul_comm]⟩, ?_, ?_, ?_, fun hm => ?_⟩
    · rw [hb, ha]; ac_rfl
    · rw [ha]; exact Nat.le_mul_of_pos_left _ hgp
    · rw [hb]; exact Nat.le_mul_of_pos_left _ hgp
    · subst hm
      rw [Nat.gcd_zero_left] at hg
      rw [← hg] at hb ha
      have hp := Nat.two_pow_pos j
      refine ⟨?_, ?_⟩
      · rcases Nat.mul_eq_zero.mp ha.symm with q | q <;> lia
      · exact Nat.eq_of_mul_eq_mul_left hp (show 2 ^ j * b = 2 ^ j * 1 by rw [Nat.mul_one]; exact hb.symm)
theorem bits_le {q u k i : Nat} (lo : 2 ^ 52 ≤ q) (e : q * 2 ^ (k + i) = u * 2 ^ 1074) : u * 2 ^ 53 ≤ 2 ^ (Builtin.Int.intBits (u : Int)) * q := by
  have hu : u ≠ 0 := fun h => by
    rw [h, Nat.zero_mul] at e
    have := Nat.mul_pos (Nat.lt_of_lt_of_le (by decide) lo) (Nat.two_pow_pos (k + i))
    lia
  have hL : u < 2 ^ (Builtin.Int.intBits (u : Int)) := by
    have hb : Builtin.Int.intBits (u : Int) = u.log2 + 1 := by
      unfold Builtin.Int.intBits
      rw [if_neg (by simpa using hu)]
      simp
    rw [hb]; exact Nat.lt_log2_self
  generalize Builtin.Int.intBits (u : Int) = L at *
  rcases Nat.lt_or_ge 1074 (k + i) with h | h
  rotate_left
  · obtain ⟨c, hc⟩ : ∃ c, 1074 = c + (k + i) := ⟨1074 - (k + i), by grind⟩
    have hq : q = u * 2 ^ c := by
      rw [show (2 : Nat) ^ 1074 = 2 ^ c * 2 ^ (k + i) by rw [← Nat.pow_add, ← hc], ← Nat.mul_assoc] at e
      exact Nat.eq_of_mul_eq_mul_right (Nat.two_pow_pos _) e
    have h1 : u * 2 ^ c < 2 ^ L * 2 ^ c := Nat.mul_lt_mul_of_pos_right hL (Nat.two_pow_pos _)
    rw [← hq, ← Nat.pow_add] at h1
    have h2 := pow_lt_inv (Nat.lt_of_le_of_lt lo h1)
    rw [hq, Nat.mul_left_comm, ← Nat.pow_add]
    exact Nat.mul_le_mul_left _ (Nat.pow_le_pow_right (by decide) (by grind))
  · obtain ⟨c, hc⟩ : ∃ c, k + i = c + 1074 := ⟨k + i - 1074, by lia  ⟩
    have hq : q * 2 ^ c = u := by
      rw [hc, Nat.pow_add, ← Nat.mul_assoc] at e
      exact Nat.eq_of_mul_eq_mul_right (Nat.two_pow_pos _) e
    have h1 : 2 ^ 52 * 2 ^ c ≤ q * 2 ^ c := Nat.mul_le_mul_right _ lo
    rw [hq, ← Nat.pow_add] at h1
    have h2 := pow_lt_inv (Nat.lt_of_le_of_lt h1 hL)
    rw [← hq, Nat.mul_assoc, ← Nat.pow_add, Nat.mul_comm]
    exact Nat.mul_le_mul_right _ (Nat.pow_le_pow_right (by decide) (by grind))
structure Near (J H κ : Nat) (T q k : Nat) : Prop where
  form : T = q * 2 ^ k
  lo : 2 ^ 52 ≤ q
  hi : q < 2 ^ 53
  half : 2 * dist (J * 2 ^ κ * 2 ^ 1074) (H * T) ≤ H * 2 ^ k
  big : 2 ^ 1058 ≤ T
  small : T ≤ 2 ^ 1110
theorem good_root_le {a b H κ : Nat} (g : Good (a * b) H κ) (hab : a * b ≤ 2 ^ 30) : H ≤ 2 ^ 16 * 2 ^ κ := by
  have h1 := g.dn
  have h2 : a * b * 4 ^ κ ≤ 2 ^ 30 * 4 ^ κ := Nat.mul_le_mul_right _ hab
  have h3 : 2 ^ 72 ≤ 4 ^ κ := by
    rw [show (2 : Nat) ^ 72 = 4 ^ 36 by decide]
    exact Nat.pow_le_pow_right (by decide) g.k1
  have h4 := g.hi
  apply sq_le
  have h5 : 2 ^ 16 * 2 ^ κ * (2 ^ 16 * 2 ^ κ) = 2 ^ 32 * 4 ^ κ := by
    rw [four_pow]
    generalize 2 ^ κ = a
    grind
  lia
theorem good_root_ge {a b H κ : Nat} (g : Good (a * b) H κ) (hab : 0 < a * b) : 2 ^ κ ≤ 2 * H := by
  have h1 := g.up
  have h2 : 1 * 4 ^ κ ≤ a * b * 4 ^ κ := Nat.mul_le_mul_right _ hab
  have h4 := good_pos g
  apply sq_le
  rw [four_pow, Nat.one_mul] at h2
  have h5 : 2 * H * (2 * H) = 4 * (H * H) := by grind
  have h6 : H ≤ H * H := Nat.le_mul_of_pos_left _ h4
  rw [four_pow] at h1
  lia
theorem near_lem {W X Y Z : Nat} (a1 : dist W X ≤ dist W (X + Z)) (a2 : dist W X ≤ dist W Y) (b1 : Y < X) (b2 : X ≤ Y + Z) (b3 : 0 < Z) : 2 * dist W X ≤ Z := by
  unfold dist at *
  rcases Nat.le_total W X with h | h
  · clear a1
    rw [Nat.sub_eq_zero_of_le h, Nat.zero_add] at a2 ⊢
    omega
  · clear a2
    rw [Nat.sub_eq_zero_of_le h, Nat.add_zero] at a1 ⊢
    omega
theorem near_of {r : UInt64} {s : Bool} {J a b H κ : Nat} (g : Good (a * b) H κ) (hab : a * b ≤ 2 ^ 30) (hab0 : 0 < a * b) (hJ : 0 < J) (hJ2 : J ≤ 2 ^ 18) (R : Right r s (J * 2 ^ κ * 2 ^ 1074) H) :
    ∃ t q k, r = pack s t ∧ t < infMag ∧ Near J H κ (V t) q k := by
  have hH := good_pos g
  have hb := told_bound g hJ2
  obtain ⟨t, h1, h2, h3, h4⟩ := R
  have ht : t < infMag := by
    rcases Nat.lt_or_ge t infMag with q | q
    · exact q
    · exfalso
      have h5 := h3.mp (Nat.le_antisymm h2 q)
      have hb2 := le_mx hb
      have h6 : H * ((2 ^ 54 - 1) * 2 ^ 2045) ≤ H * (2 * MX) := Nat.le_trans h5 (by rw [Nat.mul_left_comm H 2]; exact Nat.mul_le_mul_left 2 hb2)
      exact absurd (Nat.le_of_mul_le_mul_left h6 hH) (Nat.not_le.mpr mx_over)
  have hn := h4 ht
  have hR : Rnd ((J * 2 ^ κ * 2 ^ 1074 : Nat) : Int) H (V t : Nat) := by
    obtain ⟨C, hC, hRC⟩ := rnd_of (r := pack false t) (s := false) ⟨t, rfl, h2, h3, h4⟩ hH (le_mx hb) rfl
    obtain ⟨m, e, d, hm⟩ := decode_pack false ht
    obtain ⟨s', m', e', d', v', _⟩ := hC.dec
    have v2 := val_pack false ht
    rw [v'] at v2
    rw [v2] at hRC
    exact hRC
  have hbig : ((2 ^ 1058 : Nat) : Int) ≤ (V t : Nat) := by
    refine hR.ge hH (by rw [Int.natAbs_natCast]; exact rp_pow (by decide)) ?_
    rw [← Int.natCast_mul]
    have h5 : H * 2 ^ 1058 ≤ 2 ^ 16 * 2 ^ κ * 2 ^ 1058 := Nat.mul_le_mul_right _ (good_root_le g hab)
    have h6 : 1 * (2 ^ κ * 2 ^ 1074) ≤ J * (2 ^ κ * 2 ^ 1074) := Nat.mul_le_mul_right _ hJ
    have h7 : 2 ^ 16 * 2 ^ κ * 2 ^ 1058 = 1 * (2 ^ κ * 2 ^ 1074) := by
      rw [show (2 : Nat) ^ 1074 = 2 ^ 16 * 2 ^ 1058 by rw [← Nat.pow_add], Nat.one_mul]
      generalize (2 : Nat) ^ 1058 = p
      ac_rfl
    rw [Nat.mul_assoc J]
    grind
  have hsmall : ((V t : Nat) : Int) ≤ ((2 ^ 1110 : Nat) : Int) := by
    refine hR.le hH (by rw [Int.natAbs_natCast]; exact rp_pow (by decide)) ?_
    rw [← Int.natCast_mul]
    have h5 : J * 2 ^ κ ≤ 2 ^ 18 * (2 * H) := Nat.mul_le_mul hJ2 (good_root_ge g hab0)
    have h6 : J * 2 ^ κ * 2 ^ 1074 ≤ 2 ^ 18 * (2 * H) * 2 ^ 1074 := Nat.mul_le_mul_right _ h5
    have h7 : 2 ^ 18 * (2 * H) * 2 ^ 1074 ≤ H * 2 ^ 1110 := by
      have e1 : 2 ^ 18 * (2 * H) * 2 ^ 1074 = H * 2 ^ 1093 := by
        rw [show (2 : Nat) ^ 1093 = 2 ^ 18 * 2 * 2 ^ 1074 by rw [← Nat.pow_succ, ← Nat.pow_add]]
        generalize (2 : Nat) ^ 1074 = p
        ac_rfl
      rw [e1]
      exact Nat.mul_le_mul_left _ (Nat.pow_le_pow_right (by decide) (by decide))
    lia
  obtain ⟨k, q, hk, hq, h52, hV⟩ := V_form t
  have hk2 : 1000 ≤ k := by
    have h3 : q * 2 ^ k < 2 ^ 53 * 2 ^ k := Nat.mul_lt_mul_of_pos_right hq (Nat.two_pow_pos _)
    rw [← hV, ← Nat.pow_add] at h3
    have h8 : 2 ^ 1058 < 2 ^ (53 + k) := by grind
    have := pow_lt_inv h8
    lia
  have h52' : 2 ^ 52 ≤ q := by grind
  refine ⟨t, q, k, h1, ht, hV, h52', hq, ?_, by lia  , by lia  ⟩
  have hV1 : V (t + 1) = (q + 1) * 2 ^ k := by
    have := V_at (k := k) (q := q + 1) (by grind) (by grind)
    rw [← this]; congr 1; grind
  have hVm : q * 2 ^ k ≤ V (t - 1) + 2 ^ k := by
    by_cases hq0 : q = 2 ^ 52
    · have h5 : V (t - 1) = (2 ^ 53 - 1) * 2 ^ (k - 1) := by
        have := V_at (k := k - 1) (q := 2 ^ 53 - 1) (by lia  ) (.inl (by decide))
        rw [← this]; congr 1; lia
      have h2k := two_pred (k := k) (by lia  )
      rw [h5, hq0, h2k]
      generalize 2 ^ (k - 1) = p
      lia
    · have h5 : V (t - 1) = (q - 1) * 2 ^ k := by
        have := V_at (k := k) (q := q - 1) (by grind) (.inl (by lia  ))
        rw [← this]; congr 1; lia
      rw [h5, ← Nat.succ_mul]
      exact Nat.mul_le_mul_right _ (by grind)
  have a1 := (hn (t + 1)).1
  have a2 := (hn (t - 1)).1
  have hlt : V (t - 1) < V t := V_lt (by lia  )
  rw [hV1, Nat.add_mul, Nat.one_mul, ← hV, Nat.mul_add] at a1
  have b1 : H * V (t - 1) < H * V t := Nat.mul_lt_mul_of_pos_left hlt hH
  have b2 : H * V t ≤ H * V (t - 1) + H * 2 ^ k := by
    rw [← Nat.mul_add, hV]; exact Nat.mul_le_mul_left _ hVm
  have b3 : 0 < H * 2 ^ k := Nat.mul_pos hH (Nat.two_pow_pos _)
  exact near_lem a1 a2 b1 b2 b3
end Mine
end
section
set_option maxRecDepth 100000
set_option autoImplicit false
namespace Mine
open PySem PySem.Float64

theorem joint_eq (n : Int) : ∀ (p q : List Int), jointI n p q = dotI ((p.map fun a => a - n).zip (q.map fun a => a - n))
  | [], _ => rfl
  | _ :: _, [] => rfl
  | a :: p, b :: q => by
    have h := joint_eq n p q
    show (a - n) * (b - n) + jointI n p q = (a - n) * (b - n) + dotI ((p.map fun a => a - n).zip (q.map fun a => a - n))
    rw [h]
theorem spr_eq (n : Int) : ∀ (p : List Int), sprI n p = dotI ((p.map fun a => a - n).zip (p.map fun a => a - n))
  | [] => rfl
  | a :: p => by
    have h := spr_eq n p
    show (a - n) * (a - n) + sprI n p = (a - n) * (a - n) + dotI ((p.map fun a => a - n).zip (p.map fun a => a - n))
    rw [h]
theorem dif_eq (n : Int) : ∀ (p q : List Int), p.length = q.length → difI p q = sprI n p + sprI n q - 2 * jointI n p q
  | [], [], _ => rfl
  | [], _ :: _, h => nomatch h
  | _ :: _, [], h => nomatch h
  | a :: p, b :: q, h => by
    have ih := dif_eq n p q (by simpa using h)
    have e1 : difI (a :: p) (b :: q) = (a - b) * (a - b) + difI p q := rfl
    have e2 : sprI n (a :: p) = (a - n) * (a - n) + sprI n p := rfl
    have e3 : sprI n (b :: q) = (b - n) * (b - n) + sprI n q := rfl
    have e4 : jointI n (a :: p) (b :: q) = (a - n) * (b - n) + jointI n p q := rfl
    rw [e1, e2, e3, e4, ih]
    grind
theorem dl_places (ns : List Int) : (places ns).map (fun a => a - (ns.length : Int)) = dl ns := by
  unfold places dl
  rw [List.map_map]; rfl
theorem jointI_dl {xs ys : List Int} (h : xs.length = ys.length) : jointI xs.length (places xs) (places ys) = dotI ((dl xs).zip (dl ys)) := by
  rw [joint_eq, dl_places]
  rw [show (xs.length : Int) = ys.length by lia  , dl_places]
theorem sprI_dl (xs : List Int) : sprI xs.length (places xs) = (ssq (dl xs) : Int) := by
  rw [spr_eq, dl_places, ssq_eq]
theorem rising_lt : ∀ (s p : List Int), (p ++ s).Pairwise (· < ·) → s.map (ltC (p ++ s)) = List.range' p.length s.length
  | [], _, _ => rfl
  | v :: s, p, h => by
    have h2 : p ++ v :: s = (p ++ [v]) ++ s := by simp
    have ih := rising_lt s (p ++ [v]) (h2 ▸ h)
    rw [List.map_cons, h2, ih, List.length_append]
    show _ = p.length :: List.range' (p.length + 1) s.length
    congr 1
    rw [← h2]
    obtain ⟨_, h3, h4⟩ := List.pairwise_append.mp h
    obtain ⟨h5, _⟩ := List.pairwise_cons.mp h3
    unfold ltC
    rw [List.countP_append, List.countP_cons]
    have a1 : p.countP (fun x => decide (x < v)) = p.length := List.countP_eq_length.mpr (fun x hx => by simp [h4 x hx v (.head _)])
    have a2 : s.countP (fun x => decide (x < v)) = 0 := List.countP_eq_zero.mpr (fun x hx => by have := h5 x hx; simp; lia  )
    rw [a1, a2]; simp
theorem perm_sum {l l' : List Int} (h : l.Perm l') : l.sum = l'.sum := by
  induction h with
  | nil => rfl
  | cons x _ ih => simp only [List.sum_cons, ih]
  | swap x y l => simp only [List.sum_cons]; lia
  | trans _ _ h1 h2 => exact h1.trans h2
theorem rising_of {ns : List Int} (h : ns.Nodup) : ∃ s : List Int, s.Perm ns ∧ s.Pairwise (· < ·) := by
  refine ⟨ns.mergeSort (fun a b => decide (a ≤ b)), List.mergeSort_perm _ _, ?_⟩
  have h1 := List.pairwise_mergeSort (le := fun a b : Int => decide (a ≤ b)) (fun a b c => by simp; lia  ) (fun a b => by simp; lia  ) ns
  have h2 : (ns.mergeSort (fun a b => decide (a ≤ b))).Nodup := (List.mergeSort_perm ns _).nodup_iff.mpr h
  exact (List.Pairwise.and h1 h2).imp (fun {a b} ⟨q1, q2⟩ => by simp at q1; lia  )
noncomputable def oddSq (n : Int) : Nat → Int
  | 0 => 0
  | m + 1 => oddSq n m + (2 * (m : Int) + 1 - n) * (2 * (m : Int) + 1 - n)
theorem oddSq_val (n : Int) : ∀ m : Nat, 3 * oddSq n m = (m : Int) * (4 * (m : Int) * m - 1) - 6 * n * (m : Int) * m + 3 * n * n * (m : Int)
  | 0 => by simp [oddSq]
  | m + 1 => by
    have ih := oddSq_val n m
    unfold oddSq
    push_cast
    generalize oddSq n m = o at *
    generalize (m : Int) = k at *
    grind
theorem range_sum (n : Int) : ∀ m : Nat, ((List.range m).map fun (i : Nat) => (2 * (i : Int) + 1 - n) * (2 * (i : Int) + 1 - n)).sum = oddSq n m
  | 0 => rfl
  | m + 1 => by
    rw [List.range_succ, List.map_append, List.sum_append, range_sum n m]
    simp [oddSq]
theorem nodup_ssq {ns : List Int} (h : ns.Nodup) : 3 * (ssq (dl ns) : Int) = ns.length * (ns.length * ns.length - 1) := by
  obtain ⟨s, hp, hs⟩ := rising_of h
  have hlen : s.length = ns.length := hp.length_eq
  have e1 : dotI ((dl ns).zip (dl ns)) = (ns.map fun v => (2 * (ltC ns v : Int) + 1 - ns.length) * (2 * (ltC ns v : Int) + 1 - ns.length)).sum := by
    have : ∀ l : List Int, (∀ v ∈ l, v ∈ ns) → dotI ((l.map fun v => (place ns v : Int) - ns.length).zip (l.map fun v => (place ns v : Int) - ns.length)) = (l.map fun v => (2 * (ltC ns v : Int) + 1 - ns.length) * (2 * (ltC ns v : Int) + 1 - ns.length)).sum := by
      intro l
      induction l with
      | nil => intro _; rfl
      | cons v l ih =>
        intro hl
        have ih := ih (fun w hw => hl w (.tail _ hw))
        have hc : eqC ns v = 1 := by
          have h1 := eqC_pos (hl v (.head _))
          have h2 : ns.count v ≤ 1 := List.nodup_iff_count.mp h v
          have h3 : eqC ns v = ns.count v := by
            unfold eqC
            rw [List.count]
            apply List.countP_congr
            intro x _
            simp
          lia
        have hpl : (place ns v : Int) = 2 * (ltC ns v : Int) + 1 := by rw [place_eq, hc]; push_cast; rfl
        simp only [List.map_cons, List.zip_cons_cons, List.sum_cons]
        show ((place ns v : Int) - ns.length) * ((place ns v : Int) - ns.length) + dotI _ = _
        rw [ih, hpl]
    exact this ns (fun v hv => hv)
  have e2 : (ns.map fun v => (2 * (ltC ns v : Int) + 1 - ns.length) * (2 * (ltC ns v : Int) + 1 - ns.length)).sum = (s.map fun v => (2 * (ltC s v : Int) + 1 - ns.length) * (2 * (ltC s v : Int) + 1 - ns.length)).sum := by
    rw [← perm_sum (hp.map _)]
    congr 1
    apply List.map_congr_left
    intro v _
    have : ltC ns v = ltC s v := (hp.countP_eq _).symm
    rw [this]
  have e3 : s.map (ltC s) = List.range s.length := by
    have := rising_lt s [] (by simpa using hs)
    rw [List.range_eq_range']
    simpa using this
  have e4 : (s.map fun v => (2 * (ltC s v : Int) + 1 - ns.length) * (2 * (ltC s v : Int) + 1 - ns.length)) = (List.range s.length).map fun (i : Nat) => (2 * (i : Int) + 1 - ns.length) * (2 * (i : Int) + 1 - ns.length) := by
    rw [← e3, List.map_map]; rfl
  have h5 := oddSq_val (ns.length : Int) ns.length
  rw [ssq_eq, e1, e2, e4, hlen, range_sum, h5]
  generalize (ns.length : Int) = n
  grind
end Mine
end
section
set_option maxRecDepth 100000
set_option autoImplicit false
set_option exponentiation.threshold 3000
namespace Mine
open PySem PySem.Float64

theorem frac_le {x y A B p q : Nat} (h : x * A ≤ y * B) (hn : p * B ≤ q * A) (hA : 0 < A) : p * x ≤ q * y := by
  have h1 : p * x * A ≤ q * y * A := by
    have a1 := Nat.mul_le_mul_left p h
    have a2 := Nat.mul_le_mul_left y hn
    have e1 : p * (x * A) = p * x * A := (Nat.mul_assoc ..).symm
    have e2 : p * (y * B) = y * (p * B) := Nat.mul_left_comm ..
    have e3 : y * (q * A) = q * y * A := by rw [← Nat.mul_assoc, Nat.mul_comm y q]
    grind
  exact Nat.le_of_mul_le_mul_right h1 hA
theorem aux_d0 {δ Y b P : Nat} (h : 2 * δ ≤ Y) (h2 : Y * P ≤ b) : δ * (2 * P) ≤ b := by
  have := Nat.mul_le_mul_right P h
  have e : δ * (2 * P) = 2 * δ * P := by rw [← Nat.mul_assoc, Nat.mul_comm δ 2]
  grind
theorem aux_d {δ Y b : Nat} (h : 2 * δ ≤ Y) (h2 : Y * 4503599627370496 ≤ b) : δ * 9007199254740992 ≤ b := aux_d0 h h2
theorem aux_ab {a b : Nat} (h : dist a b * 9007199254740992 ≤ b) : b * 9007199254740991 ≤ a * 9007199254740992 ∧ a * 9007199254740992 ≤ b * 9007199254740993 := by
  unfold dist at h; lia
theorem aux_u10 {R S H P : Nat} (up : R ≤ S + H) (h : H * P ≤ S) : R * P ≤ S * (P + 1) := by
  have := Nat.mul_le_mul_right P up
  rw [Nat.add_mul] at this
  rw [Nat.mul_add, Nat.mul_one]
  grind
theorem aux_u20 {R S H P : Nat} (dn : S ≤ R + H) (h : H * (P + 1) ≤ S) : S * P ≤ R * (P + 1) := by
  have := Nat.mul_le_mul_right (P + 1) dn
  rw [Nat.add_mul, Nat.mul_add S, Nat.mul_one] at this
  lia
theorem aux_u1 {R S H : Nat} (up : R ≤ S + H) (h : H * 4503599627370496 ≤ S) : R * 4503599627370496 ≤ S * 4503599627370497 := aux_u10 up h
theorem aux_u2 {R S H : Nat} (dn : S ≤ R + H) (h : H * 4503599627370496 ≤ S) : S * 4503599627370495 ≤ R * 4503599627370496 := aux_u20 (P := 4503599627370495) dn h
theorem near_two {H κ N R J T q k a b K : Nat} (hR : N * 4 ^ κ = R) (lo : 2 ^ 52 ≤ H) (up : R ≤ H * H + H) (dn : H * H ≤ R + H) (ha : J * 2 ^ κ * K = a) (hb : H * T = b) (form : T = q * 2 ^ k) (hq : 2 ^ 52 ≤ q) (half : 2 * dist a b ≤ H * 2 ^ k) :
    2 ^ 50 * (T * T * N) ≤ (2 ^ 50 + 1) * (J * J * (K * K)) ∧ (2 ^ 50 - 1) * (J * J * (K * K)) ≤ 2 ^ 50 * (T * T * N) := by
  have hq' : 4503599627370496 ≤ q := hq
  have hb2 : H * 2 ^ k * 4503599627370496 ≤ b := by
    rw [← hb, form, ← Nat.mul_assoc, Nat.mul_right_comm H q]
    exact Nat.mul_le_mul_left _ hq'
  have hd := aux_d half hb2
  have hab : b * 9007199254740991 ≤ a * 9007199254740992 ∧ a * 9007199254740992 ≤ b * 9007199254740993 := aux_ab hd
  have lo' : 4503599627370496 ≤ H := by omega
  have hHH : H * 4503599627370496 ≤ H * H := Nat.mul_le_mul_left H lo'
  have hc : 0 < 4 ^ κ * (H * H) := Nat.mul_pos (Nat.pow_pos (by decide)) (Nat.mul_pos (Nat.lt_of_lt_of_le (by decide) lo) (Nat.lt_of_lt_of_le (by decide) lo))
  have e1 : b * b * R = T * T * N * (4 ^ κ * (H * H)) := by rw [← hb, ← hR]; ac_rfl
  have e2 : a * a * (H * H) = J * J * (K * K) * (4 ^ κ * (H * H)) := by rw [← ha, four_pow]; ac_rfl
  have u1 : R * 4503599627370496 ≤ (H * H) * 4503599627370497 := aux_u1 up hHH
  have u2 : (H * H) * 4503599627370495 ≤ R * 4503599627370496 := aux_u2 dn hHH
  have v1 : (b * b * R) * (9007199254740991 * 9007199254740991 * 4503599627370496) ≤ (a * a * (H * H)) * (9007199254740992 * 9007199254740992 * 4503599627370497) := by
    have := Nat.mul_le_mul (Nat.mul_le_mul hab.1 hab.1) u1
    refine Nat.le_trans (Nat.le_of_eq ?_) (Nat.le_trans this (Nat.le_of_eq ?_))
    · ac_rfl
    · ac_rfl
  have v2 : (a * a * (H * H)) * (9007199254740992 * 9007199254740992 * 4503599627370495) ≤ (b * b * R) * (9007199254740993 * 9007199254740993 * 4503599627370496) := by
    have := Nat.mul_le_mul (Nat.mul_le_mul hab.2 hab.2) u2
    refine Nat.le_trans (Nat.le_of_eq ?_) (Nat.le_trans this (Nat.le_of_eq ?_))
    · ac_rfl
    · ac_rfl
  have w1 := frac_le (p := 2 ^ 50) (q := 2 ^ 50 + 1) v1 (by decide) (by decide)
  have w2 := frac_le (p := 2 ^ 50 - 1) (q := 2 ^ 50) v2 (by decide) (by decide)
  rw [e1, e2, ← Nat.mul_assoc (2 ^ 50), ← Nat.mul_assoc (2 ^ 50 + 1)] at w1
  rw [e1, e2, ← Nat.mul_assoc (2 ^ 50), ← Nat.mul_assoc (2 ^ 50 - 1)] at w2
  exact ⟨Nat.le_of_mul_le_mul_right w1 hc, Nat.le_of_mul_le_mul_right w2 hc⟩
theorem near_ratio {u d T N J K : Nat} (hK : 0 < K) (e : u * K = T * d) (h1 : 2 ^ 50 * (T * T * N) ≤ (2 ^ 50 + 1) * (J * J * (K * K))) (h2 : (2 ^ 50 - 1) * (J * J * (K * K)) ≤ 2 ^ 50 * (T * T * N)) :
    2 ^ 50 * (u * u * N) ≤ (2 ^ 50 + 1) * (J * J * (d * d)) ∧ (2 ^ 50 - 1) * (J * J * (d * d)) ≤ 2 ^ 50 * (u * u * N) := by
  have hc : 0 < K * K := Nat.mul_pos hK hK
  have e1 : u * u * N * (K * K) = T * T * N * (d * d) := by
    have : u * u * N * (K * K) = (u * K) * (u * K) * N := by ac_rfl
    rw [this, e]; ac_rfl
  have a1 := Nat.mul_le_mul_right (d * d) h1
  have a2 := Nat.mul_le_mul_right (d * d) h2
  rw [Nat.mul_assoc, ← e1, ← Nat.mul_assoc] at a1
  have a2' : (2 ^ 50 - 1) * (J * J * (d * d)) * (K * K) ≤ 2 ^ 50 * (u * u * N) * (K * K) := by
    rw [Nat.mul_assoc (2 ^ 50) (T * T * N), ← e1] at a2
    refine Nat.le_trans (Nat.le_of_eq ?_) (Nat.le_trans a2 (Nat.le_of_eq ?_))
    · ac_rfl
    · ac_rfl
  have a1' : 2 ^ 50 * (u * u * N) * (K * K) ≤ (2 ^ 50 + 1) * (J * J * (d * d)) * (K * K) := by
    refine Nat.le_trans a1 (Nat.le_of_eq ?_)
    ac_rfl
  exact ⟨Nat.le_of_mul_le_mul_right a1' hc, Nat.le_of_mul_le_mul_right a2' hc⟩
theorem sgn_sq (s : Bool) (u : Nat) : sgn s u * sgn s u = ((u * u : Nat) : Int) := by
  unfold sgn; cases s <;> simp [Int.neg_mul_neg]
theorem abs_sq (z : Int) : z * z = ((z.natAbs * z.natAbs : Nat) : Int) := (Int.natAbs_mul_self).symm
theorem good_square {S H κ : Nat} (g : Good (S * S) H κ) : H = S * 2 ^ κ := by
  have h1 := g.up
  have h2 := g.dn
  rw [four_pow, show S * S * (2 ^ κ * 2 ^ κ) = (S * 2 ^ κ) * (S * 2 ^ κ) by ac_rfl] at h1 h2
  generalize S * 2 ^ κ = x at *
  rcases Nat.lt_trichotomy H x with h | h | h
  · obtain ⟨c, rfl⟩ : ∃ c, x = H + 1 + c := ⟨x - H - 1, by grind⟩
    have e : (H + 1 + c) * (H + 1 + c) = H * H + 2 * H + 1 + (2 * (H * c) + 2 * c + c * c) := by grind
    lia
  · exact h
  · obtain ⟨c, rfl⟩ : ∃ c, H = x + 1 + c := ⟨H - x - 1, by grind⟩
    have e : (x + 1 + c) * (x + 1 + c) = x * x + 2 * x + 1 + (2 * (x * c) + 2 * c + c * c) := by grind
    lia
theorem no_tie {J S q k H T κ : Nat} (hS : 0 < S) (hS2 : S ≤ 2 ^ 15) (hH : H = S * 2 ^ κ) (n : Near J H κ T q k) : 2 * dist (J * 2 ^ 1074) (S * T) < S * 2 ^ k := by
  have hk : k ≤ 1058 := by
    have h1 : 2 ^ 52 * 2 ^ k ≤ T := by rw [n.form]; exact Nat.mul_le_mul_right _ n.lo
    rw [← Nat.pow_add] at h1
    have := pow_le_inv (Nat.le_trans h1 n.small)
    lia
  have hh := n.half
  rw [hH, show J * 2 ^ κ * 2 ^ 1074 = 2 ^ κ * (J * 2 ^ 1074) by ac_rfl, show S * 2 ^ κ * T = 2 ^ κ * (S * T) by ac_rfl, dist_mul, show S * 2 ^ κ * 2 ^ k = 2 ^ κ * (S * 2 ^ k) by ac_rfl, Nat.mul_left_comm] at hh
  have h1 := Nat.le_of_mul_le_mul_left hh (Nat.two_pow_pos _)
  rcases Nat.lt_or_ge (2 * dist (J * 2 ^ 1074) (S * T)) (S * 2 ^ k) with h | h
  · exact h
  · exfalso
    have he : 2 * dist (J * 2 ^ 1074) (S * T) = S * 2 ^ k := Nat.le_antisymm h1 h
    obtain ⟨c, hc⟩ : ∃ c, 1074 = 16 + c + k := ⟨1058 - k, by grind⟩
    have e1 : J * 2 ^ 1074 = 2 ^ k * (2 ^ 16 * (J * 2 ^ c)) := by rw [show (2 : Nat) ^ 1074 = 2 ^ 16 * 2 ^ c * 2 ^ k by rw [← Nat.pow_add, ← Nat.pow_add, ← hc]]; ac_rfl
    have e2 : S * T = 2 ^ k * (S * q) := by rw [n.form]; ac_rfl
    rw [e1, e2, dist_mul, Nat.mul_left_comm, Nat.mul_comm S (2 ^ k)] at he
    have h2 := Nat.eq_of_mul_eq_mul_left (Nat.two_pow_pos k) he
    have hd : 2 ^ 16 ∣ S := by
      generalize J * 2 ^ c = x at h2
      have h3 : 2 ^ 16 ∣ S * (2 * q + 1) ∨ 2 ^ 16 ∣ S * (2 * q - 1) := by
        have hq := n.lo
        have m1 : S * (2 * q + 1) = 2 * (S * q) + S := by grind
        have m2 : S * (2 * q - 1) + S = 2 * (S * q) := by
          obtain ⟨p, rfl⟩ : ∃ p, q = p + 1 := ⟨q - 1, by lia  ⟩
          rw [show 2 * (p + 1) - 1 = 2 * p + 1 by lia  ]; grind
        unfold dist at h2
        rcases Nat.le_total (S * q) (2 ^ 16 * x) with hh | hh
        · left; exact ⟨2 * x, by grind⟩
        · right; exact ⟨2 * x, by grind⟩
      have hq := n.lo
      rcases h3 with h3 | h3
      · exact (Nat.Coprime.pow_left 16 (odd_co (m := 2 * q + 1) (by lia  ))).dvd_of_dvd_mul_right h3
      · exact (Nat.Coprime.pow_left 16 (odd_co (m := 2 * q - 1) (by lia  ))).dvd_of_dvd_mul_right h3
    have := Nat.le_of_dvd hS hd
    grind
theorem near_bits {J S q k T u d i : Nat} (hlo : 2 ^ 52 ≤ q) (form : T = q * 2 ^ k) (hs : 2 * dist (J * 2 ^ 1074) (S * T) < S * 2 ^ k) (e : u * 2 ^ 1074 = T * d) (hd : d = 2 ^ i) : dist (J * d) (u * S) * 2 ^ 54 < 2 ^ (Builtin.Int.intBits (u : Int)) * S := by
  have hq : 0 < q := Nat.lt_of_lt_of_le (by decide) hlo
  have hdp : 0 < d := by rw [hd]; exact Nat.two_pow_pos _
  have hb := bits_le (q := q) (u := u) (k := k) (i := i) hlo (by rw [Nat.pow_add, ← Nat.mul_assoc, ← form, ← hd, e])
  generalize 2 ^ (Builtin.Int.intBits (u : Int)) = L at *
  have hP := Nat.two_pow_pos 1074
  generalize (2 : Nat) ^ 1074 = P at *
  have e1 : P * dist (J * d) (u * S) = d * dist (J * P) (S * T) := by
    rw [← dist_mul, ← dist_mul]
    congr 1
    · ac_rfl
    · rw [show P * (u * S) = (u * P) * S by ac_rfl, e]; ac_rfl
  -- (q * P) times both sides
  have h1 : d * (2 * dist (J * P) (S * T)) < d * (S * 2 ^ k) := Nat.mul_lt_mul_of_pos_left hs hdp
  have h2 : q * 2 ^ k * d * 2 ^ 53 = u * 2 ^ 53 * P := by rw [← form, ← e]; ac_rfl
  have h3 : q * P * (dist (J * d) (u * S) * 2 ^ 54) < q * P * (L * S) := by
    have a1 : q * P * (dist (J * d) (u * S) * 2 ^ 54) = 2 ^ 53 * q * (d * (2 * dist (J * P) (S * T))) := by
      rw [show q * P * (dist (J * d) (u * S) * 2 ^ 54) = q * 2 ^ 54 * (P * dist (J * d) (u * S)) by ac_rfl, e1, show (2 : Nat) ^ 54 = 2 ^ 53 * 2 by decide]
      ac_rfl
    have a2 : 2 ^ 53 * q * (d * (2 * dist (J * P) (S * T))) < 2 ^ 53 * q * (d * (S * 2 ^ k)) := Nat.mul_lt_mul_of_pos_left h1 (Nat.mul_pos (by decide) hq)
    have a3 : 2 ^ 53 * q * (d * (S * 2 ^ k)) = S * P * (u * 2 ^ 53) := by
      rw [show 2 ^ 53 * q * (d * (S * 2 ^ k)) = S * (q * 2 ^ k * d * 2 ^ 53) by ac_rfl, h2]; ac_rfl
    have a4 : S * P * (u * 2 ^ 53) ≤ S * P * (L * q) := Nat.mul_le_mul_left _ hb
    have a5 : S * P * (L * q) = q * P * (L * S) := by ac_rfl
    rw [a1]
    exact Nat.lt_of_lt_of_le (a3 ▸ a2) (a5 ▸ a4)
  exact Nat.lt_of_mul_lt_mul_left h3
end Mine
end
section
set_option maxRecDepth 100000
set_option autoImplicit false
set_option exponentiation.threshold 3000
namespace Mine
open PySem PySem.Float64

theorem dist_abs (a b : Nat) : ((a : Int) - b).natAbs = dist a b := by unfold dist; lia
theorem sgn_of (J : Int) (d : Nat) : J * (d : Int) = sgn (decide (J < 0)) (J.natAbs * d) := by
  rw [sgn_mul, sgn_abs]
theorem aux_told {X Y : Nat} (h1 : 1125899906842624 * X ≤ 1125899906842625 * Y) (h2 : 1125899906842623 * Y ≤ 1125899906842624 * X) : ¬ ((((X : Int) - Y).natAbs : Int) * 1125899906842624 > Y) := by
  rcases Nat.le_total X Y with h | h
  · obtain ⟨c, rfl⟩ := Nat.le.dest h
    have e : (((X : Int) - ((X + c : Nat) : Int)).natAbs : Int) = c := by lia
    rw [e]
    lia
  · obtain ⟨c, rfl⟩ := Nat.le.dest h
    have e : ((((Y + c : Nat) : Int) - (Y : Int)).natAbs : Int) = c := by lia
    rw [e]
    lia
theorem cond_told {u d J : Nat} {s : Bool} {Ji : Int} {a b : Nat} (hJ : Ji.natAbs = J) (h1 : 2 ^ 50 * (u * u * (a * b)) ≤ (2 ^ 50 + 1) * (J * J * (d * d))) (h2 : (2 ^ 50 - 1) * (J * J * (d * d)) ≤ 2 ^ 50 * (u * u * (a * b))) :
    ¬ (((sgn s u * sgn s u * ((a : Int) * (b : Int)) - dueI Ji d).natAbs : Int) * 2 ^ 50 > dueI Ji d) := by
  have e1 : sgn s u * sgn s u * ((a : Int) * (b : Int)) = ((u * u * (a * b) : Nat) : Int) := by
    rw [sgn_sq, Int.natCast_mul (u * u), Int.natCast_mul a]
  have e2 : dueI Ji d = ((J * J * (d * d) : Nat) : Int) := by
    unfold dueI
    rw [abs_sq, hJ, Int.natCast_mul (J * J), Int.natCast_mul d, Int.mul_assoc]
  rw [e1, e2]
  exact aux_told h1 h2
section
variable {xs ys : List Int}
theorem numThree (hl : xs.length = ys.length) (h0 : 2 ≤ xs.length) (h : xs.length ≤ 31) : NumOk3 xs ys := by
  refine ⟨fun r e => ?_⟩
  obtain ⟨H, κ, t⟩ := some_pos hl (by lia  ) h e
  have hJs := dot_small (xs := xs) (ys := ys) hl h
  have hax := dl_ssq h
  have hay := dl_ssq (ns := ys) (by lia  )
  have hab : ssq (dl xs) * ssq (dl ys) ≤ 2 ^ 15 * 2 ^ 15 := Nat.mul_le_mul hax hay
  have hab0 : 0 < ssq (dl xs) * ssq (dl ys) := Nat.mul_pos t.px t.py
  have hspy : sprI xs.length (places ys) = (ssq (dl ys) : Int) := by rw [hl]; exact sprI_dl ys
  rw [jointI_dl hl, sprI_dl, hspy]
  have hdif : difI (places xs) (places ys) = (ssq (dl xs) : Int) + (ssq (dl ys) : Int) - 2 * dotI ((dl xs).zip (dl ys)) := by
    rw [dif_eq (xs.length : Int) (places xs) (places ys) (by unfold places; simpa using hl), jointI_dl hl, sprI_dl, hspy]
  have R := t.R
  have g := t.g
  have hap := t.px
  generalize hJ : dotI ((dl xs).zip (dl ys)) = J at *
  have hnod : xs.Nodup → ys.Nodup → (3 * (ssq (dl xs) : Int) = xs.length * (xs.length * xs.length - 1)) ∧ ssq (dl ys) = ssq (dl xs) := fun nx ny => by
    have a1 := nodup_ssq nx
    have a2 := nodup_ssq ny
    rw [← hl] at a2
    exact ⟨a1, by lia  ⟩
  generalize ssq (dl xs) = a at *
  generalize ssq (dl ys) = b at *
  have hunder : ∀ S n : Int, 3 * S = n * (n * n - 1) → 2 * n * (n * n - 1) = 6 * S := fun S n h => by
    rw [Int.mul_assoc, ← h]; lia
  by_cases hz : J = 0
  · -- no sum of products: the float is a zero
    subst hz
    have hH := good_pos g
    have hb := told_bound g (J := 0) (by decide)
    obtain ⟨C, hC, hRC⟩ := rnd_of R hH (le_mx hb) (C := 0) (by simp; exact sgn_zero _)
    have z1 := hRC.exact (Z := 0) hH Rp.zero (Int.mul_zero _).symm
    obtain ⟨s, m, e', d', v', hm⟩ := hC.dec
    have hm0 : m = 0 := hm.mpr z1
    subst hm0
    obtain ⟨_, _, _, _, h5⟩ := ratio_spec (m := 0) (e := e') (decode_ge d')
    obtain ⟨h6, h7⟩ := h5 rfl
    refine ⟨_, _, ⟨s, 0, e', d', rfl, rfl⟩, ?_, ?_, ?_, ?_, ?_⟩
    · rw [h6, sgn_zero]; decide
    · rw [h7]; decide
    · rw [h6, sgn_zero]; decide
    · rw [h6, h7]
      exact cond_told (J := 0) rfl (by simp) (by simp)
    · intro nx ny
      obtain ⟨hS, hba⟩ := hnod nx ny
      rw [h6, h7, sgn_zero]
      have hu := hunder _ _ hS
      unfold nearB
      rw [hdif, hba, hu]
      simp [Builtin.Int.intBits]
      lia
  · have hJ0 : 0 < J.natAbs := by lia
    obtain ⟨tt, q, k, hr, ht, n⟩ := near_of g (by omega) hab0 hJ0 hJs R
    obtain ⟨m, e', hd', hm⟩ := decode_pack (decide (J < 0)) ht
    have hge := decode_ge hd'
    have hle := decode_le hd'
    rw [← hr] at hd'
    obtain ⟨⟨i, hi⟩, r1, r2, r3, _⟩ := ratio_spec (m := m) hge
    rw [hm] at r1
    have nbig := n.big
    have nsmall := n.small
    have nform := n.form
    have nlo := n.lo
    have nhalf := n.half
    generalize V tt = T at *
    -- the sizes
    have he69 : -80 ≤ e' := by
      have h3 : m * 2 ^ (e' + 1074).toNat < 2 ^ 53 * 2 ^ (e' + 1074).toNat := Nat.mul_lt_mul_of_pos_right hle.1 (Nat.two_pow_pos _)
      rw [hm, ← Nat.pow_add] at h3
      have := pow_lt_inv (Nat.lt_of_le_of_lt nbig h3)
      lia
    have hup : (ratio m e').1 < 2 ^ 64 := by
      refine Nat.lt_of_le_of_lt r2 ?_
      by_cases h0 : e' ≥ 0
      · have h1 : (e' + 1074).toNat = e'.toNat + 1074 := by lia
        rw [h1, Nat.pow_add, ← Nat.mul_assoc] at hm
        have h2 : m * 2 ^ e'.toNat * 2 ^ 1074 ≤ 2 ^ 36 * 2 ^ 1074 := by rw [hm, ← Nat.pow_add]; exact nsmall
        have := Nat.le_of_mul_le_mul_right h2 (Nat.two_pow_pos _)
        grind
      · rw [show e'.toNat = 0 by lia  , Nat.pow_zero, Nat.mul_one]
        lia
    have hdn : (ratio m e').2 < 2 ^ 200 := Nat.lt_of_le_of_lt r3 (Nat.pow_lt_pow_right (by decide) (by lia  ))
    obtain ⟨w1, w2⟩ := near_two (N := a * b) (R := a * b * 4 ^ κ) (K := 2 ^ 1074) rfl g.lo (by have := g.up; grind) (by have := g.dn; grind) rfl rfl nform nlo nhalf
    obtain ⟨w3, w4⟩ := near_ratio (Nat.two_pow_pos _) r1 w1 w2
    refine ⟨_, _, ⟨_, m, e', hd', rfl, rfl⟩, ?_, hdn, ?_, ?_, ?_⟩
    · rw [sgn_natAbs]; exact hup
    · by_cases hJn : J < 0
      · rw [decide_eq_true hJn]
        have : sgn true (ratio m e').1 * J = ((ratio m e').1 : Int) * (-J) := by
          show -(((ratio m e').1 : Int)) * J = _
          rw [Int.neg_mul, Int.mul_neg]
        rw [this]
        exact Int.not_lt.mpr (Int.mul_nonneg (by lia  ) (by lia  ))
      · rw [decide_eq_false hJn]
        exact Int.not_lt.mpr (Int.mul_nonneg (by unfold sgn; simp) (by grind))
    · exact cond_told rfl w3 w4
    · intro nx ny
      obtain ⟨hS, hba⟩ := hnod nx ny
      have hu := hunder _ _ hS
      rw [hba] at g
      have hHa := good_square g
      have hs := no_tie hap hax hHa n
      have hnb := near_bits nlo nform hs r1 hi
      unfold nearB
      rw [hdif, hba, hu, sgn_natAbs]
      apply decide_eq_true
      have e5 : (6 * (a : Int) - 3 * ((a : Int) + (a : Int) - 2 * J)) * ((ratio m e').2 : Int) - sgn (decide (J < 0)) (ratio m e').1 * (6 * (a : Int)) = 6 * (sgn (decide (J < 0)) (J.natAbs * (ratio m e').2) - sgn (decide (J < 0)) ((ratio m e').1 * a)) := by
        rw [← sgn_of, sgn_mul]
        generalize sgn (decide (J < 0)) (ratio m e').1 = z
        generalize ((ratio m e').2 : Int) = w
        generalize (a : Int) = y
        grind
      rw [e5, Int.natAbs_mul, sgn_dist]
      generalize dist (J.natAbs * (ratio m e').2) ((ratio m e').1 * a) = z at *
      generalize (ratio m e').1 = u at *
      have e6 : ((2 : Int) ^ (Builtin.Int.intBits (u : Int))) = ((2 ^ (Builtin.Int.intBits (u : Int)) : Nat) : Int) := (natCast_pow2 _).symm
      rw [e6]
      generalize 2 ^ (Builtin.Int.intBits (u : Int)) = L at *
      have e7 : ((L : Int)) * (6 * (a : Int)) = ((6 * (L * a) : Nat) : Int) := by
        rw [Int.natCast_mul 6, Int.natCast_mul L]
        generalize (a : Int) = y
        generalize (L : Int) = l
        show l * (6 * y) = 6 * (l * y)
        grind
      rw [e7]
      have e8 : ((Int.natAbs 6 * z : Nat) : Int) * 2 ^ 54 = ((6 * (z * 2 ^ 54) : Nat) : Int) := by
        show ((6 * z : Nat) : Int) * 2 ^ 54 = _
        lia
      rw [e8]
      exact Int.ofNat_lt.mpr (Nat.mul_lt_mul_of_pos_left hnb (by decide))
end
end Mine
end
section
set_option maxRecDepth 100000
set_option autoImplicit false
set_option exponentiation.threshold 3000
namespace Mine
open PySem PySem.Float64
open PySem.Builtin.Math (dlSum dlMul tlFma tlToFloat)

theorem pow_le_two {a b : Nat} (h : a ≤ b) : (2 : Nat) ^ a ≤ 2 ^ b := Nat.pow_le_pow_right (by decide) h
theorem two_pow_succ (p : Nat) : 2 ^ (p + 1) = 2 * 2 ^ p := by rw [Nat.pow_succ, Nat.mul_comm]
theorem fit {z p : Nat} (h : z ≤ 2 ^ p) (hp : p ≤ 1990) : z ≤ MX := Nat.le_trans h (Nat.le_trans (pow_le_two hp) mx_1990)
theorem Rnd.abs_pow {C : Int} {D : Nat} {C' : Int} {p : Nat} (h : Rnd C D C') (hD : 0 < D) (hp : p ≤ 1990) (e : C.natAbs ≤ D * 2 ^ p) : C'.natAbs ≤ 2 ^ p := h.abs_le hD (rp_pow hp) e
theorem Rnd.abs_one {C : Int} {C' : Int} {p : Nat} (h : Rnd C 1 C') (hp : p ≤ 1990) (e : C.natAbs ≤ 2 ^ p) : C'.natAbs ≤ 2 ^ p := h.abs_pow (by decide) hp (by lia  )
theorem Rnd.near_one {C : Int} {C' : Int} {p : Nat} (h : Rnd C 1 C') (hp : p ≤ 1900) (e : C.natAbs ≤ 2 ^ (p + 53)) : 2 * (C - C').natAbs ≤ 2 ^ p := by
  have := h.near (by decide) hp (by rw [Nat.one_mul]; exact e)
  rw [Nat.one_mul] at this
  have e2 : C - ((1 : Nat) : Int) * C' = C - C' := by lia
  rw [e2] at this; exact this
theorem Ev.addB {x y : UInt64} {A B : Int} {p : Nat} (hx : Ev x A) (hy : Ev y B) (ha : A.natAbs ≤ 2 ^ p) (hb : B.natAbs ≤ 2 ^ p) (hp : p ≤ 1900) : ∃ C, Ev (Float64.add x y) C ∧ C.natAbs ≤ 2 ^ (p + 1) ∧ Rnd (A + B) 1 C := by
  have h2 := two_pow_succ p
  obtain ⟨C, h1, hR⟩ := hx.add hy (fit (p := p + 1) (by omega) (by lia  ))
  exact ⟨C, h1, hR.abs_one (by lia  ) (by omega), hR⟩
theorem tri_add {A B : Int} {a b m : Nat} (ha : A.natAbs ≤ a) (hb : B.natAbs ≤ b) (h : a + b ≤ m) : (A + B).natAbs ≤ m := by omega
theorem tri_2 {A B X : Int} {b q m : Nat} (h : 2 * (A + B - X).natAbs ≤ q) (hb : B.natAbs ≤ b) (hm : b + q ≤ m) : (X - A).natAbs ≤ m := by omega
theorem tri_3 {A X Z : Int} {a q m : Nat} (h : 2 * (X - A - Z).natAbs ≤ q) (ha : A.natAbs ≤ a) (hm : a + q ≤ m) : (X - Z).natAbs ≤ m := by omega
theorem tri_4 {A X Z W : Int} {q : Nat} (h : 2 * (X - A - Z).natAbs ≤ q) (h' : 2 * (X - Z - W).natAbs ≤ q) : (A - W).natAbs ≤ q := by omega
theorem tri_5 {A B X Z : Int} {q : Nat} (h : 2 * (A + B - X).natAbs ≤ q) (h' : 2 * (X - A - Z).natAbs ≤ q) : (B - Z).natAbs ≤ q := by omega
theorem dlSum_near {x y : UInt64} {A B : Int} {p : Nat} (hx : Ev x A) (hy : Ev y B) (ha : A.natAbs ≤ 2 ^ (p + 52)) (hb : B.natAbs ≤ 2 ^ (p + 52)) (hp : p ≤ 1800) :
    ∃ X Y, Ev (dlSum x y).1 X ∧ Ev (dlSum x y).2 Y ∧ Y.natAbs ≤ 2 ^ (p + 1) ∧ Rnd (A + B) 1 X ∧ 2 * (A + B - X).natAbs ≤ 2 ^ p := by
  have h53 : 2 ^ (p + 53) = 2 * 2 ^ (p + 52) := two_pow_succ (p + 52)
  have hpp : 2 ^ p * 2 ≤ 2 ^ (p + 52) := by
    rw [← Nat.pow_succ]; exact pow_le_two (by lia  )
  have hp1 : 2 ^ (p + 1) = 2 * 2 ^ p := two_pow_succ p
  have f53 : 2 ^ (p + 53) ≤ MX := fit (Nat.le_refl _) (by lia  )
  have f1 : 2 ^ (p + 1) ≤ MX := fit (Nat.le_refl _) (by lia  )
  have w1 : 2 ^ (p + 52) + 2 ^ (p + 52) ≤ 2 ^ (p + 53) := by lia
  have w2 : 2 ^ (p + 52) + 2 ^ p ≤ 2 ^ (p + 53) := by lia
  have w3 : 2 ^ p ≤ MX := by lia
  obtain ⟨X, e1, R1⟩ := hx.add hy (tri_add ha hb (Nat.le_trans w1 f53))
  have n1 := R1.near_one (p := p) (by lia) (tri_add ha hb w1)
  obtain ⟨Z, e2, R2⟩ := e1.sub hx (tri_2 n1 hb (Nat.le_trans w2 f53))
  have n2 := R2.near_one (p := p) (by lia) (tri_2 n1 hb w2)
  obtain ⟨W, e3, R3⟩ := e1.sub e2 (tri_3 n2 ha (Nat.le_trans w2 f53))
  have n3 := R3.near_one (p := p) (by lia) (tri_3 n2 ha w2)
  obtain ⟨Y1, e4, R4⟩ := hx.sub e3 (Nat.le_trans (tri_4 n2 n3) w3)
  have n4 := R4.abs_one (p := p) (by lia) (tri_4 n2 n3)
  obtain ⟨Y2, e5, R5⟩ := hy.sub e2 (Nat.le_trans (tri_5 n1 n2) w3)
  have n5 := R5.abs_one (p := p) (by lia) (tri_5 n1 n2)
  obtain ⟨Y, e6, R6⟩ := e4.add e5 (tri_add n4 n5 (by lia))
  exact ⟨X, Y, e1, e6, R6.abs_one (by lia) (tri_add n4 n5 (by lia)), R1, n1⟩
theorem dlMul_near {x y : UInt64} {A B : Int} {p : Nat} (hx : Ev x A) (hy : Ev y B) (h : (A * B).natAbs ≤ 2 ^ 1074 * 2 ^ (p + 53)) (hp : p ≤ 1800) :
    ∃ P E, Ev (dlMul x y).1 P ∧ Ev (dlMul x y).2 E ∧ E.natAbs ≤ 2 ^ p ∧ Rnd (A * B) (2 ^ 1074) P ∧ 2 * (A * B - ((2 ^ 1074 : Nat) : Int) * P).natAbs ≤ 2 ^ 1074 * 2 ^ p := by
  obtain ⟨P, e1, R1⟩ := hx.mul hy (Nat.le_trans h (Nat.mul_le_mul_left _ (fit (Nat.le_refl _) (by lia  ))))
  have n1 := R1.near (p := p) (Nat.two_pow_pos _) (by lia  ) h
  have e0 : A * B + -P * 2 ^ 1074 = A * B - ((2 ^ 1074 : Nat) : Int) * P := by
    rw [natCast_pow2, Int.neg_mul, Int.mul_comm P]; rfl
  have hb : (A * B + -P * 2 ^ 1074).natAbs ≤ 2 ^ 1074 * 2 ^ p := by rw [e0]; lia
  obtain ⟨E, e2, R2⟩ := hx.fma hy e1.neg (Nat.le_trans hb (Nat.mul_le_mul_left _ (fit (Nat.le_refl _) (by lia  ))))
  exact ⟨P, E, e1, e2, R2.abs_pow (Nat.two_pow_pos _) (by lia  ) hb, R1, n1⟩
theorem TE.read {t : T3} {a b c : Int} {p : Nat} (h : TE t a b c) (ha : a.natAbs ≤ 2 ^ (p + 52)) (hb : b.natAbs ≤ 2 ^ (p + 52)) (hc : c.natAbs ≤ 2 ^ (p + 1)) (hp : p ≤ 1700) :
    ∃ v, Ev (tlToFloat t) v ∧ v.natAbs ≤ 2 ^ (p + 54) ∧ ∃ X Y, Rnd (b + a) 1 X ∧ Y.natAbs ≤ 2 ^ (p + 2) ∧ Rnd (Y + X) 1 v := by
  obtain ⟨X, Y, e1, e2, n2, R1, _⟩ := dlSum_near h.lo h.hi hb ha (by lia  )
  obtain ⟨Y', e3, n3, _⟩ := h.ti.addB e2 hc n2 (by lia  )
  have h53 : 2 ^ (p + 53) = 2 * 2 ^ (p + 52) := two_pow_succ (p + 52)
  have nX := R1.abs_one (p := p + 53) (by lia  ) (by omega)
  obtain ⟨v, e4, n4, R4⟩ := e3.addB e1 (p := p + 53) (Nat.le_trans n3 (pow_le_two (by lia  ))) nX (by lia  )
  exact ⟨v, e4, n4, X, Y', R1, n3, R4⟩
end Mine
end
section
set_option maxRecDepth 100000
set_option autoImplicit false
set_option maxHeartbeats 400000
set_option exponentiation.threshold 5000
namespace Mine
open PySem PySem.Float64
open PySem.Builtin.Math (dlSum dlMul tlFma tlToFloat)

theorem TE.step2 {t : T3} {a b : Int} (h : TE t a b 0) {x y : UInt64} {P E a' b' : Int} (m1 : Ev (dlMul x y).1 P) (m2 : Ev (dlMul x y).2 E)
    (ea : a + P = a') (ra : Rp a'.natAbs) (eb : b + E = b') (rb : Rp b'.natAbs) : TE (tlFma x y t) a' b' 0 := by
  obtain ⟨s1, s2⟩ := dlSum_exact h.hi m1 ea ra
  obtain ⟨r1, r2⟩ := dlSum_exact h.lo m2 eb rb
  obtain ⟨q1, q2⟩ := dlSum_exact r1 s2 (Int.add_zero _) rb
  exact ⟨s1, q1, (h.ti.addE r2 (Int.add_zero _) Rp.zero).addE q2 (Int.add_zero _) Rp.zero⟩
theorem root_lem {S X Y W P : Nat} (h1 : X * (2 * P) ≤ S) (h2 : Y * (2 * P) ≤ S) (a1 : 4 * W ≤ 4 * S + 4 * X + Y) (a2 : 4 * S ≤ 4 * W + 4 * X) : dist S W * P ≤ S := by
  have hd : 4 * dist S W ≤ 4 * X + Y := by unfold dist; omega
  have := Nat.mul_le_mul_right P hd
  have e1 : (4 * X + Y) * P = 2 * (X * (2 * P)) + Y * P := by grind
  have e2 : Y * (2 * P) = 2 * (Y * P) := by grind
  have e3 : 4 * dist S W * P = 4 * (dist S W * P) := Nat.mul_assoc ..
  lia
theorem root_near {W t : Nat} (hW : 2 ^ 2140 ≤ W) (hup : ∀ t', t < t' → 4 * W ≤ (V t + V t') * (V t + V t')) (hdn : ∀ t', t' < t → (V t + V t') * (V t + V t') ≤ 4 * W) :
    ∃ q k, V t = q * 2 ^ k ∧ 2 ^ 52 ≤ q ∧ q < 2 ^ 53 ∧ 1000 ≤ k ∧ dist (V t * V t) W * 2 ^ 51 ≤ V t * V t := by
  obtain ⟨k, q, ht, hq, h52, hV⟩ := V_form t
  have u1 := hup (t + 1) (by lia  )
  have hV1 : V (t + 1) = (q + 1) * 2 ^ k := by
    have := V_at (k := k) (q := q + 1) (by grind) (by grind)
    rw [← this]; congr 1; grind
  have hkk : 1000 ≤ k := by
    rw [hV, hV1, ← Nat.add_mul] at u1
    have h1 : 2 ^ 1071 * 2 ^ 1071 ≤ ((q + (q + 1)) * 2 ^ k) * ((q + (q + 1)) * 2 ^ k) := by
      refine Nat.le_trans ?_ u1
      have : (2 : Nat) ^ 1071 * 2 ^ 1071 = 4 * 2 ^ 2140 := by
        rw [← Nat.pow_add, show 1071 + 1071 = 2140 + 2 from rfl, Nat.pow_add, Nat.mul_comm]
      rw [this]; exact Nat.mul_le_mul_left _ hW
    have h2 := sq_le h1
    have h3 : (q + (q + 1)) * 2 ^ k < 2 ^ 54 * 2 ^ k := Nat.mul_lt_mul_of_pos_right (by omega) (Nat.two_pow_pos _)
    rw [← Nat.pow_add] at h3
    have := pow_lt_inv (Nat.lt_of_le_of_lt h2 h3)
    lia
  have h52' : 2 ^ 52 ≤ q := by grind
  refine ⟨q, k, hV, h52', hq, hkk, ?_⟩
  have d0 := hdn (t - 1) (by lia  )
  have hVm : q * 2 ^ k ≤ V (t - 1) + 2 ^ k := by
    by_cases hq0 : q = 2 ^ 52
    · have h5 : V (t - 1) = (2 ^ 53 - 1) * 2 ^ (k - 1) := by
        have := V_at (k := k - 1) (q := 2 ^ 53 - 1) (by lia  ) (.inl (by decide))
        rw [← this]; congr 1; lia
      have h2k := two_pred (k := k) (by lia  )
      rw [h5, hq0, h2k]
      generalize 2 ^ (k - 1) = p
      lia
    · have h5 : V (t - 1) = (q - 1) * 2 ^ k := by
        have := V_at (k := k) (q := q - 1) (by grind) (.inl (by lia  ))
        rw [← this]; congr 1; lia
      rw [h5, ← Nat.succ_mul]
      exact Nat.mul_le_mul_right _ (by grind)
  have hu : 2 ^ 52 * 2 ^ k ≤ V t := by rw [hV]; exact Nat.mul_le_mul_right _ h52'
  have hV2 : V (t + 1) = V t + 2 ^ k := by rw [hV1, Nat.add_mul, Nat.one_mul, ← hV]
  rw [hV2] at u1
  rw [← hV] at hVm
  generalize V t = h at *
  generalize V (t - 1) = h' at *
  have hP := Nat.two_pow_pos k
  generalize 2 ^ k = u at *
  have hhu : h * u * 2 ^ 52 ≤ h * h := by
    rw [Nat.mul_assoc, Nat.mul_comm u]; exact Nat.mul_le_mul_left _ hu
  have huu : u * u * 2 ^ 52 ≤ h * h := by
    have : u * (2 ^ 52 * u) ≤ h * h := Nat.mul_le_mul (by lia  ) hu
    refine Nat.le_trans (Nat.le_of_eq ?_) this
    ac_rfl
  have a1 : 4 * W ≤ 4 * (h * h) + 4 * (h * u) + u * u := by
    have : (h + (h + u)) * (h + (h + u)) = 4 * (h * h) + 4 * (h * u) + u * u := by grind
    grind
  have a2 : 4 * (h * h) ≤ 4 * W + 4 * (h * u) := by
    obtain ⟨c, hc⟩ : ∃ c, 2 * h = u + c := ⟨2 * h - u, by lia  ⟩
    have h1 : c * c ≤ (h + h') * (h + h') := Nat.mul_le_mul (by lia  ) (by lia  )
    have h2 : (2 * h) * (2 * h) = 4 * (h * h) := by grind
    have h3 : (2 * h) * u = 2 * (h * u) := by grind
    have h4 : (2 * h) * (2 * h) = (2 * h) * u + u * c + c * c := by rw [hc]; grind
    have h5 : u * c ≤ (2 * h) * u := by rw [hc, Nat.mul_comm]; exact Nat.mul_le_mul_right _ (by lia  )
    lia
  exact root_lem hhu huu a1 a2
theorem sq_lem {S W P : Nat} (h : dist S W * (P + 2) ≤ S) : S ≤ 2 * W := by
  unfold dist at h
  rcases Nat.le_total S W with q | q
  · lia
  · obtain ⟨c, rfl⟩ := Nat.le.dest q
    have e : W + c - W + (W - (W + c)) = c := by lia
    rw [e, Nat.mul_add] at h
    lia
theorem sq_lem2 {S W P : Nat} (h : dist S W * (P + 2) ≤ S) : W ≤ 2 * S := by
  unfold dist at h
  rcases Nat.le_total S W with q | q
  · obtain ⟨c, rfl⟩ := Nat.le.dest q
    have e : S - (S + c) + (S + c - S) = c := by lia
    rw [e, Nat.mul_add] at h
    lia
  · lia
theorem sub_abs {a b : Int} {A B : Nat} (h1 : a.natAbs ≤ A) (h2 : 2 * b.natAbs ≤ B) (h3 : B ≤ A) : (a - b).natAbs ≤ 2 * A := by omega
theorem sq_range {a b : Nat} {lo hi : Nat} (h1 : 2 ^ lo ≤ a) (h2 : a ≤ 2 ^ hi) (h3 : 2 ^ lo ≤ b) (h4 : b ≤ 2 ^ hi) : 2 ^ (lo + lo) ≤ a * b ∧ a * b ≤ 2 ^ (hi + hi) := by
  rw [Nat.pow_add, Nat.pow_add]
  exact ⟨Nat.mul_le_mul h1 h3, Nat.mul_le_mul h2 h4⟩
theorem half_lem {P X W S : Nat} (h : P = 4 * X) (h1 : P ≤ W) (h2 : W ≤ 2 * S) : X ≤ S := by lia
theorem half_lem2 {P X W S : Nat} (h : P = 2 ^ 16 * X) (h1 : P ≤ W) (h2 : W ≤ 2 * S) : X ≤ S := by lia
theorem aux_P2 {M : Nat} {P2 : Int} {X Y : Nat} (h : ((M : Int) + P2).natAbs ≤ Y) (g : M ≤ X) (hY : Y ≤ X) : P2.natAbs ≤ 2 * X := by omega
theorem tl_two {x y h : UInt64} {M f : Nat} {P2 E1 E2 : Int} (m1 : Ev (dlMul h (Float64.neg h)).1 P2) (m2 : Ev (dlMul h (Float64.neg h)).2 E2) (m3 : Ev (dlMul x y).1 (M : Int)) (m4 : Ev (dlMul x y).2 E1)
    (hM : M ≤ 2 ^ (f + 111)) (hMP : ((M : Int) + P2).natAbs ≤ 2 ^ (f + 62)) (nE1 : E1.natAbs ≤ 2 ^ (f + 58)) (nE2 : E2.natAbs ≤ 2 ^ (f + 59)) (hf : f ≤ 1100) :
    tlOk [(x, y), (h, Float64.neg h)] z3 ∧ ∃ dd, Ev (dotF [(x, y), (h, Float64.neg h)]) dd ∧ dd.natAbs ≤ 2 ^ (f + 65) := by
  have s1 : TE (tlFma x y z3) (M : Int) E1 0 := TE.zero.step2 m3 m4 (Int.zero_add _) m3.rp (Int.zero_add _) m4.rp
  have c53 : 2 ^ (f + 60) = 2 * 2 ^ (f + 59) := two_pow_succ (f + 59)
  have c54 : 2 ^ (f + 61) = 2 * 2 ^ (f + 60) := two_pow_succ (f + 60)
  have c55 : 2 ^ (f + 62) = 2 * 2 ^ (f + 61) := two_pow_succ (f + 61)
  have c56 : 2 ^ (f + 59) = 2 * 2 ^ (f + 58) := two_pow_succ (f + 58)
  have hP2 : P2.natAbs ≤ 2 ^ (f + 112) := by
    rw [two_pow_succ (f + 111)]
    exact aux_P2 hMP hM (pow_le_two (by lia  ))
  obtain ⟨X2, L2, x1, x2, x3, x4, _⟩ := dlSum_near (p := f + 60) s1.hi m1 (by rw [Int.natAbs_natCast]; exact Nat.le_trans hM (pow_le_two (by lia  ))) (Nat.le_trans hP2 (pow_le_two (by lia  ))) (by lia  )
  have x5 := x4.abs_one (p := f + 62) (by lia  ) hMP
  have nE1' : E1.natAbs ≤ 2 ^ (f + 7 + 52) := Nat.le_trans nE1 (pow_le_two (by lia  ))
  have nE2' : E2.natAbs ≤ 2 ^ (f + 7 + 52) := Nat.le_trans nE2 (pow_le_two (by lia  ))
  obtain ⟨B1, K1, y1, y2, y3, y4, _⟩ := dlSum_near (p := f + 7) s1.lo m2 nE1' nE2' (by lia  )
  have y5 := y4.abs_one (p := f + 60) (by lia  ) (by omega)
  have y5' : B1.natAbs ≤ 2 ^ (f + 9 + 52) := Nat.le_trans y5 (pow_le_two (by lia  ))
  have x3' : L2.natAbs ≤ 2 ^ (f + 9 + 52) := Nat.le_trans x3 (pow_le_two (by lia  ))
  obtain ⟨B2, K2, z1, z2, z3', z4, _⟩ := dlSum_near (p := f + 9) y1 x2 y5' x3' (by lia  )
  have x3'' : L2.natAbs ≤ 2 ^ (f + 61) := x3
  have z5 := z4.abs_one (p := f + 62) (by lia  ) (by omega)
  obtain ⟨T1, w1, w2, _⟩ := s1.ti.addB y2 (p := f + 10) (by simp) (Nat.le_trans y3 (pow_le_two (by lia  ))) (by lia  )
  obtain ⟨T2, w3, w4, _⟩ := w1.addB z2 (p := f + 11) w2 (Nat.le_trans z3' (pow_le_two (by lia  ))) (by lia  )
  have s2 : TE (tlFma h (Float64.neg h) (tlFma x y z3)) X2 B2 T2 := ⟨x1, z1, w3⟩
  obtain ⟨dd, hd, hdb, _⟩ := s2.read (p := f + 11) (Nat.le_trans x5 (pow_le_two (by lia  ))) (Nat.le_trans z5 (pow_le_two (by lia  ))) w4 (by lia  )
  exact ⟨⟨s1.hi.fin, s2.hi.fin, trivial⟩, dd, (cn_add hd).ev, hdb⟩
theorem sqrtF_near {x y : UInt64} {c1 c2 : Nat} (hx : Ev x (c1 : Nat)) (hy : Ev y (c2 : Nat)) (h1 : 2 ^ 1070 ≤ c1) (h2 : c1 ≤ 2 ^ 1106) (h3 : 2 ^ 1070 ≤ c2) (h4 : c2 ≤ 2 ^ 1106) :
    SqOk x y ∧ ∃ S : Nat, Ev (sqrtF x y) (S : Nat) ∧ 2 ^ 1060 ≤ S := by
  obtain ⟨r1, r2⟩ := sq_range h1 h2 h3 h4
  have U0 := Nat.two_pow_pos 1074
  have cc : ((c1 : Int) * (c2 : Int)).natAbs = c1 * c2 := by rw [Int.natAbs_mul]; rfl
  have ccn : (c1 : Int) * (c2 : Int) = ((c1 * c2 : Nat) : Int) := (Int.natCast_mul ..).symm
  obtain ⟨Mi, hM, RM⟩ := hx.mul hy (by
    rw [cc]
    refine le_mx (Nat.le_trans r2 ?_)
    rw [← Nat.pow_add]; exact pow_le_two (by decide))
  have hMlo : ((2 ^ 1066 : Nat) : Int) ≤ Mi := by
    refine RM.ge U0 (by rw [Int.natAbs_natCast]; exact rp_pow (by decide)) ?_
    rw [ccn, ← Int.natCast_mul, ← Nat.pow_add]
    exact Int.ofNat_le.mpr r1
  have hMhi : Mi ≤ ((2 ^ 1138 : Nat) : Int) := by
    refine RM.le U0 (by rw [Int.natAbs_natCast]; exact rp_pow (by decide)) ?_
    rw [ccn, ← Int.natCast_mul, ← Nat.pow_add]
    exact Int.ofNat_le.mpr r2
  obtain ⟨M, rfl⟩ : ∃ M : Nat, Mi = (M : Int) := ⟨Mi.toNat, by have := Nat.two_pow_pos 1066; grind⟩
  have hMlo' : 2 ^ 1066 ≤ M := Int.ofNat_le.mp hMlo
  have hMhi' : M ≤ 2 ^ 1138 := Int.ofNat_le.mp hMhi
  have hM0 : M ≠ 0 := by have := Nat.two_pow_pos 1066; lia
  -- the binade of the product
  have g1 := Nat.log2_self_le hM0
  have g2 : M < 2 ^ (M.log2 + 1) := Nat.lt_log2_self
  generalize M.log2 = e at g1 g2
  have he1 : 1066 ≤ e := by
    have := pow_lt_inv (Nat.lt_of_le_of_lt hMlo' g2); lia
  have he2 : e ≤ 1138 := pow_le_inv (Nat.le_trans g1 hMhi')
  have hcc : c1 * c2 ≤ 2 ^ 1074 * 2 ^ (e + 1) := by
    rcases Nat.le_total (c1 * c2) (2 ^ 1074 * 2 ^ (e + 1)) with h | h
    · exact h
    · exfalso
      have := RM.ge (Z := ((2 ^ (e + 1) : Nat) : Int)) U0 (by rw [Int.natAbs_natCast]; exact rp_pow (by lia  )) (by rw [ccn, ← Int.natCast_mul]; exact Int.ofNat_le.mpr h)
      have := Int.ofNat_le.mp this
      grind
  -- the root
  obtain ⟨s, mm, ex, d, v, hz⟩ := hM.dec
  have hs : s = false := by
    have q1 := val_sgn d
    rw [v, Int.natAbs_natCast] at q1
    unfold sgn at q1
    cases s
    · rfl
    · simp only [if_true] at q1; lia
  subst hs
  obtain ⟨t, t1, t2, t3, t4⟩ := sqrt_right d (fun h => by have := hz.mp h; lia  )
  rw [v, Int.natAbs_natCast] at t3 t4
  have hW : 2 ^ 2140 ≤ M * 2 ^ 1074 := by
    rw [show (2140 : Nat) = 1066 + 1074 from rfl, Nat.pow_add]; exact Nat.mul_le_mul_right _ hMlo'
  obtain ⟨q, k, hV, hq1, hq2, hk, hnear⟩ := root_near hW t3 t4
  have hh : Ev (hF x y) ((V t : Nat) : Int) := ⟨false, t, t2, t1, rfl⟩
  have hkb : k ≤ 1100 := by
    have b2 : V t * V t ≤ 2 ^ 1107 * 2 ^ 1107 := by
      have hp : 0 < V t := by rw [hV]; exact Nat.mul_pos (Nat.lt_of_lt_of_le (by decide) hq1) (Nat.two_pow_pos _)
      have b1 := t4 0 (by
        rcases Nat.eq_zero_or_pos t with z | z
        · rw [z, V_zero] at hp; exact absurd hp (Nat.lt_irrefl _)
        · exact z)
      rw [V_zero, Nat.add_zero] at b1
      refine Nat.le_trans b1 ?_
      have b3 : M * 2 ^ 1074 ≤ 2 ^ 1138 * 2 ^ 1074 := Nat.mul_le_mul_right _ hMhi'
      have e0 : (2 : Nat) ^ 1107 * 2 ^ 1107 = 4 * (2 ^ 1138 * 2 ^ 1074) := by
        rw [← Nat.pow_add 2 1138 1074, ← Nat.pow_add 2 1107 1107]
      rw [e0]; exact Nat.mul_le_mul_left _ b3
    have b4 := sq_le b2
    rw [hV] at b4
    have b5 : 2 ^ 52 * 2 ^ k ≤ q * 2 ^ k := Nat.mul_le_mul_right _ hq1
    rw [← Nat.pow_add] at b5
    have := pow_le_inv (Nat.le_trans b5 b4)
    lia
  have hh0 : 0 < V t := by rw [hV]; exact Nat.mul_pos (Nat.lt_of_lt_of_le (by decide) hq1) (Nat.two_pow_pos _)
  obtain ⟨f, rfl⟩ : ∃ f, e = f + 110 := ⟨e - 110, by lia  ⟩
  -- the square of the root
  have hS : (((V t : Nat) : Int) * -((V t : Nat) : Int)) = -((V t * V t : Nat) : Int) := by rw [Int.mul_neg, Int.natCast_mul]
  have hSle : V t * V t ≤ 2 * (M * 2 ^ 1074) := sq_lem (P := 2 ^ 51 - 2) hnear
  have hSge : M * 2 ^ 1074 ≤ 2 * (V t * V t) := sq_lem2 (P := 2 ^ 51 - 2) hnear
  have hSb : V t * V t ≤ 2 ^ 1074 * 2 ^ (f + 59 + 53) := by
    refine Nat.le_trans hSle ?_
    have : M * 2 ^ 1074 ≤ 2 ^ (f + 110 + 1) * 2 ^ 1074 := Nat.mul_le_mul_right _ (Nat.le_of_lt g2)
    have e0 : 2 ^ 1074 * 2 ^ (f + 59 + 53) = 2 * (2 ^ (f + 110 + 1) * 2 ^ 1074) := by
      rw [show f + 59 + 53 = f + 110 + 1 + 1 by lia  , two_pow_succ (f + 110 + 1), Nat.mul_left_comm, Nat.mul_comm (2 ^ 1074)]
    rw [e0]; exact Nat.mul_le_mul_left _ this
  obtain ⟨P2, E2, m1, m2, nE2, RP2, nP2⟩ := dlMul_near (p := f + 59) hh hh.neg (by rw [hS, Int.natAbs_neg, Int.natAbs_natCast]; exact hSb) (by lia  )
  obtain ⟨P1, E1, m3, m4, nE1, RP1, nP1⟩ := dlMul_near (p := f + 58) hx hy (by rw [cc]; exact hcc) (by lia  )
  have hPM : P1 = (M : Int) := by
    have a1 : Ev (Float64.mul x y) P1 := m3
    obtain ⟨_, _, _, d1, v1, _⟩ := a1.dec
    obtain ⟨_, _, _, d2, v2, _⟩ := hM.dec
    lia
  subst hPM
  have hdiff : dist (V t * V t) (M * 2 ^ 1074) ≤ 2 ^ 1074 * 2 ^ (f + 61) := by
    have a1 : dist (V t * V t) (M * 2 ^ 1074) * 2 ^ 51 ≤ 2 ^ 1074 * 2 ^ (f + 61) * 2 ^ 51 := by
      refine Nat.le_trans hnear ?_
      have e61 : 2 ^ (f + 59 + 53) = 2 ^ (f + 61) * 2 ^ 51 := by rw [← Nat.pow_add]
      rw [Nat.mul_assoc, ← e61]
      exact hSb
    exact Nat.le_of_mul_le_mul_right a1 (Nat.two_pow_pos _)
  have hMP : ((M : Int) + P2).natAbs ≤ 2 ^ (f + 62) := by
    rw [hS] at nP2
    have a0 : (((2 ^ 1074 : Nat) : Int) * ((M : Int) + P2)).natAbs ≤ 2 ^ 1074 * 2 ^ (f + 62) := by
      have a1 : ((2 ^ 1074 : Nat) : Int) * ((M : Int) + P2) = (((M * 2 ^ 1074 : Nat) : Int) - ((V t * V t : Nat) : Int)) - (-((V t * V t : Nat) : Int) - ((2 ^ 1074 : Nat) : Int) * P2) := by
        rw [Int.natCast_mul M]
        generalize ((2 ^ 1074 : Nat) : Int) = u
        generalize ((V t * V t : Nat) : Int) = z
        grind
      have a2 := dist_abs (M * 2 ^ 1074) (V t * V t)
      have a3 : dist (M * 2 ^ 1074) (V t * V t) = dist (V t * V t) (M * 2 ^ 1074) := by unfold dist; lia
      have a4 : 2 ^ 1074 * 2 ^ (f + 62) = 2 * (2 ^ 1074 * 2 ^ (f + 61)) := by rw [two_pow_succ (f + 61), Nat.mul_left_comm]
      have a5 : 2 ^ 1074 * 2 ^ (f + 59) ≤ 2 ^ 1074 * 2 ^ (f + 61) := Nat.mul_le_mul_left _ (pow_le_two (by lia  ))
      rw [a1, a4]
      exact sub_abs (by rw [a2, a3]; exact hdiff) nP2 a5
    rw [Int.natAbs_mul, Int.natAbs_natCast] at a0
    exact Nat.le_of_mul_le_mul_left a0 U0
  have g2' : M ≤ 2 ^ (f + 111) := Nat.le_of_lt g2
  obtain ⟨hok, dd, hdot, hdb⟩ := tl_two m1 m2 m3 m4 g2' hMP nE1 nE2 (by lia  )
  have htwo : Ev (Float64.mul twoF (hF x y)) ((q * 2 ^ (k + 1) : Nat) : Int) := by
    refine two_ev.mulE hh ?_ (by rw [Int.natAbs_natCast]; exact rp_of (by lia  ) (by lia  ))
    have e2 : 2 ^ (k + 1) = 2 ^ k * 2 := Nat.pow_succ ..
    rw [hV, e2, Int.natCast_mul q, Int.natCast_mul q, Int.natCast_mul (2 ^ k)]
    generalize ((2 ^ k : Nat) : Int) = p at *
    generalize ((2 ^ 1074 : Nat) : Int) = q at *
    grind
  have hB0 : 0 < q * 2 ^ (k + 1) := Nat.mul_pos (Nat.lt_of_lt_of_le (by decide) hq1) (Nat.two_pow_pos _)
  have hz0 : Float64.isZero (hF x y) = false := by rw [hh.isZero]; exact decide_eq_false (by lia  )
  have hrp : Rp (q * 2 ^ (k - 30)) := rp_of (by lia  ) (by grind)
  have hdiv : dd.natAbs * 2 ^ 1074 ≤ q * 2 ^ (k + 1) * (q * 2 ^ (k - 30)) := by
    have a1 : q * 2 ^ (k + 1) * (q * 2 ^ (k - 30)) * 2 ^ 29 = V t * V t := by
      rw [hV, show 2 ^ (k + 1) = 2 ^ k * 2 from Nat.pow_succ .., show 2 ^ k = 2 ^ (k - 30) * 2 ^ 30 by rw [← Nat.pow_add]; congr 1; lia  , show (2 : Nat) ^ 30 = 2 ^ 29 * 2 from rfl]
      generalize 2 ^ (k - 30) = p
      grind
    have a2 : dd.natAbs * 2 ^ 1074 * 2 ^ 29 ≤ V t * V t := by
      have b1 : dd.natAbs * 2 ^ 1074 ≤ 2 ^ (f + 65) * 2 ^ 1074 := Nat.mul_le_mul_right _ hdb
      have b2 : 2 ^ (f + 110) * 2 ^ 1074 ≤ M * 2 ^ 1074 := Nat.mul_le_mul_right _ g1
      have b3 : 2 ^ (f + 110) * 2 ^ 1074 = 2 ^ 16 * (2 ^ (f + 65) * 2 ^ 1074 * 2 ^ 29) := by
        rw [show f + 110 = f + 65 + 29 + 16 by lia  , Nat.pow_add, Nat.pow_add _ (f + 65)]
        generalize (2 : Nat) ^ 1074 = u
        generalize 2 ^ (f + 65) = z
        generalize (2 : Nat) ^ 29 = a
        generalize (2 : Nat) ^ 16 = b
        ac_rfl
      have b4 : dd.natAbs * 2 ^ 1074 * 2 ^ 29 ≤ 2 ^ (f + 65) * 2 ^ 1074 * 2 ^ 29 := Nat.mul_le_mul_right _ b1
      refine Nat.le_trans b4 ?_
      exact half_lem2 b3 b2 hSge
    rw [← a1] at a2
    exact Nat.le_of_mul_le_mul_right a2 (by decide)
  obtain ⟨δ, hδ, hRδ⟩ := hdot.div htwo (by lia  ) (Nat.le_trans hdiv (Nat.mul_le_mul_left _ hrp.le_max))
  have hδb := hRδ.abs_le hB0 hrp (by rw [Int.natAbs_mul, Int.natAbs_pow]; exact hdiv)
  have hkk : 2 ^ k = 2 ^ 30 * 2 ^ (k - 30) := by rw [← Nat.pow_add]; congr 1; lia
  have hk1 : 2 ^ k = 2 * 2 ^ (k - 1) := two_pred (by lia  )
  have hVk : V t = 2 * (q * 2 ^ (k - 1)) := by rw [hV, hk1]; ac_rfl
  have hVk2 : V t = 2 ^ 30 * (q * 2 ^ (k - 30)) := by rw [hV, hkk]; ac_rfl
  have hVmx : 2 * V t ≤ MX := by
    rw [hV]
    have : q * 2 ^ k ≤ 2 ^ 53 * 2 ^ k := Nat.mul_le_mul_right _ (Nat.le_of_lt hq2)
    rw [← Nat.pow_add] at this
    exact fit (p := 53 + k + 1) (by rw [two_pow_succ (53 + k)]; lia  ) (by lia  )
  obtain ⟨S, hS1, hRS⟩ := hh.add hδ (by lia  )
  have hSlo : ((q * 2 ^ (k - 1) : Nat) : Int) ≤ S := hRS.ge (by decide) (by rw [Int.natAbs_natCast]; exact rp_of (by lia  ) (by lia  )) (by lia  )
  refine ⟨⟨?_, hh.fin, fun h => absurd h (by rw [hz0]; decide), fun _ => ⟨hok, by rw [htwo.isZero]; exact decide_eq_false (by lia  )⟩⟩, S.toNat, ?_, ?_⟩
  · rw [hM.notNaN, hh.notNaN]; decide
  · unfold sqrtF
    rw [if_neg (by rw [hz0]; decide)]
    rw [Int.toNat_of_nonneg (by lia  )]
    exact hS1
  · have a1 : 2 ^ 52 * 2 ^ (k - 1) ≤ q * 2 ^ (k - 1) := Nat.mul_le_mul_right _ hq1
    have a2 : 2 ^ 1068 ≤ q * 2 ^ (k - 1) := by
      have b1 : (2 ^ 1069) * (2 ^ 1069) ≤ V t * V t := by
        have c1 : (2 : Nat) ^ 2140 = 4 * ((2 ^ 1069) * (2 ^ 1069)) := by rw [← Nat.pow_add 2 1069 1069]
        exact half_lem c1 hW hSge
      have b2 := sq_le b1
      have b3 : (2 : Nat) ^ 1069 = 2 * 2 ^ 1068 := two_pow_succ 1068
      lia
    have a3 : (2 : Nat) ^ 1060 ≤ 2 ^ 1068 := pow_le_two (by decide)
    grind
end Mine
end
section
set_option maxRecDepth 100000
set_option autoImplicit false
set_option maxHeartbeats 400000
set_option exponentiation.threshold 5000
namespace Mine
open PySem PySem.Float64
open PySem.Builtin.Math (dlSum dlMul tlFma tlToFloat)

structure TB (w k : Nat) (t : T3) (a b c : Int) : Prop where
  e : TE t a b c
  ha : a.natAbs ≤ k * 2 ^ (w + 92)
  hb : b.natAbs ≤ k * 2 ^ (w + 47)
  hc : c.natAbs ≤ k * 2 ^ (w + 2)
theorem TB.zero (w : Nat) : TB w 0 z3 0 0 0 := ⟨TE.zero, by simp, by simp, by simp⟩
theorem le_32 {z k p : Nat} (h : z ≤ k * 2 ^ p) (hk : k ≤ 32) : z ≤ 2 ^ (p + 5) := by
  have : k * 2 ^ p ≤ 32 * 2 ^ p := Nat.mul_le_mul_right _ hk
  have e : 2 ^ (p + 5) = 2 ^ p * 32 := Nat.pow_add ..
  lia
theorem Rnd.abs_mul {C C' : Int} {m p : Nat} (h : Rnd C 1 C') (hm : m ≤ 2 ^ 53) (hp : p ≤ 1990) (e : C.natAbs ≤ m * 2 ^ p) : C'.natAbs ≤ m * 2 ^ p := h.abs_le (by decide) (rp_of hm hp) (by lia  )
theorem half_sum {a b : Int} {k X : Nat} (ha : a.natAbs ≤ k * (2 * X)) (hb : b.natAbs ≤ X) : (a + b).natAbs ≤ (2 * k + 1) * X := by
  have e : k * (2 * X) = 2 * k * X := by rw [← Nat.mul_assoc, Nat.mul_comm k 2]
  rw [Nat.add_mul, Nat.one_mul]; omega
theorem half_sum2 {a b : Int} {k X : Nat} (ha : a.natAbs ≤ (2 * k + 1) * X) (hb : b.natAbs ≤ X) : (a + b).natAbs ≤ (k + 1) * (2 * X) := by
  have e : (k + 1) * (2 * X) = (2 * k + 1) * X + X := by grind
  omega
theorem TB.step {w k : Nat} {t : T3} {a b c : Int} (h : TB w k t a b c) (hk : k < 32) (hw : w ≤ 1100) {x y : UInt64} {A B : Int} (hx : Ev x A) (hy : Ev y B) (hAB : (A * B).natAbs ≤ 2 ^ 1074 * 2 ^ (w + 92)) :
    ∃ a' b' c' P, TB w (k + 1) (tlFma x y t) a' b' c' ∧ Rnd (A * B) (2 ^ 1074) P ∧ Rnd (a + P) 1 a' := by
  obtain ⟨P, E, m1, m2, nE, RP, _⟩ := dlMul_near (p := w + 39) hx hy hAB (by lia  )
  have nP : P.natAbs ≤ 2 ^ (w + 92) := RP.abs_pow (Nat.two_pow_pos _) (by lia  ) hAB
  have a32 : a.natAbs ≤ 2 ^ (w + 45 + 52) := le_32 h.ha (by lia  )
  have b32 : b.natAbs ≤ 2 ^ (w + 52) := le_32 h.hb (by lia  )
  have e47 : 2 ^ (w + 47) = 2 * 2 ^ (w + 46) := two_pow_succ (w + 46)
  have e2 : 2 ^ (w + 2) = 2 * 2 ^ (w + 1) := two_pow_succ (w + 1)
  have hb47 : b.natAbs ≤ k * (2 * 2 ^ (w + 46)) := by rw [← e47]; exact h.hb
  have hc2 : c.natAbs ≤ k * (2 * 2 ^ (w + 1)) := by rw [← e2]; exact h.hc
  obtain ⟨X, L, x1, x2, x3, x4, _⟩ := dlSum_near (p := w + 45) h.e.hi m1 a32 (Nat.le_trans nP (pow_le_two (by lia  ))) (by lia  )
  have nX : X.natAbs ≤ (k + 1) * 2 ^ (w + 92) := x4.abs_mul (by lia  ) (by lia  ) (by have := h.ha; rw [Nat.add_mul, Nat.one_mul]; omega)
  have x3' : L.natAbs ≤ 2 ^ (w + 46) := x3
  obtain ⟨B1, K1, y1, y2, y3, y4, _⟩ := dlSum_near (p := w) h.e.lo m2 b32 (Nat.le_trans nE (pow_le_two (by lia  ))) (by lia  )
  have nB1 : B1.natAbs ≤ (2 * k + 1) * 2 ^ (w + 46) := y4.abs_mul (by lia  ) (by lia  ) (half_sum hb47 (Nat.le_trans nE (pow_le_two (by lia  ))))
  have nB1' : B1.natAbs ≤ 2 ^ (w + 52) := by
    have : (2 * k + 1) * 2 ^ (w + 46) ≤ 64 * 2 ^ (w + 46) := Nat.mul_le_mul_right _ (by lia  )
    have e : 2 ^ (w + 52) = 2 ^ (w + 46) * 64 := Nat.pow_add 2 (w + 46) 6
    lia
  obtain ⟨B2, K2, z1, z2, z3', z4, _⟩ := dlSum_near (p := w) y1 x2 nB1' (Nat.le_trans x3' (pow_le_two (by lia  ))) (by lia  )
  have nB2 : B2.natAbs ≤ (k + 1) * 2 ^ (w + 47) := by
    rw [e47]
    have hs := half_sum2 nB1 x3'
    rw [← e47] at hs ⊢
    exact z4.abs_mul (by lia  ) (by lia  ) hs
  have hf : (2 * k + 1) * 2 ^ (w + 1) ≤ MX := (rp_of (m := 2 * k + 1) (k := w + 1) (by lia  ) (by lia  )).le_max
  have hf2 : (k + 1) * 2 ^ (w + 2) ≤ MX := (rp_of (m := k + 1) (k := w + 2) (by lia  ) (by lia  )).le_max
  have s1 := half_sum (X := 2 ^ (w + 1)) hc2 y3
  obtain ⟨T1, w1, r1⟩ := h.e.ti.add y2 (Nat.le_trans s1 hf)
  have nT1 := r1.abs_mul (m := 2 * k + 1) (p := w + 1) (by lia  ) (by lia  ) s1
  have s2 := half_sum2 nT1 z3'
  rw [← e2] at s2
  obtain ⟨T2, w2, r2⟩ := w1.add z2 (Nat.le_trans s2 hf2)
  have nT2 := r2.abs_mul (m := k + 1) (p := w + 2) (by lia  ) (by lia  ) s2
  exact ⟨X, B2, T2, P, ⟨⟨x1, z1, w2⟩, nX, nB2, nT2⟩, RP, x4⟩
theorem prod_pow {A B : Int} {p q r : Nat} (hA : A.natAbs ≤ 2 ^ p) (hB : B.natAbs ≤ 2 ^ q) (h : p + q = 1074 + r) : (A * B).natAbs ≤ 2 ^ 1074 * 2 ^ r := by
  rw [Int.natAbs_mul, ← Nat.pow_add, ← h, Nat.pow_add]
  exact Nat.mul_le_mul hA hB
noncomputable def Mid (x : UInt64) : Prop := ∃ A, Ev x A ∧ A.natAbs ≤ 2 ^ 1086
theorem run_bd : ∀ (L : List (UInt64 × UInt64)) (k : Nat) (t : T3) (a b c : Int), TB 1006 k t a b c → k + L.length ≤ 32 → (∀ p ∈ L, Mid p.1 ∧ Mid p.2) → tlOk L t ∧ ∃ a' b' c', TB 1006 (k + L.length) (tlRun L t) a' b' c'
  | [], k, t, a, b, c, h, _, _ => ⟨trivial, a, b, c, h⟩
  | p :: L, k, t, a, b, c, h, hk, hb => by
    have hlen : (p :: L).length = L.length + 1 := rfl
    obtain ⟨⟨A, hA, nA⟩, ⟨B, hB, nB⟩⟩ := hb p (.head _)
    obtain ⟨a', b', c', P, h', _, _⟩ := h.step (by lia  ) (by decide) hA hB (prod_pow nA nB (by decide))
    obtain ⟨q1, a2, b2, c2, q2⟩ := run_bd L (k + 1) _ a' b' c' h' (by lia  ) (fun q hq => hb q (.tail _ hq))
    refine ⟨⟨h'.e.hi.fin, q1⟩, a2, b2, c2, ?_⟩
    rw [hlen, show k + (L.length + 1) = k + 1 + L.length by lia  ]
    exact q2
theorem run_sq : ∀ (xs : List UInt64) (k : Nat) (t : T3) (a b c : Int), TB 1006 k t a b c → 0 ≤ a → k + xs.length ≤ 32 → (∀ x ∈ xs, Mid x) → tlOk (xs.map fun x => (x, x)) t ∧ ∃ a' b' c', TB 1006 (k + xs.length) (tlRun (xs.map fun x => (x, x)) t) a' b' c' ∧ a ≤ a' ∧
      ((∃ x ∈ xs, ∃ A, Ev x A ∧ 2 ^ 1073 ≤ A.natAbs) → ((2 ^ 1072 : Nat) : Int) ≤ a')
  | [], k, t, a, b, c, h, _, _, _ => ⟨trivial, a, b, c, h, Int.le_refl _, fun ⟨_, h, _⟩ => nomatch h⟩
  | x :: xs, k, t, a, b, c, h, h0, hk, hb => by
    have hlen : (x :: xs).length = xs.length + 1 := rfl
    obtain ⟨A, hA, nA⟩ := hb x (.head _)
    obtain ⟨a', b', c', P, h', RP, Ra⟩ := h.step (by lia  ) (by decide) hA hA (prod_pow nA nA (by decide))
    have hP0 : 0 ≤ P := RP.ge (Nat.two_pow_pos _) Rp.zero (by rw [Int.mul_zero, abs_sq]; exact Int.natCast_nonneg _)
    have ha' : a ≤ a' := Ra.ge (by decide) h.e.hi.rp (by lia  )
    obtain ⟨q1, a2, b2, c2, q2, q3, q4⟩ := run_sq xs (k + 1) _ a' b' c' h' (by lia  ) (by lia  ) (fun y hy => hb y (.tail _ hy))
    refine ⟨⟨h'.e.hi.fin, q1⟩, a2, b2, c2, ?_, by lia  , fun ⟨y, hy, A', hA', nA'⟩ => ?_⟩
    · rw [hlen, show k + (xs.length + 1) = k + 1 + xs.length by lia  ]
      exact q2
    · rcases List.mem_cons.mp hy with rfl | hy
      · have eA : A = A' := by
          obtain ⟨_, _, _, _, v1, _⟩ := hA.dec
          obtain ⟨_, _, _, _, v2, _⟩ := hA'.dec
          lia
        subst eA
        have hPb : ((2 ^ 1072 : Nat) : Int) ≤ P := RP.ge (Nat.two_pow_pos _) (by rw [Int.natAbs_natCast]; exact rp_pow (by decide)) (by
          rw [abs_sq, ← Int.natCast_mul]
          have e : (2 : Nat) ^ 1074 * 2 ^ 1072 = 2 ^ 1073 * 2 ^ 1073 := by rw [← Nat.pow_add]
          rw [e]
          exact Int.ofNat_le.mpr (Nat.mul_le_mul nA' nA'))
        have : ((2 ^ 1072 : Nat) : Int) ≤ a' := Ra.ge (by decide) (by rw [Int.natAbs_natCast]; exact rp_pow (by decide)) (by lia  )
        lia
      · exact q4 ⟨y, hy, A', hA', nA'⟩
theorem dot_bd {L : List (UInt64 × UInt64)} (h : L.length ≤ 32) (hb : ∀ p ∈ L, Mid p.1 ∧ Mid p.2) : tlOk L z3 ∧ ∃ v, Ev (dotF L) v ∧ v.natAbs ≤ 2 ^ 1106 := by
  obtain ⟨q1, a, b, c, q2⟩ := run_bd L 0 z3 0 0 0 (TB.zero _) (by lia  ) hb
  have hk : 0 + L.length ≤ 32 := by lia
  obtain ⟨v, e1, n1, _⟩ := q2.e.read (p := 1052) (Nat.le_trans (le_32 q2.ha hk) (pow_le_two (by decide))) (Nat.le_trans (le_32 q2.hb hk) (pow_le_two (by decide))) (Nat.le_trans (le_32 q2.hc hk) (pow_le_two (by decide))) (by decide)
  exact ⟨q1, v, (cn_add e1).ev, n1⟩
theorem aux_lo {a b : Int} {p : Nat} (ha : ((2 ^ (p + 1) : Nat) : Int) ≤ a) (hb : b.natAbs ≤ 2 ^ p) : ((2 ^ p : Nat) : Int) ≤ b + a := by
  rw [two_pow_succ, Int.natCast_mul] at ha
  generalize (2 ^ p : Nat) = z at *
  lia
theorem zip_self : ∀ xs : List UInt64, xs.zip xs = xs.map fun x => (x, x)
  | [] => rfl
  | x :: xs => by rw [List.zip_cons_cons, zip_self xs]; rfl
theorem dot_sq {xs : List UInt64} (h : xs.length ≤ 32) (hb : ∀ x ∈ xs, Mid x) (hbig : ∃ x ∈ xs, ∃ A, Ev x A ∧ 2 ^ 1073 ≤ A.natAbs) : tlOk (xs.zip xs) z3 ∧ ∃ c : Nat, Ev (dotF (xs.zip xs)) (c : Int) ∧ 2 ^ 1070 ≤ c ∧ c ≤ 2 ^ 1106 := by
  rw [zip_self]
  obtain ⟨q1, a, b, c, q2, _, q4⟩ := run_sq xs 0 z3 0 0 0 (TB.zero _) (Int.le_refl _) (by lia  ) hb
  have ha := q4 hbig
  have hk : 0 + xs.length ≤ 32 := by lia
  have nb := le_32 q2.hb hk
  obtain ⟨v, e1, n1, X, Y, rX, nY, rv⟩ := q2.e.read (p := 1052) (Nat.le_trans (le_32 q2.ha hk) (pow_le_two (by decide))) (Nat.le_trans nb (pow_le_two (by decide))) (Nat.le_trans (le_32 q2.hc hk) (pow_le_two (by decide))) (by decide)
  have hX : ((2 ^ 1071 : Nat) : Int) ≤ X := rX.ge (by decide) (by rw [Int.natAbs_natCast]; exact rp_pow (by decide)) (by
    have := aux_lo (p := 1071) ha (Nat.le_trans nb (pow_le_two (by decide)))
    lia  )
  have hv : ((2 ^ 1070 : Nat) : Int) ≤ v := rv.ge (by decide) (by rw [Int.natAbs_natCast]; exact rp_pow (by decide)) (by
    have := aux_lo (p := 1070) hX (Nat.le_trans nY (pow_le_two (by decide)))
    lia  )
  have hv0 : 0 ≤ v := Int.le_trans (Int.natCast_nonneg _) hv
  refine ⟨q1, v.toNat, ?_, ?_, ?_⟩
  · rw [Int.toNat_of_nonneg hv0]; exact (cn_add e1).ev
  · exact Int.ofNat_le.mp (by rw [Int.toNat_of_nonneg hv0]; exact hv)
  · have n1' : v.natAbs ≤ 2 ^ 1106 := n1
    grind
end Mine
end
section
set_option maxRecDepth 100000
set_option autoImplicit false
set_option exponentiation.threshold 5000
set_option maxHeartbeats 400000
namespace Mine
open PySem PySem.Float64

theorem hf_mid {d : Int} (h : d.natAbs ≤ 64) : Mid (hf (2 * d)) := by
  refine ⟨_, hf_ev2 d h, ?_⟩
  rw [Int.natAbs_mul, Int.natAbs_natCast]
  have : d.natAbs * 2 ^ 1074 ≤ 2 ^ 6 * 2 ^ 1074 := Nat.mul_le_mul_right _ h
  rw [← Nat.pow_add] at this
  exact Nat.le_trans this (pow_le_two (by decide))
theorem sum_nonneg : ∀ ns : List Int, (∀ x ∈ ns, 0 ≤ x) → 0 ≤ ns.sum
  | [], _ => Int.le_refl _
  | x :: r, h => by
    have h1 := sum_nonneg r (fun y hy => h y (.tail _ hy))
    have h2 := h x (.head _)
    rw [List.sum_cons]; lia
theorem ev_int {s : Int} (h : s.natAbs ≤ 2 ^ 40) : Ev (Float64.ofInt s) (s * ((2 ^ 1074 : Nat) : Int)) := by
  rw [hf_ofInt (by lia  )]
  have h1 := (hf_cn (z := 2 * s) (by lia  )).ev
  have e : (2 : Nat) ^ 1074 = 2 ^ 1073 * 2 := pow1074
  have e2 : 2 * s * ((2 ^ 1073 : Nat) : Int) = s * ((2 ^ 1074 : Nat) : Int) := by
    rw [e, Int.natCast_mul]
    generalize ((2 ^ 1073 : Nat) : Int) = P
    show 2 * s * P = s * (P * 2)
    grind
  rw [← e2]; exact h1
theorem abs_up_le {M : Int} {X : Nat} (h : M.natAbs ≤ X) : M ≤ (X : Int) := by lia
theorem mean_ev {ns : List Int} (h0 : 0 < ns.length) (h : ns.length ≤ 31) (hb : ∀ s ∈ ns, 0 ≤ s ∧ s.natAbs ≤ 2 ^ 12) : ∃ M : Int, Ev (meanF ns) M ∧ 0 ≤ M ∧ M ≤ ((2 ^ 1086 : Nat) : Int) := by
  have hs := sum_le (B := 2 ^ 12) ns (fun x hx => (hb x hx).2)
  have hs0 := sum_nonneg ns (fun x hx => (hb x hx).1)
  have hs2 : ns.length * 2 ^ 12 ≤ 31 * 2 ^ 12 := Nat.mul_le_mul_right _ h
  have U0 := Nat.two_pow_pos 1074
  have e1 : Ev (hf (2 * ns.sum)) (ns.sum * ((2 ^ 1074 : Nat) : Int)) := by
    have := ev_int (s := ns.sum) (by lia  )
    rwa [hf_ofInt (by lia  )] at this
  have e2 : Ev (Float64.ofInt (ns.length : Int)) ((ns.length * 2 ^ 1074 : Nat) : Int) := by
    have := ev_int (s := (ns.length : Int)) (by grind)
    rwa [← Int.natCast_mul] at this
  have hB : 0 < ns.length * 2 ^ 1074 := Nat.mul_pos h0 U0
  have hbd : (ns.sum * ((2 ^ 1074 : Nat) : Int)).natAbs * 2 ^ 1074 ≤ ns.length * 2 ^ 1074 * 2 ^ 1086 := by
    rw [Int.natAbs_mul, Int.natAbs_natCast]
    have : ns.sum.natAbs * (2 ^ 1074 * 2 ^ 1074) ≤ ns.length * 2 ^ 12 * (2 ^ 1074 * 2 ^ 1074) := Nat.mul_le_mul_right _ hs
    have e : (2 : Nat) ^ 1086 = 2 ^ 12 * 2 ^ 1074 := Nat.pow_add 2 12 1074
    rw [e]
    generalize (2 : Nat) ^ 1074 = u at *
    generalize (2 : Nat) ^ 12 = v at *
    refine Nat.le_trans (Nat.le_of_eq ?_) (Nat.le_trans this (Nat.le_of_eq ?_))
    · ac_rfl
    · ac_rfl
  obtain ⟨M, hM, RM⟩ := e1.div e2 (by lia  ) (Nat.le_trans hbd (Nat.mul_le_mul_left _ (fit (Nat.le_refl _) (by decide))))
  have hA0 : 0 ≤ ns.sum * ((2 ^ 1074 : Nat) : Int) * 2 ^ 1074 := Int.mul_nonneg (Int.mul_nonneg hs0 (Int.natCast_nonneg _)) (Int.pow_nonneg (by decide))
  refine ⟨M, hM, RM.ge hB Rp.zero (by rw [Int.mul_zero]; exact hA0), ?_⟩
  have h1 := RM.abs_pow hB (by decide) (p := 1086) (by rw [Int.natAbs_mul, Int.natAbs_pow]; exact hbd)
  exact abs_up_le h1
theorem abs_dev {a M : Int} {X : Nat} (h1 : 0 ≤ a) (h2 : a ≤ X) (h3 : 0 ≤ M) (h4 : M ≤ X) : (a - M).natAbs ≤ X := by omega
theorem dev_ev {mean : UInt64} {M s : Int} (hM : Ev mean M) (h3 : 0 ≤ M) (h4 : M ≤ ((2 ^ 1086 : Nat) : Int)) (hs0 : 0 ≤ s) (hs : s.natAbs ≤ 2 ^ 12) :
    ∃ D, Ev (Float64.sub (Float64.ofInt s) mean) D ∧ D.natAbs ≤ 2 ^ 1086 ∧ Rnd (s * ((2 ^ 1074 : Nat) : Int) - M) 1 D := by
  have h12 : s.natAbs ≤ 2 ^ 40 := Nat.le_trans hs (pow_le_two (by decide))
  have hsb : s * ((2 ^ 1074 : Nat) : Int) ≤ ((2 ^ 1086 : Nat) : Int) := by
    rw [show (2 : Nat) ^ 1086 = 2 ^ 12 * 2 ^ 1074 from Nat.pow_add 2 12 1074, Int.natCast_mul]
    refine Int.mul_le_mul_of_nonneg_right ?_ (Int.natCast_nonneg _)
    lia
  have hs1 : 0 ≤ s * ((2 ^ 1074 : Nat) : Int) := Int.mul_nonneg hs0 (Int.natCast_nonneg _)
  have hd := abs_dev hs1 hsb h3 h4
  obtain ⟨D, e, R⟩ := (ev_int h12).sub hM (fit hd (by decide))
  exact ⟨D, e, R.abs_one (by decide) hd, R⟩
theorem far {a b M : Int} {U H : Nat} (hU : U = 2 * H) (h : (U : Int) ≤ a - b) : (H : Int) ≤ a - M ∨ b - M ≤ -(H : Int) := by lia
theorem big_of {C D : Int} {H : Nat} (R : Rnd C 1 D) (hr : Rp H) (h : (H : Int) ≤ C ∨ C ≤ -(H : Int)) : H ≤ D.natAbs := by
  rcases h with h | h
  · have := R.ge (Z := (H : Int)) (by decide) (by rw [Int.natAbs_natCast]; exact hr) (by lia  )
    lia
  · have := R.le (Z := -(H : Int)) (by decide) (by rw [Int.natAbs_neg, Int.natAbs_natCast]; exact hr) (by lia  )
    lia
theorem dev_mid {ns : List Int} (h0 : 0 < ns.length) (h : ns.length ≤ 31) (hb : ∀ s ∈ ns, 0 ≤ s ∧ s.natAbs ≤ 2 ^ 12) :
    (∀ x ∈ devF ns, Mid x) ∧ ((∃ a ∈ ns, ∃ b ∈ ns, b < a) → ∃ x ∈ devF ns, ∃ A, Ev x A ∧ 2 ^ 1073 ≤ A.natAbs) := by
  obtain ⟨M, hM, m0, m1⟩ := mean_ev h0 h hb
  unfold devF linD
  refine ⟨fun x hx => ?_, fun ⟨a, ha, b, hb', hab⟩ => ?_⟩
  · obtain ⟨s, hs, rfl⟩ := List.mem_map.mp hx
    obtain ⟨D, e, n, _⟩ := dev_ev hM m0 m1 (hb s hs).1 (hb s hs).2
    exact ⟨D, e, n⟩
  · have hU : (2 : Nat) ^ 1074 = 2 * 2 ^ 1073 := two_pow_succ 1073
    have hd : ((2 ^ 1074 : Nat) : Int) ≤ a * ((2 ^ 1074 : Nat) : Int) - b * ((2 ^ 1074 : Nat) : Int) := by
      rw [← Int.sub_mul]
      have : 1 * ((2 ^ 1074 : Nat) : Int) ≤ (a - b) * ((2 ^ 1074 : Nat) : Int) := Int.mul_le_mul_of_nonneg_right (by lia  ) (Int.natCast_nonneg _)
      rwa [Int.one_mul] at this
    obtain ⟨D, e, _, R⟩ := dev_ev hM m0 m1 (hb a ha).1 (hb a ha).2
    obtain ⟨D', e', _, R'⟩ := dev_ev hM m0 m1 (hb b hb').1 (hb b hb').2
    rcases far (M := M) hU hd with q | q
    · exact ⟨_, List.mem_map.mpr ⟨a, ha, rfl⟩, D, e, big_of R (rp_pow (by decide)) (.inl q)⟩
    · exact ⟨_, List.mem_map.mpr ⟨b, hb', rfl⟩, D', e', big_of R' (rp_pow (by decide)) (.inr q)⟩
theorem not_allEq {ns : List Int} (h : ¬ AllEq ns) : ∃ a ∈ ns, ∃ b ∈ ns, b < a := by
  apply Classical.byContradiction
  intro hn
  apply h
  intro a ha b hb
  rcases Int.lt_trichotomy a b with q | q | q
  · exact absurd ⟨b, hb, a, ha, q⟩ hn
  · exact q
  · exact absurd ⟨a, ha, b, hb, q⟩ hn
section
variable {xs ys : List Int}
theorem numSq (hl : xs.length = ys.length) (h0 : 2 ≤ xs.length) (h : xs.length ≤ 31) (r : UInt64) (e : corrF (rankD xs) (rankD ys) = some r) : CorrOk (devF (sqs (places xs))) (devF (places ys)) ∧ ∃ r2, corrF (devF (sqs (places xs))) (devF (places ys)) = some r2 ∧ Float64.cmp r2 r2 = some .eq := by
  obtain ⟨H, κ, t⟩ := some_pos hl (by lia  ) h e
  have hne : ¬ AllEq xs := fun q => by have := allEq_zero q; have := t.px; lia
  obtain ⟨a, ha, b, hb, hab⟩ := not_allEq hne
  have hlen : (sqs (places xs)).length = xs.length := by unfold sqs places; simp
  have hsb : ∀ s ∈ sqs (places xs), 0 ≤ s ∧ s.natAbs ≤ 2 ^ 12 := by
    intro s hs
    obtain ⟨p, hp, rfl⟩ := List.mem_map.mp hs
    obtain ⟨v, _, rfl⟩ := List.mem_map.mp hp
    have h1 := place_bd (ns := xs) v
    have h2 : place xs v * place xs v ≤ 62 * 62 := Nat.mul_le_mul (by lia  ) (by lia  )
    rw [← Int.natCast_mul]
    lia
  obtain ⟨m1, m2⟩ := dev_mid (ns := sqs (places xs)) (by lia  ) (by lia  ) hsb
  have hplt := place_lt hab hb
  have big := m2 ⟨(place xs a : Int) * (place xs a : Int), List.mem_map.mpr ⟨_, List.mem_map.mpr ⟨a, ha, rfl⟩, rfl⟩, (place xs b : Int) * (place xs b : Int), List.mem_map.mpr ⟨_, List.mem_map.mpr ⟨b, hb, rfl⟩, rfl⟩, by
    rw [← Int.natCast_mul, ← Int.natCast_mul]
    exact Int.ofNat_lt.mpr (Nat.mul_self_lt_mul_self hplt)⟩
  have hXl : (devF (sqs (places xs))).length = xs.length := by unfold devF linD; rw [List.length_map, hlen]
  obtain ⟨sx1, c1, sx2, sx3, sx4⟩ := dot_sq (by lia  ) m1 big
  -- the other list
  have hY := devF_eq (ns := ys) (by lia  ) (by lia  )
  have hYl : (devF (places ys)).length = xs.length := by rw [hY, List.length_map, dl_len, hl]
  have mY : ∀ y ∈ devF (places ys), Mid y := by
    intro y hy
    rw [hY] at hy
    obtain ⟨d, hd, rfl⟩ := List.mem_map.mp hy
    have := dl_abs d hd
    exact hf_mid (by lia  )
  obtain ⟨yy1, yy2⟩ := dot_exact (φ := fun d => hf (2 * d)) (k0 := 1074) (k1 := 1074) hf_ev2 (by decide) (by decide) _ ((dl_small (ns := ys) (by lia  )).zip (dl_small (ns := ys) (by lia  ))).1 ((dl_small (ns := ys) (by lia  )).zip (dl_small (ns := ys) (by lia  ))).2
  have hzz : (devF (places ys)).zip (devF (places ys)) = ((dl ys).zip (dl ys)).map fun p => (hf (2 * p.1), hf (2 * p.2)) := by
    rw [hY]; exact zip_maps _ _ _
  rw [← hzz] at yy1 yy2
  rw [← ssq_eq, ← Int.natCast_mul] at yy2
  have hy1 : 2 ^ 1070 ≤ ssq (dl ys) * 2 ^ 1074 := by
    have h1 : 1 * 2 ^ 1074 ≤ ssq (dl ys) * 2 ^ 1074 := Nat.mul_le_mul_right _ t.py
    rw [Nat.one_mul] at h1
    exact Nat.le_trans (pow_le_two (by decide)) h1
  have hy2 : ssq (dl ys) * 2 ^ 1074 ≤ 2 ^ 1106 := by
    have h1 : ssq (dl ys) * 2 ^ 1074 ≤ 2 ^ 15 * 2 ^ 1074 := Nat.mul_le_mul_right _ (dl_ssq (by lia  ))
    rw [← Nat.pow_add] at h1
    exact Nat.le_trans h1 (pow_le_two (by decide))
  obtain ⟨sq, S, hS, hSb⟩ := sqrtF_near sx2 yy2.ev sx3 sx4 hy1 hy2
  have hzl : ((devF (sqs (places xs))).zip (devF (places ys))).length ≤ 32 := by
    rw [List.length_zip, hXl, hYl]; lia
  obtain ⟨xy1, v, xy2, xy3⟩ := dot_bd hzl (fun p hp => by
    have := List.of_mem_zip hp
    exact ⟨m1 _ this.1, mY _ this.2⟩)
  have hS0 : 0 < S := Nat.lt_of_lt_of_le (Nat.two_pow_pos _) hSb
  refine ⟨⟨by rw [hXl, hYl], by lia  , xy1, sx1, yy1, sq⟩, ?_⟩
  obtain ⟨C, hC, _⟩ := xy2.div hS (by lia  ) (by
    have a1 : v.natAbs * 2 ^ 1074 ≤ 2 ^ 1106 * 2 ^ 1074 := Nat.mul_le_mul_right _ xy3
    have a2 : 2 ^ 1060 * 2 ^ 1990 ≤ S * 2 ^ 1990 := Nat.mul_le_mul_right _ hSb
    rw [← Nat.pow_add] at a1 a2
    exact le_mx (Nat.le_trans a1 (Nat.le_trans (pow_le_two (by decide)) a2)))
  refine ⟨_, ?_, by rw [hC.cmp hC]; simp⟩
  unfold corrF
  rw [if_neg]
  rw [hS.isZero, decide_eq_false (by lia  )]
  decide
theorem floats : FloatsOk := fun xs ys hl h0 h =>
  ⟨numOk hl (by lia  ) h, ⟨numConst hl (by lia  ) h, numVar hl (by lia  ) h, numNeg hl (by lia  ) h, numSq hl h0 h⟩, numThree hl h0 h⟩
end
end Mine
end
set_option Elab.async false
set_option maxRecDepth 100000
open PySem PySem.W PyProof.Rows
open PySem.W.X PySem.W.ZRun
namespace Mine
theorem said2 : PySem.Challenge.rw_kq0026_02.wellSaid = true := by kernel_rfl
theorem FnK.of {K : Frag} {f : Addr} {qual : Str} {d : Arguments × List Stmt × Scope} {dV kV : Value} {name : Str} {doc pm : Value} {an : Option Addr} {cdv ct oc : Value} {od : Option Addr} {osl : Array (Option Value)}
    (h : K.lookup f = some ⟨oc, od, .func (fnOf name qual d.1 d.2.1 d.2.2 dV kV doc pm an cdv ct), osl⟩) (h2 : codeIn K cdv qual = true) : FnK K f qual d dV kV := ⟨_, _, _, _, _, _, _, _, _, h, h2⟩
theorem SlotK.of {K : Frag} {c : Addr} {name : Str} {i : Nat} {p : Addr} (h1 : findIn K (.ref c) name = some (some (.ref p))) (h2 : specialIn K (.ref p) "__get__" = some (some (.builtin "member_descriptor.__get__"))) (h3 : takesIn K (.ref p) = some true)
    (h4 : takerIn K c name = some (some (.ref p))) (h5 : typeIn K (.ref p) = some (.type "member_descriptor")) (h6 : slotIn K p c = some i) (h7 : i < 1000) : SlotK K c name i := ⟨⟨p, h1, h2, h3, h4, h5, h6⟩, h7⟩
noncomputable def aA : Adr := ⟨76, 83, 124, 99, 106, 113, 120, 169, 151, 158, 165, 181, 222, 197, 204, 211, 267, 242, 249, 278, 92, 190, 271⟩
noncomputable def bB : Ad2 := ⟨285, 291, 298, 303, 310, 315, 320, 59, 286, 278⟩
set_option maxHeartbeats 4000000 in
theorem kfH (P : Params) : KF (kH P) aA := by
  constructor
  all_goals first
    | kernel_rfl
    | exact FnK.of (by with_unfolding_all rfl) (by kernel_rfl)
    | exact ExcK.mk (by with_unfolding_all rfl) (by kernel_rfl) (by kernel_rfl) (by kernel_rfl)
    | exact SlotK.of (by with_unfolding_all rfl) (by kernel_rfl) (by kernel_rfl) (by kernel_rfl) (by kernel_rfl) (by kernel_rfl) (by decide)
    | exact ⟨_, _, by with_unfolding_all rfl, by with_unfolding_all rfl⟩
    | exact ⟨_, _, _, _, by with_unfolding_all rfl, by with_unfolding_all rfl⟩
    | exact ⟨_, by with_unfolding_all rfl⟩
    | (constructor <;> kernel_rfl)
set_option maxHeartbeats 4000000 in
theorem kgH (P : Params) : KG (kH P) bB := by
  constructor
  all_goals first
    | kernel_rfl
    | exact FnK.of (by with_unfolding_all rfl) (by kernel_rfl)
    | exact ExcK.mk (by with_unfolding_all rfl) (by kernel_rfl) (by kernel_rfl) (by kernel_rfl)
    | exact ⟨_, by with_unfolding_all rfl⟩
    | (constructor <;> kernel_rfl)
end Mine
theorem Mine.ref_inj {a b : Addr} (h : some (Value.ref a) = some (Value.ref b)) : a = b := Value.ref.inj (Option.some.inj h)
set_option maxRecDepth 100000 in
set_option maxHeartbeats 8000000 in
theorem PySem.Challenge.cw_kq0026_02_holds : PySem.Challenge.rw_kq0026_02.Holds := by
  w_on
  refine holds_law Mine.said2 fun said => ?_
  refine holds_openX (q := Mine.vw) (loose := Mine.lsH) (Xt := fun s => xlAt Mine.vw [] s && recOk PySem.Challenge.rw_kq0026_02.row.records s) (XP := XL Mine.vw []) (Yf := obsZ Mine.aH) (Ya := valZ Mine.kH 321 811) (N := 4384) ?hl ?h1 ?h2 (by rfl) (by rfl) (by rfl) ?h6 ?h7 ?h8 ?h9 ?h10 ?hw ?hc
  case hl => exact Mine.left
  case h1 => exact (fun s e => xl_of s (Bool.and_eq_true_iff.mp e).1)
  case h2 => exact XL.keeps
  case h6 => exact (fun s e => recFacts_of (Bool.and_eq_true_iff.mp e).2)
  case h7 => rfl
  case h8 => first | assumption | decide +kernel
  case h9 => decide +kernel
  case h10 => exact ⟨rfl, rfl, rfl, rfl, rfl, by decide +kernel⟩
  case hw => w_witness2
  intro w s₀ s₁ mg mb G y fa o pm cd doc dV kV ho hd hcd hD hmg hg args vals as L hpre hlay hrd hwl hlo
  obtain ⟨_, ZI, ZN, ZT⟩ := z_facts (K := Mine.kH) (fun _ => rfl) y
  have KX : Frag.In (Mine.kH w.params) s₁.heap := InK.keeps w s₀.heap s₁.heap ZI L.keeps
  refine Ground.open G ?_
  intro T B D TE TW
  wrow_args hpre hlay hrd hwl hlo
  obtain ⟨hat, hsz⟩ := script_at L
  have htk := script_toks L ZT
  rw [ZN] at hat hsz
  subst hat
  obtain ⟨vs0, hvs0, hfr0⟩ := Mine.script_fresh L (by rw [ZT]; decide)
  have hfa : fa = 320 := by
    have e := mg_of KX T.g (n := Str.ofString "law") (v := .ref 320) (by kernel_rfl)
    have e2 := hmg.symm.trans e
    exact Mine.ref_inj e2
  subst hfa
  show wpAny _ _ (PySem.call (.ref 320) [.ref 321]) _ _ _
  refine Mine.endLaw Mine.floats (Mine.kfH w.params) (Mine.kgH w.params) rfl KX T.g T.b T.builtins T.nolimit (Mine.nob_of KX T.nodigits ?nb) hvs0 hfr0 ?hle ?hgen ?htok ?kont
  case nb => kernel_rfl
  case hle => omega
  case htok => exact Nat.lt_of_lt_of_le (by decide) htk
  case hgen => rw [hg]; exact AllBare.empty
  case kont =>
    intro s' hk hos hbare
    exact ⟨.inl ⟨_, _, [], rfl, fun _ => rfl, ReadsW.bool true, by first | rfl | wrow_post, fun _ => ⟨List.nodup_nil, fun _ hm => (nomatch hm)⟩⟩, .of_keep hk, hos, hbare⟩
