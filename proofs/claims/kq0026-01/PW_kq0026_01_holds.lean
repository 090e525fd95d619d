import PyProof.Rows.All
import PyProof.FString4
import PyProof.CompFree
import PyProof.EnumFor
import PyProof.NeKinds
import PyProof.SliceStr2
import PyProof.IsiPairs
import PyProof.SliceMore
import PyProof.Rows.RegTopCatchB
import PyProof.TypeOfCall
import PyProof.Rows.SortKeyStr
import PyProof.Rows.ChunkLeaf
import Flt.RightMore
import Flt.Ops
import Flt.Calls
import Flt.Calls2
import Flt.Sum
import OpenK.KCell
import Open.Tree
import KE.KLam
import KE.KLcPair
import KE.KSetIn
import Wide.FinOn
import OpenK.AllK
import Wide.All
import Lean
import PySem.Challenge.RW_kq0026_01
set_option Elab.async false
set_option compiler.extract_closed false
set_option linter.all false
section
set_option maxRecDepth 100000
set_option autoImplicit false
namespace Mine
open PySem PySem.W PySem.Calls PyProof.Rows PySem.Spec

noncomputable def nd (o : Obj) : Prop := ∀ es n, o.data ≠ .dict es n

noncomputable abbrev qRet (R : Result → Shared → Prop) : Flow → Shared → Prop := fun fl s'' => R (.ok (.ret (match fl with | .ret v => v | _ => .none))) s''
noncomputable abbrev eOut (prog : Program) (w : World) (A : Around) (env : Env) (R : Result → Shared → Prop) : Value → Shared → Prop := fun e s'' => wpAny (model prog w) A (leaving env e) (fun _ s3 => R (.error e) s3) (fun e' s3 => R (.error e') s3) s''
noncomputable abbrev rCall (Q : Value → Shared → Prop) (E : Value → Shared → Prop) : Result → Shared → Prop := fun r s' => match r with | .ok (.ret v) => Q v s' | .ok _ => False | .error e => E e s'
noncomputable abbrev qSeq (M : Model) (A : Around) (env : Env) (rest : List Stmt) (Q : Flow → Shared → Prop) (E : Value → Shared → Prop) : Flow → Shared → Prop := fun f s' => match f with | .next => wpAny M A (execs rest env) Q E s' | f => Q f s'
noncomputable abbrev eTry (prog : Program) (w : World) (A : Around) (env : Env) (hs : List ExceptHandler) (Q : Flow → Shared → Prop) (E : Value → Shared → Prop) : Value → Shared → Prop :=
  fun e s₁ => wpAny (model prog w) A (noteFrame e env) (fun _ s₂ => wpAny (model prog w) A (setFlight e none) (fun _ s₃ => wpAny (model prog w) A (handleBy e env hs) Q E s₃) E s₂) E s₁
section
variable {M : Model} {prog : Program} {w : World} {A : Around} {E : Value → Shared → Prop} {s : Shared} {env : Env}
theorem wpAny_call {f : Value} {pos : List Value} {kw : List (Str × Value)} {Q : Value → Shared → Prop} (hc : codeAny M A (.call f ⟨pos, kw⟩) (rCall Q E) s) : wpAny M A (call f pos kw) Q E s := PySem.wpAny_call hc
theorem wpAny_execs_cons {st : Stmt} {rest : List Stmt} {Q : Flow → Shared → Prop} (h : wpAny M A (exec st env) (qSeq M A env rest Q E) E s) : wpAny M A (execs (st :: rest) env) Q E s := PySem.wpAny_execs_cons h
theorem wpAny_Try_except {body orelse : List Stmt} {h₀ : ExceptHandler} {hs : List ExceptHandler} {pos : Pos} {Q : Flow → Shared → Prop}
    (h : wpAny (model prog w) A (execs body env) (qSeq (model prog w) A env orelse Q E) (eTry prog w A env (h₀ :: hs) Q E) s) : wpAny (model prog w) A (exec (.Try body (h₀ :: hs) orelse [] pos) env) Q E s := PySem.wpAny_Try_except h
end

noncomputable abbrev tk (s : Shared) (k : Nat) : Shared := { s with toks := s.toks + k }
noncomputable abbrev updM (m : Str → Option Value) (x : Str) (v : Value) : Str → Option Value := fun y => if y = x then some v else m y
noncomputable abbrev qCons (v : Value) (Q : List Value → Shared → Prop) : List Value → Shared → Prop := fun vs s₂ => Q (v :: vs) s₂
noncomputable abbrev qArg (M : Model) (A : Around) (t : Sem (List Value)) (Q : List Value → Shared → Prop) (E : Value → Shared → Prop) : Value → Shared → Prop := fun v s₁ => wpAny M A t (qCons v Q) E s₁
noncomputable abbrev qBin2 (M : Model) (A : Around) (op : Operator) (a : Value) (Q : Value → Shared → Prop) (E : Value → Shared → Prop) : Value → Shared → Prop := fun b s₂ => wpAny M A (binaryOp op a b) Q E s₂
noncomputable abbrev qBin (M : Model) (A : Around) (op : Operator) (r : PySem.Expr) (env : Env) (Q : Value → Shared → Prop) (E : Value → Shared → Prop) : Value → Shared → Prop := fun a s₁ => wpAny M A (eval r env) (qBin2 M A op a Q E) E s₁
noncomputable abbrev qCallee (M : Model) (A : Around) (pos : Pos) (args : List PySem.Expr) (env : Env) (Q : Value → Shared → Prop) (E : Value → Shared → Prop) : Value → Shared → Prop := fun f s₁ => wpAny M A (callWith pos f [] (backTo pos (starEach args env)) []) Q E s₁
noncomputable abbrev qIf (M : Model) (A : Around) (body orelse : List Stmt) (env : Env) (Q : Flow → Shared → Prop) (E : Value → Shared → Prop) : Bool → Shared → Prop := fun b s₂ => if b then wpAny M A (execs body env) Q E s₂ else wpAny M A (execs orelse env) Q E s₂
noncomputable abbrev qNext (Q : Flow → Shared → Prop) : Unit → Shared → Prop := fun _ s => Q .next s
noncomputable abbrev qSet (M : Model) (A : Around) (env : Env) (x : Str) (Q : Flow → Shared → Prop) (E : Value → Shared → Prop) : Value → Shared → Prop := fun v s₁ => wpAny M A (storeName env x v) (qNext Q) E s₁
noncomputable abbrev qSetA2 (M : Model) (A : Around) (attr : Str) (v : Value) (Q : Flow → Shared → Prop) (E : Value → Shared → Prop) : Value → Shared → Prop := fun ov s₂ => wpAny M A (setAttr ov attr v) (qNext Q) E s₂
noncomputable abbrev qSetA (M : Model) (A : Around) (o : PySem.Expr) (attr : Str) (env : Env) (Q : Flow → Shared → Prop) (E : Value → Shared → Prop) : Value → Shared → Prop := fun v s₁ => wpAny M A (eval o env) (qSetA2 M A attr v Q E) E s₁
noncomputable abbrev qCalls (M : Model) (A : Around) (f : Value) (Q : Value → Shared → Prop) (E : Value → Shared → Prop) : List Value → Shared → Prop := fun vs s₁ => wpAny M A (call f vs) Q E s₁
noncomputable abbrev qTruthy (M : Model) (A : Around) (Q : Bool → Shared → Prop) (E : Value → Shared → Prop) : Value → Shared → Prop := fun v s₁ => wpAny M A (truthy v) Q E s₁
noncomputable abbrev qCmpV (M : Model) (A : Around) (op : CmpOp) (a : Value) (Q : Value → Shared → Prop) (E : Value → Shared → Prop) : Value → Shared → Prop := fun b s₂ => wpAny M A (compareOp op a b) Q E s₂
noncomputable abbrev qCmp (M : Model) (A : Around) (op : CmpOp) (r : PySem.Expr) (env : Env) (Q : Value → Shared → Prop) (E : Value → Shared → Prop) : Value → Shared → Prop := fun a s₁ => wpAny M A (eval r env) (qCmpV M A op a Q E) E s₁
noncomputable abbrev qRetV (Q : Flow → Shared → Prop) : Value → Shared → Prop := fun v s => Q (.ret v) s
noncomputable abbrev qNot (Q : Bool → Shared → Prop) : Bool → Shared → Prop := fun b s => Q (!b) s
noncomputable abbrev qOr (M : Model) (A : Around) (rest : List PySem.Expr) (env : Env) (Q : Bool → Shared → Prop) (E : Value → Shared → Prop) : Bool → Shared → Prop := fun b s₁ => if b then Q true s₁ else wpAny M A (allTrue .Or rest env) Q E s₁
noncomputable abbrev qDone (Q : Value → Shared → Prop) : Fin → Shared → Prop := fun fin s' => ∃ v, fin = .done (.ret v) ∧ Q v s'
noncomputable abbrev qFin (prog : Program) (w : World) (A : Around) (R : Result → Shared → Prop) : Fin → Shared → Prop := fun fin s' => match fin with | .done f => R (.ok f) s' | .again c' => c'.quiet = true ∧ codeAny (model prog w) A c' R s'
noncomputable abbrev eErr (R : Result → Shared → Prop) : Value → Shared → Prop := fun e s' => R (.error e) s'
noncomputable abbrev rLoop (M : Model) (A : Around) (env : Env) (Q : Flow → Shared → Prop) (E : Value → Shared → Prop) : Result → Shared → Prop := fun r s' => match r with | .ok f => Q f s' | .error e => cameBackBy M A env E e s'
noncomputable abbrev qFor2 (prog : Program) (w : World) (A : Around) (target : PySem.Expr) (body orelse : List Stmt) (env : Env) (Q : Flow → Shared → Prop) (E : Value → Shared → Prop) : Value → Shared → Prop := fun it s₂ => codeAny (model prog w) A (.forLoop target it body orelse env) (rLoop (model prog w) A env Q E) s₂
noncomputable abbrev qFor (prog : Program) (w : World) (A : Around) (target : PySem.Expr) (body orelse : List Stmt) (env : Env) (Q : Flow → Shared → Prop) (E : Value → Shared → Prop) : Value → Shared → Prop := fun x s₁ => wpAny (model prog w) A (pyIter x) (qFor2 prog w A target body orelse env Q E) E s₁
noncomputable abbrev eNote (prog : Program) (w : World) (A : Around) (env : Env) (R : Result → Shared → Prop) : Value → Shared → Prop := notedBy (model prog w) A env (eErr R)
noncomputable abbrev qTurn (I : Nat → Shared → Prop) (n : Nat) (R : Result → Shared → Prop) : Flow → Shared → Prop := fun f s₃ => match f with
  | .next | .cont => ∃ m, m < n ∧ I m s₃
  | .brk => R (.ok .next) s₃
  | .ret v => R (.ok (.ret v)) s₃
noncomputable abbrev qOk (R : Result → Shared → Prop) : Flow → Shared → Prop := fun f s₃ => R (.ok f) s₃
noncomputable abbrev qWhile (prog : Program) (w : World) (A : Around) (body orelse : List Stmt) (env : Env) (I : Nat → Shared → Prop) (n : Nat) (R : Result → Shared → Prop) : Bool → Shared → Prop := fun b s₂ =>
  if b then wpAny (model prog w) A (execs body env) (qTurn I n R) (eNote prog w A env R) s₂
  else wpAny (model prog w) A (execs orelse env) (qOk R) (eNote prog w A env R) s₂
noncomputable abbrev qBody (prog : Program) (w : World) (A : Around) (body : List Stmt) (env : Env) (I : Nat → Shared → Prop) (n : Nat) (R : Result → Shared → Prop) : Unit → Shared → Prop := fun _ s₂ => wpAny (model prog w) A (execs body env) (qTurn I n R) (eNote prog w A env R) s₂
noncomputable abbrev qTake (prog : Program) (w : World) (A : Around) (target : PySem.Expr) (body : List Stmt) (env : Env) (I : Nat → Shared → Prop) (n : Nat) (R : Result → Shared → Prop) (v : Value) : Unit → Shared → Prop := fun _ s₁' => wpAny (model prog w) A (assign target env v) (qBody prog w A body env I n R) (eNote prog w A env R) s₁'
noncomputable abbrev qItem (prog : Program) (w : World) (A : Around) (target : PySem.Expr) (it : Value) (body orelse : List Stmt) (env : Env) (I : Nat → Shared → Prop) (n : Nat) (R : Result → Shared → Prop) : Option Value → Shared → Prop := fun r s₁ => match r with
  | none => wpAny (model prog w) A (execs orelse env) (qOk R) (eNote prog w A env R) s₁
  | some v => wpAny (model prog w) A (letOwnedTupleGo target it v) (qTake prog w A target body env I n R v) (eNote prog w A env R) s₁
section
variable {M : Model} {prog : Program} {w : World} {A : Around} {E : Value → Shared → Prop} {s : Shared} {env : Env} {R : Result → Shared → Prop}
theorem args_cons {e : PySem.Expr} {rest : List PySem.Expr} {pos : Pos} {Q : List Value → Shared → Prop} (h : wpAny M A (eval e env) (qArg M A (spliced (backTo pos (starEach rest env))) Q E) E s)
    (he : starEach (e :: rest) env = (false, eval e env) :: starEach rest env := by rfl) : wpAny M A (spliced (backTo pos (starEach (e :: rest) env))) Q E s := PyProof.Rows.args_cons h he
theorem Call_ {func : PySem.Expr} {args : List PySem.Expr} {pos : Pos} {Q : Value → Shared → Prop} (h : wpAny M A (eval func env) (qCallee M A pos args env Q E) E s)
    (he : eval (.Call func args [] pos) env = (do callWith pos (← eval func env) [] (backTo pos (starEach args env)) (backToKw pos (keywordEach [] env))) := by rfl) : wpAny M A (eval (.Call func args [] pos) env) Q E s := PyProof.Rows.Call_ h he
theorem wpAny_If {test : PySem.Expr} {body orelse : List Stmt} {pos : Pos} {Q : Flow → Shared → Prop} (h : wpAny M A (isTrue test env (eval test env)) (qIf M A body orelse env Q E) E s) : wpAny M A (exec (.If test body orelse pos) env) Q E s :=
  PySem.wpAny_If h
theorem wpAny_Assign_Name {x : Str} {pos' : Pos} {value : PySem.Expr} {pos : Pos} {Q : Flow → Shared → Prop} (h : wpAny M A (eval value env) (qSet M A env x Q E) E s)
    (hs : swapsWith value (some (.Name x pos')) pos.line env = pure false := by rfl) : wpAny M A (exec (.Assign [.Name x pos'] value pos) env) Q E s := PySem.wpAny_Assign_Name h hs
theorem plainObj_wpAny_Assign_Attribute {o : PySem.Expr} {attr : Str} {pos' : Pos} {value : PySem.Expr} {pos : Pos} {Q : Flow → Shared → Prop} (h : wpAny M A (eval value env) (qSetA M A o attr env Q E) E s)
    (hs : swapsWith value (some (.Attribute o attr pos')) pos.line env = pure false := by rfl) : wpAny M A (exec (.Assign [.Attribute o attr pos'] value pos) env) Q E s := PySem.plainObj_wpAny_Assign_Attribute h hs
theorem callWith_builtin1 {pos : Pos} {id : String} {e : PySem.Expr} {rest : List PySem.Expr} {Q : Value → Shared → Prop} (h : wpAny M A (spliced (backTo pos (starEach (e :: rest) env))) (qCalls M A (.builtin id) Q E) E s)
    (he : starEach (e :: rest) env = (false, eval e env) :: starEach rest env := by rfl) (hplain : (backTo pos (starEach rest env)).any (·.1) = false := by rfl) :
    wpAny M A (callWith pos (.builtin id) [] (backTo pos (starEach (e :: rest) env)) []) Q E s := PyProof.Rows.callWith_builtin1 h he hplain
theorem wpAny_isTrue_Compare1 {l : PySem.Expr} {op : CmpOp} {r : PySem.Expr} {pos : Pos} {whole : Sem Value} {Q : Bool → Shared → Prop} (h : wpAny M A (eval l env) (qCmp M A op r env (qTruthy M A Q E) E) E s)
    (hm : behindInMarks op r = false := by with_unfolding_all rfl) : wpAny M A (isTrue (.Compare l [op] [r] pos) env whole) Q E s := PySem.wpAny_isTrue_Compare1 h hm
theorem wpAny_Compare1 {l : PySem.Expr} {op : CmpOp} {r : PySem.Expr} {pos : Pos} {Q : Value → Shared → Prop} (h : wpAny M A (eval l env) (qCmp M A op r env Q E) E s)
    (hm : behindInMarks op r = false := by with_unfolding_all rfl) : wpAny M A (eval (.Compare l [op] [r] pos) env) Q E s := PySem.wpAny_Compare1 h hm
theorem wpAny_isTrue_value {e : PySem.Expr} {whole : Sem Value} {Q : Bool → Shared → Prop} (h : wpAny M A whole (qTruthy M A Q E) E s)
    (he : isTrue e env whole = (do let v ← whole; standAt e.pos; holding [v] (truthy v)) := by rfl) : wpAny M A (isTrue e env whole) Q E s := PySem.wpAny_isTrue_value h he
theorem wpAny_Return_some {e : PySem.Expr} {pos : Pos} {Q : Flow → Shared → Prop} (h : wpAny M A (eval e env) (qRetV Q) E s) : wpAny M A (exec (.Return (some e) pos) env) Q E s := PySem.wpAny_Return_some h
theorem wpAny_isTrue_Not {x : PySem.Expr} {pos : Pos} {whole : Sem Value} {Q : Bool → Shared → Prop} (h : wpAny M A (isTrue x env (eval x env)) (qNot Q) E s) : wpAny M A (isTrue (.UnaryOp .Not x pos) env whole) Q E s := PySem.wpAny_isTrue_Not h
theorem wpAny_allTrue_Or_cons {x : PySem.Expr} {rest : List PySem.Expr} {Q : Bool → Shared → Prop} (h : wpAny M A (isTrue x env (eval x env)) (qOr M A rest env Q E) E s) : wpAny M A (allTrue .Or (x :: rest) env) Q E s :=
  PySem.wpAny_allTrue_Or_cons h
theorem wpAny_Constant_int {i : Int} {k : Nat} {pos : Pos} {Q : Value → Shared → Prop} (h : Q (.int i s.toks) (tk s 1)) : wpAny M A (eval (.Constant (.int i) k pos) env) Q E s := PySem.wpAny_Constant_int h
theorem wpAny_Constant_str {x : Str} {k : Nat} {pos : Pos} {Q : Value → Shared → Prop} (h : Q (.str x s.toks) (tk s 1)) : wpAny M A (eval (.Constant (.str x) k pos) env) Q E s := PySem.wpAny_Constant_str h
theorem wpAny_BinOp {l : PySem.Expr} {op : Operator} {r : PySem.Expr} {pos : Pos} {Q : Value → Shared → Prop} (h : wpAny M A (eval l env) (qBin M A op r env Q E) E s) : wpAny M A (eval (.BinOp l op r pos) env) Q E s := PySem.wpAny_BinOp h
theorem wpAny_call_entry {T : String} {name : Str} {id : String} {b : Builtin} {self : Value} {rest : List Value} {Q : Value → Shared → Prop} (h : Slot T name id) (hT : s.TypeIs self T) (hb : entryFor table id = some b)
    (hc : wpAny (model prog w) A.in1 (b ⟨self :: rest, []⟩) (qDone Q) E s) (ha : argsOk id ⟨self :: rest, []⟩ := by rfl) : wpAny (model prog w) A (call (.builtin id) (self :: rest)) Q E s := PySem.wpAny_call_entry h hT hb hc ha
theorem codeAny_builtin {id : String} {args : Args} {b : Builtin} (hb : entryFor table id = some b) (h : wpAny (model prog w) (A.under (.builtin id args)) (b args) (qFin prog w A R) (eErr R) s) : codeAny (model prog w) A (.builtin id args) R s :=
  PySem.codeAny_builtin hb (wpAny_mono h (fun f _ z => by cases f <;> exact z) fun _ _ z => z)
theorem wpAny_While {test : PySem.Expr} {body orelse : List Stmt} {pos : Pos} {Q : Flow → Shared → Prop} (h : codeAny M A (.whileLoop test body orelse env) (rLoop M A env Q E) s) : wpAny M A (exec (.While test body orelse pos) env) Q E s := PySem.wpAny_While h
theorem wpAny_For {target iter : PySem.Expr} {body orelse : List Stmt} {pos : Pos} {Q : Flow → Shared → Prop} (h : wpAny (model prog w) A (eval iter env) (qFor prog w A target body orelse env Q E) E s)
    (hs : ∀ x, foldedSetIterable iter env x = pure x := by intro _; rfl) : wpAny (model prog w) A (exec (.For target iter body orelse pos) env) Q E s := PySem.wpAny_For h hs
theorem codeAny_whileLoop {test : PySem.Expr} {body orelse : List Stmt} {env : Env} (I : Nat → Shared → Prop) (step : ∀ n s, I n s → wpAny (model prog w) A (isTrue test env (eval test env)) (qWhile prog w A body orelse env I n R) (eNote prog w A env R) s)
    (n : Nat) (h : I n s) : codeAny (model prog w) A (.whileLoop test body orelse env) R s :=
  PySem.codeAny_whileLoop I (fun n s hI => wpAny_mono (step n s hI) (fun b _ z => by cases b with | true => exact wpAny_mono (M := model prog w) (A := A) (t := execs body env) (Q := qTurn I n R) z (fun f _ y => by cases f <;> exact y) fun _ _ y => y | false => exact z) fun _ _ z => z) n h
theorem codeAny_forLoop_any {target : PySem.Expr} {it : Value} {body orelse : List Stmt} {env : Env} (I : Nat → Shared → Prop) (step : ∀ n s, I n s → wpAny (model prog w) A (pyNext it) (qItem prog w A target it body orelse env I n R) (eNote prog w A env R) s)
    (n : Nat) (h : I n s) : codeAny (model prog w) A (.forLoop target it body orelse env) R s :=
  PySem.codeAny_forLoop_any I (fun n s hI => wpAny_mono (step n s hI) (fun r _ z => by
    cases r with
    | none => exact z
    | some v => exact wpAny_mono z (fun _ _ y => wpAny_mono y (fun _ _ x => wpAny_mono x (fun f _ u => by cases f <;> exact u) fun _ _ u => u) fun _ _ u => u) fun _ _ u => u) fun _ _ z => z) n h
end

theorem ite_no' {b : Bool} {p q : Prop} (h : b = false) (k : q) : if b = true then p else q := by rw [h]; exact k
theorem ite_yes' {b : Bool} {p q : Prop} (h : b = true) (k : p) : if b = true then p else q := by rw [h]; exact k
theorem ite_no {α : Type} {M : Model} {A : Around} {E : Value → Shared → Prop} {s : Shared} {c : Prop} [Decidable c] {t f : Sem α} {Q : α → Shared → Prop} (h : ¬ c) (k : wpAny M A f Q E s) : wpAny M A (if c then t else f) Q E s := by rw [if_neg h]; exact k
theorem ite_yes {α : Type} {M : Model} {A : Around} {E : Value → Shared → Prop} {s : Shared} {c : Prop} [Decidable c] {t f : Sem α} {Q : α → Shared → Prop} (h : c) (k : wpAny M A t Q E s) : wpAny M A (if c then t else f) Q E s := by rw [if_pos h]; exact k
noncomputable abbrev qFI {α β : Type} (M : Model) (A : Around) (l : List α) (f : α → β → Sem (ForInStep β)) (Q : β → Shared → Prop) (E : Value → Shared → Prop) : ForInStep β → Shared → Prop := fun r s' => match r with | .done b => Q b s' | .yield b => wpAny M A (forIn l b f) Q E s'
section
variable {α β : Type} {M : Model} {A : Around} {E : Value → Shared → Prop} {s : Shared} {x : α} {l : List α} {b : β} {f : α → β → Sem (ForInStep β)} {Q : β → Shared → Prop}
theorem wp_forIn_cons (h : wpAny M A (f x b) (qFI M A l f Q E) E s) : wpAny M A (forIn (x :: l) b f) Q E s := by
  rw [List.forIn_cons]
  exact wpAny_bind (wpAny_mono h (fun r s' h' => by cases r with | done => exact wpAny_pure h' | yield => exact h') fun _ _ z => z)
theorem wp_forIn_nil (h : Q b s) : wpAny M A (forIn [] b f) Q E s := by rw [List.forIn_nil]; exact wpAny_pure h
theorem wp_forIn_arr (h : wpAny M A (forIn l b f) Q E s) : wpAny M A (forIn l.toArray b f) Q E s := by rw [List.forIn_toArray]; exact h
end
structure Go (H0 : Heap) (M : List Addr) (s s' : Shared) : Prop where
  glob : (∀ b o, H0.get? b = some o → s.heap.get? b = some o) → ∀ b o, H0.get? b = some o → s'.heap.get? b = some o
  nd : ∀ b o, s.heap.get? b = some o → b ∉ M → nd o → s'.heap.get? b = some o
  up : ∀ b o es n, s.heap.get? b = some o → o.data = .dict es n → ∃ sl, s'.heap.get? b = some { o with slots := sl }
  pres : ∀ b o, s.heap.get? b = some o → Mine.nd o → ∃ o', s'.heap.get? b = some o' ∧ Mine.nd o'
  toks : s.toks ≤ s'.toks
  gens : AllBare s.gens → AllBare s'.gens
  os : s'.os = s.os

theorem nd_or (o : Obj) : nd o ∨ ∃ es n, o.data = .dict es n := by
  cases hd : o.data <;> first | exact .inr ⟨_, _, rfl⟩ | exact .inl (fun es n z => by rw [hd] at z; cases z)
theorem Go.there {H0 : Heap} {M : List Addr} {s s' : Shared} (G : Go H0 M s s') : ∀ b o, s.heap.get? b = some o → ∃ o', s'.heap.get? b = some o' := fun b o e =>
  (nd_or o).elim (fun hn => (G.pres b o e hn).elim fun o' h => ⟨o', h.1⟩) fun ⟨es, n, hd⟩ => (G.up b o es n e hd).elim fun _ h => ⟨_, h⟩
theorem Go.refl (H0 : Heap) (M : List Addr) (s : Shared) : Go H0 M s s :=
  ⟨fun h => h, fun _ _ h _ _ => h, fun _ o _ _ h _ => ⟨o.slots, h⟩, fun _ o h hn => ⟨o, h, hn⟩, Nat.le_refl _, fun h => h, rfl⟩
theorem Go.trans {H0 : Heap} {M : List Addr} {a b c : Shared} (x : Go H0 M a b) (y : Go H0 M b c) : Go H0 M a c :=
  ⟨fun h => y.glob (x.glob h), fun p o h hm hn => y.nd p o (x.nd p o h hm hn) hm hn, fun p o es n h hd => by
    obtain ⟨sl, h1⟩ := x.up p o es n h hd
    obtain ⟨sl', h2⟩ := y.up p _ es n h1 hd
    exact ⟨sl', h2⟩, fun b o h hn => (x.pres b o h hn).elim fun o' h' => y.pres b o' h'.1 h'.2, Nat.le_trans x.toks y.toks, fun h => y.gens (x.gens h), y.os.trans x.os⟩
theorem Go.step {H0 : Heap} {M M' : List Addr} {a b c : Shared} (x : Go H0 M a b) (y : Go H0 M' b c) (hM : ∀ p ∈ M', p ∈ M ∨ a.heap.get? p = none) : Go H0 M a c :=
  ⟨fun h => y.glob (x.glob h), fun p o h hm hn => y.nd p o (x.nd p o h hm hn) (fun hp => (hM p hp).elim hm fun q => by rw [q] at h; cases h) hn, fun p o es n h hd => by
    obtain ⟨sl, h1⟩ := x.up p o es n h hd
    obtain ⟨sl', h2⟩ := y.up p _ es n h1 hd
    exact ⟨sl', h2⟩, fun b o h hn => (x.pres b o h hn).elim fun o' h' => y.pres b o' h'.1 h'.2, Nat.le_trans x.toks y.toks, fun h => y.gens (x.gens h), y.os.trans x.os⟩
theorem Go.mono {H0 : Heap} {M M' : List Addr} {a b : Shared} (x : Go H0 M a b) (h : ∀ p ∈ M, p ∈ M') : Go H0 M' a b :=
  ⟨x.glob, fun p o e hm hn => x.nd p o e (fun q => hm (h p q)) hn, x.up, x.pres, x.toks, x.gens, x.os⟩
theorem Go.ext {H0 : Heap} {s s' : Shared} (hk : ∀ b o, s.heap.get? b = some o → s'.heap.get? b = some o) (ht : s.toks ≤ s'.toks) (hg : s'.gens = s.gens) (ho : s'.os = s.os) (M : List Addr) : Go H0 M s s' :=
  ⟨fun h b o e => hk b o (h b o e), fun b o e _ _ => hk b o e, fun b o _ _ e _ => ⟨o.slots, hk b o e⟩, fun b o e hn => ⟨o, hk b o e, hn⟩, ht, fun h => hg ▸ h, ho⟩

structure St (H0 : Heap) (A : Around) (l : List Env) (s : Shared) : Prop where
  glob : ∀ b o, H0.get? b = some o → s.heap.get? b = some o
  frames : A.frames = some l
  fr : ∀ env ∈ l, env.scope.kind ≠ .module ∧ ∃ L o es n, env.frame = some L ∧ H0.get? L = none ∧ s.heap.get? L = some o ∧ o.data = .dict es n
  toks : 0 < s.toks
theorem St.go {H0 : Heap} {A : Around} {l : List Env} {s s' : Shared} {M : List Addr} (S : St H0 A l s) (G : Go H0 M s s') : St H0 A l s' :=
  ⟨G.glob S.glob, S.frames, fun env he => by
    obtain ⟨hk, L, o, es, n, h1, h2, h3, h4⟩ := S.fr env he
    obtain ⟨sl, h5⟩ := G.up L o es n h3 h4
    exact ⟨hk, L, _, es, n, h1, h2, h5, h4⟩, Nat.lt_of_lt_of_le S.toks G.toks⟩
theorem St.around {H0 : Heap} {A A' : Around} {l : List Env} {s : Shared} (S : St H0 A l s) (h : A'.frames = A.frames) : St H0 A' l s := ⟨S.glob, h.trans S.frames, S.fr, S.toks⟩

noncomputable def DictAt (h : Heap) (dx : Addr) : Prop := ∃ o, h.get? dx = some o ∧ o.data = .dict #[]
structure Okk (h : Heap) (p : Addr × Obj) : Prop where
  at_ : h.get? p.1 = some p.2
  nd : Mine.nd p.2
  dx : ∀ dx, p.2.dict = some dx → DictAt h dx
theorem DictAt.go {H0 : Heap} {M : List Addr} {s s' : Shared} {dx : Addr} (D : DictAt s.heap dx) (G : Go H0 M s s') : DictAt s'.heap dx := by
  obtain ⟨o, h1, h2⟩ := D
  obtain ⟨sl, h3⟩ := G.up dx o _ _ h1 h2
  exact ⟨_, h3, h2⟩
theorem Okk.go {H0 : Heap} {M : List Addr} {s s' : Shared} {p : Addr × Obj} (x : Okk s.heap p) (G : Go H0 M s s') (h : p.1 ∉ M) : Okk s'.heap p :=
  ⟨G.nd p.1 p.2 x.at_ h x.nd, x.nd, fun dx e => (x.dx dx e).go G⟩
theorem Okk.of {h : Heap} {a : Addr} {o : Obj} (e : h.get? a = some o) (n : Mine.nd o) (d : o.dict = none) : Okk h (a, o) := ⟨e, n, fun dx q => by rw [d] at q; cases q⟩

structure Cx (H0 : Heap) (A : Around) (l : List Env) (M : List Addr) (sE : Shared) (L : Addr) (m : Str → Option Value) (led : List (Addr × Obj)) (s : Shared) : Prop where
  st : St H0 A l s
  go : Go H0 M sE s
  ns : s.heap.Ns L m
  new : sE.heap.get? L = none
  top : H0.get? L = none
  has : ∀ p ∈ led, Okk s.heap p
  dn : ∀ p ∈ led, p.2.dict ≠ some L
  nodup : (led.map (·.1)).Nodup

section
variable {H0 : Heap} {A : Around} {l : List Env} {M M' : List Addr} {sE : Shared} {L : Addr} {m : Str → Option Value} {led : List (Addr × Obj)} {s s' : Shared}

theorem Cx.at (C : Cx H0 A l M sE L m led s) (i : Nat) {a : Addr} {o : Obj} (h : led[i]? = some (a, o)) : s.heap.get? a = some o := (C.has _ (List.mem_of_getElem? h)).at_
theorem Cx.ndAt (C : Cx H0 A l M sE L m led s) (i : Nat) {a : Addr} {o : Obj} (h : led[i]? = some (a, o)) : nd o := (C.has _ (List.mem_of_getElem? h)).nd
theorem Cx.ok (C : Cx H0 A l M sE L m led s) (i : Nat) {a : Addr} {o : Obj} (h : led[i]? = some (a, o)) : Okk s.heap (a, o) := C.has _ (List.mem_of_getElem? h)
theorem ns_dict {h : Heap} {L : Addr} {m : Str → Option Value} (n : h.Ns L m) : ∃ o es ep, h.get? L = some o ∧ o.data = .dict es ep := let ⟨o, es, ep, a, b, _⟩ := n; ⟨o, es, ep, a, b⟩

theorem Cx.goN (C : Cx H0 A l M sE L m led s) (G : Go H0 M' s s') (hM : ∀ p ∈ M', (p ∈ M ∨ sE.heap.get? p = none)) (led' : List (Addr × Obj)) (hl : ∀ p ∈ led', Okk s'.heap p) (hd : ∀ p ∈ led', p.2.dict ≠ some L) (hn : (led'.map (·.1)).Nodup) :
    Cx H0 A l M sE L m led' s' := by
  refine ⟨C.st.go G, C.go.step G hM, ?_, C.new, C.top, hl, hd, hn⟩
  obtain ⟨o, es, ep, h1, h2, r⟩ := C.ns
  obtain ⟨sl, h3⟩ := G.up L o es ep h1 h2
  exact ⟨_, es, ep, h3, h2, r⟩
theorem Cx.call (C : Cx H0 A l M sE L m led s) (G : Go H0 [] s s') : Cx H0 A l M sE L m led s' :=
  C.goN G (fun _ h => nomatch h) led (fun p hp => (C.has p hp).go G (fun h => nomatch h)) C.dn C.nodup
theorem Cx.ext (C : Cx H0 A l M sE L m led s) (hk : ∀ b o, s.heap.get? b = some o → s'.heap.get? b = some o) (ht : s.toks ≤ s'.toks) (hg : s'.gens = s.gens) (ho : s'.os = s.os) :
    Cx H0 A l M sE L m led s' := C.call (.ext hk ht hg ho _)
theorem Cx.tok (C : Cx H0 A l M sE L m led s) (k : Nat) : Cx H0 A l M sE L m led (tk s k) :=
  C.ext (fun _ _ h => h) (Nat.le_add_right _ _) rfl rfl
theorem Cx.lt (C : Cx H0 A l M sE L m led s) : ∀ p ∈ led, p.1 < s.heap.objs.size := fun p hp => Heap.lt_size (C.has p hp).at_
theorem Cx.add (C : Cx H0 A l M sE L m led s) {a : Addr} {o : Obj} (h : Okk s.heap (a, o)) (hd : ∀ p ∈ led, p.1 ≠ a) (hL : o.dict ≠ some L) : Cx H0 A l M sE L m ((a, o) :: led) s := by
  refine { C with has := fun p hp => ?_, dn := fun p hp => (List.mem_cons.mp hp).elim (fun e => by rw [e]; exact hL) (C.dn p), nodup := ?_ }
  · rcases List.mem_cons.mp hp with rfl | hp
    · exact h
    · exact C.has p hp
  · rw [List.map_cons]
    refine List.nodup_cons.mpr ⟨fun hm => ?_, C.nodup⟩
    obtain ⟨p, hp, e⟩ := List.mem_map.mp hm
    exact hd p hp e
theorem Cx.drop (C : Cx H0 A l M sE L m led s) (led' : List (Addr × Obj)) (h : led'.Sublist led) : Cx H0 A l M sE L m led' s :=
  { C with has := fun p hp => C.has p (h.subset hp), dn := fun p hp => C.dn p (h.subset hp), nodup := C.nodup.sublist (h.map _) }
theorem nodup_ne {led : List (Addr × Obj)} (hn : (led.map (·.1)).Nodup) {i j : Nat} {a b : Addr} {o o' : Obj} (h : led[i]? = some (a, o)) (h' : led[j]? = some (b, o')) (hij : i ≠ j) : a ≠ b := by
  intro e
  subst e
  have h1 : (led.map (·.1))[i]? = some a := by rw [List.getElem?_map, h]; rfl
  have h2 : (led.map (·.1))[j]? = some a := by rw [List.getElem?_map, h']; rfl
  obtain ⟨hi, h1⟩ := List.getElem?_eq_some_iff.mp h1
  obtain ⟨hj, h2⟩ := List.getElem?_eq_some_iff.mp h2
  rcases Nat.lt_or_gt_of_ne hij with q | q
  · exact List.pairwise_iff_getElem.mp hn i j hi hj q (h1.trans h2.symm)
  · exact List.pairwise_iff_getElem.mp hn j i hj hi q (h2.trans h1.symm)
theorem Cx.ne (C : Cx H0 A l M sE L m led s) {i j : Nat} {a b : Addr} {o o' : Obj} (h : led[i]? = some (a, o)) (h' : led[j]? = some (b, o')) (hij : i ≠ j := by decide) : a ≠ b := nodup_ne C.nodup h h' hij

theorem set_map_fst {led : List (Addr × Obj)} {i : Nat} {a : Addr} {o o' : Obj} (h : led[i]? = some (a, o)) : (led.set i (a, o')).map (·.1) = led.map (·.1) := by
  rw [List.map_set]
  apply List.ext_getElem?
  intro j
  rw [List.getElem?_set]
  split
  · rename_i e
    subst e
    obtain ⟨hi, h1⟩ := List.getElem?_eq_some_iff.mp h
    rw [List.getElem?_map, List.length_map, if_pos hi, List.getElem?_eq_getElem hi, h1]; rfl
  · rfl
theorem Cx.callAt (C : Cx H0 A l M sE L m led s) (i : Nat) {a : Addr} {o o' : Obj} (hi : led[i]? = some (a, o)) (G : Go H0 [a] s s') (ho : Okk s'.heap (a, o')) (hM : a ∈ M ∨ sE.heap.get? a = none) (hL : o'.dict ≠ some L) :
    Cx H0 A l M sE L m (led.set i (a, o')) s' := by
  refine C.goN G (fun p hp => by rw [List.mem_singleton.mp hp]; exact hM) _ (fun p hp => ?_) (fun p hp => (List.mem_or_eq_of_mem_set hp).elim (C.dn p) (fun e => by rw [e]; exact hL)) (by rw [set_map_fst hi]; exact C.nodup)
  obtain ⟨j, hj, e⟩ := List.mem_iff_getElem.mp hp
  have hj' : (led.set i (a, o'))[j]? = some p := by rw [List.getElem?_eq_getElem hj, e]
  rw [List.getElem?_set] at hj'
  split at hj'
  · split at hj'
    · cases hj'; exact ho
    · cases hj'
  · rename_i hij
    have hp' := C.has p (List.mem_of_getElem? hj')
    refine hp'.go G (fun q => ?_)
    obtain ⟨x, y⟩ := p
    exact nodup_ne C.nodup hi hj' hij (List.mem_singleton.mp q).symm

theorem Cx.turn (C : Cx H0 A l M sE L m led s) (G : Go H0 M' s s') (hM : ∀ p ∈ M', (p ∈ M ∨ sE.heap.get? p = none)) (led' : List (Addr × Obj)) (hs : led'.map (·.1) = led.map (·.1))
    (h : ∀ p ∈ led', (p ∈ led ∧ p.1 ∉ M') ∨ (Okk s'.heap p ∧ p.2.dict ≠ some L)) : Cx H0 A l M sE L m led' s' :=
  C.goN G hM led' (fun p hp => (h p hp).elim (fun q => (C.has p q.1).go G q.2) (·.1)) (fun p hp => (h p hp).elim (fun q => C.dn p q.1) (·.2)) (by rw [hs]; exact C.nodup)
theorem Go.upd {H0 : Heap} {s : Shared} {a : Addr} {f : Obj → Obj} (o : Obj) (ho : s.heap.get? a = some o) (hn : Mine.nd o) (hf : (f o).isFreed = false) (hn' : Mine.nd (f o)) (hH : H0.get? a = none) : Go H0 [a] s { s with heap := s.heap.update a f } := by
  refine ⟨fun h b ob e => ?_, fun b ob e hm _ => ?_, fun b ob es n e hd => ?_, fun b ob e hnb => ?_, Nat.le_refl _, fun h => h, rfl⟩
  · have : a ≠ b := fun q => by rw [← q, hH] at e; cases e
    exact (Heap.get?_update_other _ _ this).trans (h b ob e)
  · exact (Heap.get?_update_other _ _ (fun q => hm (List.mem_singleton.mpr q.symm))).trans e
  · have : a ≠ b := fun q => by rw [← q, ho] at e; cases e; exact hn es n hd
    exact ⟨ob.slots, (Heap.get?_update_other _ _ this).trans e⟩
  · by_cases q : a = b
    · subst q; rw [ho] at e; cases e
      exact ⟨f o, Heap.get?_update_self f ho hf, hn'⟩
    · exact ⟨ob, (Heap.get?_update_other _ _ q).trans e, hnb⟩
theorem Cx.upd (C : Cx H0 A l M sE L m led s) (i : Nat) {a : Addr} {o : Obj} {f : Obj → Obj} (hi : led[i]? = some (a, o)) (hf : (f o).isFreed = false) (hn : nd (f o)) (hd : (f o).dict = o.dict) (hM : a ∈ M ∨ sE.heap.get? a = none) (hH : H0.get? a = none) :
    Cx H0 A l M sE L m (led.set i (a, f o)) { s with heap := s.heap.update a f } :=
  have G : Go H0 [a] s { s with heap := s.heap.update a f } := .upd o (C.at i hi) (C.ndAt i hi) hf hn hH
  C.callAt i hi G ⟨by first | exact Heap.get?_update_self f (C.at i hi) hf | exact Heap.get?_update_self _ (C.at i hi) hf, hn, fun dx e => ((C.ok i hi).dx dx (hd ▸ e)).go G⟩ hM (by rw [hd]; exact C.dn _ (List.mem_of_getElem? hi))

structure Nw (H0 : Heap) (sE : Shared) (a : Addr) : Prop where
  e : sE.heap.get? a = none
  h : H0.get? a = none
theorem not_at {h : Heap} : h.get? h.objs.size = none := by
  cases q : h.get? h.objs.size with
  | none => rfl
  | some o => exact absurd (Heap.lt_size q) (Nat.lt_irrefl _)
theorem Cx.noE (C : Cx H0 A l M sE L m led s) {a : Addr} (h : s.heap.get? a = none) : Nw H0 sE a := by
  constructor
  · cases q : sE.heap.get? a with
    | none => rfl
    | some o => obtain ⟨o', z⟩ := C.go.there a o q; rw [h] at z; cases z
  · cases q : H0.get? a with
    | none => rfl
    | some o => have := C.st.glob a o q; rw [h] at this; cases this
end

section
variable {H0 : Heap} {A : Around} {l : List Env} {M : List Addr} {sE : Shared} {L : Addr} {m : Str → Option Value} {led : List (Addr × Obj)} {s : Shared} {MM : Model} {E : Value → Shared → Prop}

theorem Cx.store (C : Cx H0 A l M sE L m led s) {env : Env} {x : Str} {v : Value} {Q : Unit → Shared → Prop} (hL : env.locals = L)
    (h : ∀ s', Cx H0 A l M sE L (updM m x v) led s' → Q () s') (hl : env.kindOf x = some .local := by rfl)
    (hp : (env.scope.kind == .class || (env.scope.kind == .module && env.locals != env.globals)) = false := by rfl) : wpAny MM A (storeName env x v) Q E s := by
  subst hL
  refine wpAny_storeName_local hl C.ns (fun h' hn hs => h _ ?_) hp
  obtain ⟨oL, esL, epL, hoL, hdL⟩ := ns_dict C.ns
  obtain ⟨oL', esL', epL', hoL', hdL'⟩ := ns_dict hn
  have other : ∀ b o, b ≠ env.locals → s.heap.get? b = some o → h'.get? b = some o := fun b o hb e => (hs.2 b hb).trans e
  have neL : ∀ b o, s.heap.get? b = some o → nd o → b ≠ env.locals := fun b o e hn' q => by rw [q, hoL] at e; cases e; exact hn' _ _ hdL
  have eL : sE.heap.get? env.locals = none := C.new
  refine ⟨⟨fun b o e => other b o (fun q => by rw [q, C.top] at e; cases e) (C.st.glob b o e), C.st.frames, fun ev he => ?_, Nat.lt_succ_of_lt C.st.toks⟩, ?_, hn, C.new, C.top, fun p hp' => ⟨other _ _ (neL _ _ (C.has p hp').at_ (C.has p hp').nd) (C.has p hp').at_, (C.has p hp').nd, fun dx e => ?_⟩, C.dn, C.nodup⟩
  · obtain ⟨hk, L', o, es, n, h1, h2, h3, h4⟩ := C.st.fr ev he
    by_cases q : L' = env.locals
    · subst q
      exact ⟨hk, env.locals, oL', esL', epL', h1, h2, hoL', hdL'⟩
    · exact ⟨hk, L', o, es, n, h1, h2, other _ _ q h3, h4⟩
  · refine ⟨fun hg b o e => other b o (fun q => by rw [q, C.top] at e; cases e) (C.go.glob hg b o e), fun b o e hm hn' => ?_, fun b o es n e hd => ?_, fun b o e hn' => ?_, Nat.le_trans C.go.toks (Nat.le_succ _), C.go.gens, C.go.os⟩
    · exact other b o (fun q => by rw [q, eL] at e; cases e) (C.go.nd b o e hm hn')
    · obtain ⟨sl, h1⟩ := C.go.up b o es n e hd
      exact ⟨sl, other b _ (fun q => by rw [q, eL] at e; cases e) h1⟩
    · obtain ⟨o', h1, h2⟩ := C.go.pres b o e hn'
      exact ⟨o', other b _ (fun q => by rw [q, eL] at e; cases e) h1, h2⟩
  · obtain ⟨o, h1, h2⟩ := (C.has p hp').dx dx e
    exact ⟨o, other _ _ (fun q => C.dn p hp' (by rw [e, q])) h1, h2⟩

theorem Cx.ld (C : Cx H0 A l M sE L m led s) {env : Env} {x : Str} {v : Value} {Q : Value → Shared → Prop} (hL : env.locals = L) (hv : m x = some v) (h : Q v s)
    (hk : env.scope.kind = .function := by rfl) (hl : env.kindOf x = some .local := by rfl) : wpAny MM A (loadName env x) Q E s := by
  subst hL
  exact wpAny_loadName_local hk hl C.ns hv h

theorem Cx.push (C : Cx H0 A l M sE L m led s) (o : Obj) (hf : o.isFreed = false) (hn : nd o) (hd : o.dict = none) : Cx H0 A l M sE L m ((s.heap.objs.size, o) :: led) { s with heap := s.heap.push o } :=
  (C.ext (s' := { s with heap := s.heap.push o }) (fun _ _ e => Heap.get?_push_of_some _ e) (Nat.le_refl _) rfl rfl).add (.of (Heap.get?_push_size _ hf) hn hd)
    (fun p hp => Nat.ne_of_lt (C.lt p hp)) (by rw [hd]; exact fun q => by cases q)

theorem nd_seq {c : Value} {d : Option Addr} {xs : Array Value} {n : Nat} {sl : Array (Option Value)} : nd ⟨c, d, .seq xs n, sl⟩ := fun _ _ h => by cases h
theorem nd_fields {c : Value} {d : Option Addr} {xs : Array Value} {sl : Array (Option Value)} : nd ⟨c, d, .fields xs, sl⟩ := fun _ _ h => by cases h
theorem nd_plain {c : Value} {d : Option Addr} {sl : Array (Option Value)} : nd ⟨c, d, .plain, sl⟩ := fun _ _ h => by cases h
theorem nd_cell {c : Value} {d : Option Addr} {v : Option Value} {sl : Array (Option Value)} : nd ⟨c, d, .cell v, sl⟩ := fun _ _ h => by cases h
noncomputable abbrev tupO (vs : List Value) : Obj := { cls := .type "tuple", data := .seq vs.toArray }
noncomputable abbrev lstO (vs : List Value) (n : Nat := 0) : Obj := { cls := .type "list", data := .seq vs.toArray n }

end

section
variable {H0 : Heap} {A : Around} {l : List Env} {s : Shared} {prog : Program} {w : World}
theorem enter {R : Result → Shared → Prop} {f : Addr} {o : Obj} {fd : FuncData} {body : List Stmt} {args : Args} {binds : List (Str × Value)} (S : St H0 A l s) (M : List Addr) (led : List (Addr × Obj)) (hled : ∀ p ∈ led, Okk s.heap p) (hnod : (led.map (·.1)).Nodup)
    (hroom : A.depth < recursionLimit) (ho : s.heap.get? f = some o) (hdata : o.data = .func fd) (hlim : s.heap.NoLimit) (hcd : s.heap.CodeRec fd.code fd.qualname)
    (hbody : fd.body = .stmts body) (hbind : BindsTo s fd args binds) (hcell : ∀ x ∈ fd.scope.names, x.2 ≠ .cell) (hloc : ∀ x ∈ binds, fd.scope.names.lookup x.1 = some .local)
    (h : ∀ L s', L = s.heap.objs.size → Cx H0 (A.deeper (callEnv fd L f)) (callEnv fd L f :: l) M s L (fun x => binds.reverse.lookup x) led s' →
      wpAny (model prog w) (A.deeper (callEnv fd L f)) (execs body (callEnv fd L f)) (qRet R)
        (eOut prog w (A.deeper (callEnv fd L f)) (callEnv fd L f) R) s')
    (hco : fd.scope.isCoroutine = false := by rfl) (hgen : fd.scope.isGenerator = false := by rfl) (hk : fd.scope.kind = .function := by rfl) :
    codeAny (model prog w) A (.call (.ref f) args) R s := by
  refine codeAny_call_def hroom ho hdata hlim hcd hbody hbind hcell hloc (fun h₀ hns hk₀ => ?_) hco hgen hk
  have hH : H0.get? s.heap.objs.size = none := by
    cases q : H0.get? s.heap.objs.size with
    | none => rfl
    | some o => exact absurd (Heap.lt_size (S.glob _ _ q)) (Nat.lt_irrefl _)
  refine h _ _ rfl ⟨⟨fun b o e => hk₀ b o (S.glob b o e), by show (Around.deeper A _).frames = _; unfold Around.deeper; rw [S.frames]; rfl, fun env he => ?_, Nat.lt_of_lt_of_le S.toks (Nat.le_add_right _ _)⟩, Go.ext (s := s) (s' := { s with heap := h₀, toks := s.toks + binds.length }) hk₀ (Nat.le_add_right _ _) rfl rfl _, hns, not_at, hH, fun p hp => ⟨hk₀ _ _ (hled p hp).at_, (hled p hp).nd, fun dx e => ?_⟩, fun p hp q => ?_, hnod⟩
  rcases List.mem_cons.mp he with rfl | he
  · obtain ⟨oL, es, n, h1, h2⟩ := ns_dict hns
    exact ⟨by show fd.scope.kind ≠ _; rw [hk]; decide, _, oL, es, n, rfl, hH, h1, h2⟩
  · obtain ⟨hk', L', o', es, n, h1, h2, h3, h4⟩ := S.fr env he
    exact ⟨hk', L', o', es, n, h1, h2, hk₀ _ _ h3, h4⟩
  · obtain ⟨o, h1, h2⟩ := (hled p hp).dx dx e
    exact ⟨o, hk₀ _ _ h1, h2⟩
  · obtain ⟨o, h1, h2⟩ := (hled p hp).dx _ q
    rw [not_at] at h1; cases h1
end
end Mine
end
section
set_option autoImplicit false
namespace Mine
open PySem
noncomputable abbrev PW : Program := PySem.Challenge.pw_kq0026_01
noncomputable def stAt (n : Nat) : Stmt := PW.main.body.getD n (.Pass default)
noncomputable def fnP : Stmt → Arguments × List Stmt × Scope
  | .FunctionDef _ a b _ _ _ sc _ _ _ => (a, b, sc)
  | _ => default
noncomputable def clsB : Stmt → List Stmt
  | .ClassDef _ _ _ b _ _ _ _ _ _ _ => b
  | _ => []
noncomputable abbrev D (n : Nat) := fnP (stAt n)
noncomputable abbrev DM (c i : Nat) := fnP ((clsB (stAt c)).getD i (.Pass default))
noncomputable abbrev dPull := D 4
noncomputable abbrev dSame := D 5
noncomputable abbrev dGbInit := DM 6 1
noncomputable abbrev dGbIter := DM 6 2
noncomputable abbrev dGbStep := DM 6 3
noncomputable abbrev dGbNext := DM 6 4
noncomputable abbrev dGrInit := DM 7 1
noncomputable abbrev dGrIter := DM 7 2
noncomputable abbrev dGrNext := DM 7 3
noncomputable abbrev dKind := D 8
noncomputable abbrev dCtInit := DM 9 1
noncomputable abbrev dCtIter := DM 9 2
noncomputable abbrev dCtNext := DM 9 3
noncomputable abbrev dIgInit := DM 11 1
noncomputable abbrev dIgCall := DM 11 2
noncomputable abbrev dRank := D 13
noncomputable abbrev dRight := D 15
noncomputable abbrev dLaw := D 16
end Mine
end
section
set_option maxRecDepth 100000
set_option autoImplicit false
namespace Mine
open PySem PySem.W

section
variable {tb : String → Option Builtin} {p : Program} {w : World} {n₀ : Nat} {ann : Option Value}
noncomputable def impT (tb : String → Option Builtin) (p : Program) (w : World) : Nat → SharedT → Thread → Option SharedT
  | 0, _, _ => none
  | n + 1, s, t => match t.atExitBegin with
    | some [] => some s
    | some (_ :: _) => none
    | none => match stepT (denote tb) p w s t with
      | some (s', t') => impT tb p w n s' t'
      | none => none
theorem impT_of : ∀ {n : Nat} {s s' : SharedT} {t : Thread}, impT tb p w n s t = some s' → importEnds tb p w n s.abs t = some s'.abs
  | 0, _, _, _, h => by cases h
  | n + 1, s, s', t, h => by
    unfold impT at h
    unfold importEnds
    cases he : t.atExitBegin with
    | some l => rw [he] at h; cases l <;> cases h; rfl
    | none =>
      rw [he] at h
      cases hs : stepT (denote tb) p w s t with
      | none => rw [hs] at h; cases h
      | some r => obtain ⟨s₂, t₂⟩ := r; rw [hs] at h; rw [stepT_spec hs]; exact impT_of h
noncomputable def topT (tb : String → Option Builtin) (p : Program) (w : World) (n₀ : Nat) (ann : Option Value) : Nat → SharedT → Thread → Option SharedT
  | 0, _, _ => none
  | n + 1, s, t => match through t with
    | true => some s
    | false => match stepOk n₀ ann t with
      | false => none
      | true => match stepT (denote tb) p w s t with
        | some (s', t') => topT tb p w n₀ ann n s' t'
        | none => none
theorem topT_of : ∀ {n : Nat} {s s' : SharedT} {t : Thread}, topT tb p w n₀ ann n s t = some s' → topRun tb p w n₀ ann n s.abs t = some s'.abs
  | 0, _, _, _, h => by cases h
  | n + 1, s, s', t, h => by
    unfold topT at h
    unfold topRun
    cases he : through t with
    | true => rw [he] at h; cases h; rfl
    | false =>
      rw [he] at h
      cases hk : stepOk n₀ ann t with
      | false => rw [hk] at h; cases h
      | true =>
        rw [hk] at h
        cases hs : stepT (denote tb) p w s t with
        | none => rw [hs] at h; cases h
        | some r => obtain ⟨s₂, t₂⟩ := r; rw [hs] at h; rw [stepT_spec hs]; exact topT_of h
noncomputable def insAll : BT → Nat → List Obj → Option (BT × Nat)
  | t, n, [] => some (t, n)
  | t, n, o :: l => match ((t.ins n o).get n).isSome with
    | true => insAll (t.ins n o) (n + 1) l
    | false => none
theorem insAll_of {life : Life} : ∀ {l : List Obj} {t t' : BT} {n n' : Nat}, insAll t n l = some (t', n') → absHeap t' n' life = ⟨(absHeap t n life).objs ++ l.toArray, life⟩
  | [], t, t', n, n', h => by cases h; show absHeap t n life = Heap.mk (_ ++ #[]) life; rw [Array.append_empty]; rfl
  | o :: l, t, t', n, n', h => by
    unfold insAll at h
    cases hs : ((t.ins n o).get n).isSome with
    | false => rw [hs] at h; cases h
    | true =>
      rw [hs] at h
      rw [insAll_of h, absHeap_ins hs]
      show Heap.mk ((absHeap t n life).objs.push o ++ _) _ = _
      congr 1
      apply Array.toList_inj.mp
      simp
noncomputable def ofS (s : Shared) : Option SharedT := (insAll .nil 0 s.heap.objs.toList).map fun r => ⟨r.1, r.2, s.heap.life, s.gens, s.drawn, s.toks, s.os⟩
theorem ofS_of {s : Shared} {r : SharedT} (h : ofS s = some r) : r.abs = s := by
  unfold ofS at h
  obtain ⟨⟨t, n⟩, h1, rfl⟩ := Option.map_eq_some_iff.mp h
  have := insAll_of (life := s.heap.life) h1
  obtain ⟨⟨⟨os⟩, life⟩, g, d, k, o⟩ := s
  show Shared.mk (absHeap t n life) g d k o = _
  rw [this]
  show Shared.mk (Heap.mk (#[] ++ _) _) _ _ _ _ = _
  rw [Array.empty_append]
noncomputable def endsT (p : Program) (w : World) (N : Nat) : Option SharedT :=
  (impT treeTable (opening p) w N ⟨.nil, 0, {}, #[], {}, (start (opening p)).1.toks, (start (opening p)).1.os⟩ (start (opening p)).2).bind fun sT =>
    (fenceModules? p sT.abs).bind fun s₀ => (ofS s₀).bind fun s₀T => match s₀.heap.isNs mainGlobals && s₀.gens.size == 0 with
      | true => (topT treeTable p w s₀.heap.objs.size (s₀.heap.nsMap mainGlobals "__annotations__") N s₀T (topStub p)).bind fun s₁ =>
        match staticsOk (importedModules p.main.body) s₀.heap s₁.abs.heap && namesBound p s₁.abs.heap && gensDone s₁.abs && laidKept s₀.heap s₁.abs.heap with
        | true => some s₁
        | false => none
      | false => none
theorem endsT_of {p : Program} {w : World} {N : Nat} {r : SharedT} (h : endsT p w N = some r) : openEnds treeTable p w N = some r.abs := by
  unfold endsT at h
  obtain ⟨sT, h1, h⟩ := Option.bind_eq_some_iff.mp h
  obtain ⟨s₀, h2, h⟩ := Option.bind_eq_some_iff.mp h
  obtain ⟨s₀T, h3, h⟩ := Option.bind_eq_some_iff.mp h
  have e1 := impT_of h1
  have e3 := ofS_of h3
  unfold openEnds fencedOpening
  rw [show importEnds treeTable (opening p) w N (start (opening p)).1 (start (opening p)).2 = some sT.abs from e1]
  show ((fenceModules? p sT.abs).bind _) = _
  rw [h2]
  show topFrom treeTable p w N s₀ = _
  unfold topFrom
  cases hg : (s₀.heap.isNs mainGlobals && s₀.gens.size == 0) with
  | false => rw [hg] at h; cases h
  | true =>
    rw [hg] at h
    obtain ⟨s₁, h4, h⟩ := Option.bind_eq_some_iff.mp h
    have e4 := topT_of h4
    rw [e3] at e4
    show (topRun treeTable p w s₀.heap.objs.size _ N s₀ (topStub p)).bind _ = _
    rw [e4]
    show (match _ with | true => _ | false => _) = _
    cases hk : (staticsOk (importedModules p.main.body) s₀.heap s₁.abs.heap && namesBound p s₁.abs.heap && gensDone s₁.abs && laidKept s₀.heap s₁.abs.heap) with
    | false => rw [hk] at h; cases h
    | true => rw [hk] at h; cases h; rfl
theorem left_of_T {p q : Program} {loose : List Str} {Xt : Shared → Bool} {α : Type} {Yf : Shared → α} {Ya : World → α} {N : Nat} {g0 : Bool}
    (h : ∀ w, (endsT p w N).map (fun s => (openSeen q loose (importedModules p.main.body) Xt g0 s.abs, Yf s.abs)) = some (openGood q loose, Ya w)) : LeftO p q loose Xt Yf Ya N g0 := fun w => by
  obtain ⟨r, h1, h2⟩ := Option.map_eq_some_iff.mp (h w)
  rw [endsT_of h1]
  exact congrArg some h2
end
end Mine
end
section
set_option maxRecDepth 100000
set_option autoImplicit false
namespace Mine
open PySem PySem.W PySem.W.X

noncomputable def vS (s : Str) (t : Tok) : Value := .str s t
noncomputable def dE (P : Params) (l : List (String × Tok × Value)) : Array DictEntry := (l.map fun p => ⟨PyData.keyHash P (Str.ofString p.1), .str (Str.ofString p.1) p.2.1, p.2.2⟩).toArray
noncomputable def rf (a : Nat) : Value := .ref a
noncomputable def nI (z t : Nat) : Value := .int (Int.ofNat z) t
noncomputable def kH (P : Params) : Frag := [
  (nat_lit 2, ⟨.none, none, (.dict (dE P []) 0), #[]⟩),
  (nat_lit 3, ⟨(.type "dict"), none, (.dict (dE P [("__name__", nat_lit 165, (vS "law_kq0026_01" (nat_lit 526))), ("__doc__", nat_lit 166, .none), ("__package__", nat_lit 167, .none), ("__loader__", nat_lit 168, (.builtin "__main__.__loader__#opaque")), ("__spec__", nat_lit 169, .none), ("__annotations__", nat_lit 170, (rf (nat_lit 6))), ("__builtins__", nat_lit 171, (rf (nat_lit 4))), ("__file__", nat_lit 173, (vS "/claim/cut.py" (nat_lit 172))), ("__cached__", nat_lit 174, .none), ("_wall", nat_lit 193, (rf (nat_lit 21))), ("_MAXSIZE", nat_lit 197, (nI (nat_lit 9223372036854775807) (nat_lit 196))), ("_is_int", nat_lit 205, (rf (nat_lit 28))), ("_pull", nat_lit 212, (rf (nat_lit 35))), ("_same", nat_lit 220, (rf (nat_lit 42))), ("groupby", nat_lit 311, (rf (nat_lit 83))), ("_grouper", nat_lit 365, (rf (nat_lit 128))), ("_count_kind", nat_lit 373, (rf (nat_lit 140))), ("count", nat_lit 438, (rf (nat_lit 181))), ("itemgetter", nat_lit 496, (rf (nat_lit 226))), ("_rank", nat_lit 525, (rf (nat_lit 237))), ("_law_right", nat_lit 533, (rf (nat_lit 242))), ("law", nat_lit 539, (rf (nat_lit 247)))]) 22), #[]⟩),
  (nat_lit 34, ⟨(.type "code"), none, (.fields #[(vS "_pull" (nat_lit 206)), (vS "_pull" (nat_lit 207)), (vS "/claim/cut.py" (nat_lit 208)), (nI (nat_lit 9) (nat_lit 0)), (nI (nat_lit 1) (nat_lit 0)), (nI (nat_lit 0) (nat_lit 0)), (nI (nat_lit 0) (nat_lit 0)), (nI (nat_lit 3) (nat_lit 0)), (rf (nat_lit 29)), (.bool true), (nI (nat_lit 181) (nat_lit 0)), (rf (nat_lit 30)), .none, (rf (nat_lit 31)), (rf (nat_lit 32)), (rf (nat_lit 33)), (nI (nat_lit 210) (nat_lit 0)), (nI (nat_lit 9) (nat_lit 0)), (vS "/claim/cut.py" (nat_lit 211))]), #[]⟩),
  (nat_lit 35, ⟨(.type "function"), none, (.func (fnOf "_pull" "_pull" dPull.1 dPull.2.1 dPull.2.2 .none .none .none (vS "itertools" (nat_lit 194)) none (rf (nat_lit 34)) .none)), #[]⟩),
  (nat_lit 41, ⟨(.type "code"), none, (.fields #[(vS "_same" (nat_lit 213)), (vS "_same" (nat_lit 214)), (vS "/claim/cut.py" (nat_lit 215)), (nI (nat_lit 14) (nat_lit 0)), (nI (nat_lit 2) (nat_lit 0)), (nI (nat_lit 0) (nat_lit 0)), (nI (nat_lit 0) (nat_lit 0)), (nI (nat_lit 3) (nat_lit 0)), (rf (nat_lit 36)), (.bool true), (nI (nat_lit 181) (nat_lit 0)), (rf (nat_lit 37)), .none, (rf (nat_lit 38)), (rf (nat_lit 39)), (rf (nat_lit 40)), (nI (nat_lit 218) (nat_lit 0)), (nI (nat_lit 14) (nat_lit 0)), (vS "/claim/cut.py" (nat_lit 219))]), #[]⟩),
  (nat_lit 42, ⟨(.type "function"), none, (.func (fnOf "_same" "_same" dSame.1 dSame.2.1 dSame.2.2 .none .none .none (vS "itertools" (nat_lit 194)) none (rf (nat_lit 41)) .none)), #[]⟩),
  (nat_lit 51, ⟨(.type "tuple"), none, (.seq #[.none] 0), #[]⟩),
  (nat_lit 57, ⟨(.type "code"), none, (.fields #[(vS "__init__" (nat_lit 244)), (vS "groupby.__init__" (nat_lit 245)), (vS "/claim/cut.py" (nat_lit 246)), (nI (nat_lit 23) (nat_lit 0)), (nI (nat_lit 3) (nat_lit 0)), (nI (nat_lit 0) (nat_lit 0)), (nI (nat_lit 0) (nat_lit 0)), (nI (nat_lit 3) (nat_lit 0)), (rf (nat_lit 52)), (.bool true), (nI (nat_lit 181) (nat_lit 0)), (rf (nat_lit 53)), .none, (rf (nat_lit 54)), (rf (nat_lit 55)), (rf (nat_lit 56)), (nI (nat_lit 250) (nat_lit 0)), (nI (nat_lit 23) (nat_lit 0)), (vS "/claim/cut.py" (nat_lit 251))]), #[]⟩),
  (nat_lit 58, ⟨(.type "function"), none, (.func (fnOf "__init__" "groupby.__init__" dGbInit.1 dGbInit.2.1 dGbInit.2.2 (rf (nat_lit 51)) .none .none (vS "itertools" (nat_lit 194)) none (rf (nat_lit 57)) .none)), #[]⟩),
  (nat_lit 64, ⟨(.type "code"), none, (.fields #[(vS "__iter__" (nat_lit 253)), (vS "groupby.__iter__" (nat_lit 254)), (vS "/claim/cut.py" (nat_lit 255)), (nI (nat_lit 35) (nat_lit 0)), (nI (nat_lit 1) (nat_lit 0)), (nI (nat_lit 0) (nat_lit 0)), (nI (nat_lit 0) (nat_lit 0)), (nI (nat_lit 3) (nat_lit 0)), (rf (nat_lit 59)), (.bool true), (nI (nat_lit 181) (nat_lit 0)), (rf (nat_lit 60)), .none, (rf (nat_lit 61)), (rf (nat_lit 62)), (rf (nat_lit 63)), (nI (nat_lit 257) (nat_lit 0)), (nI (nat_lit 35) (nat_lit 0)), (vS "/claim/cut.py" (nat_lit 258))]), #[]⟩),
  (nat_lit 65, ⟨(.type "function"), none, (.func (fnOf "__iter__" "groupby.__iter__" dGbIter.1 dGbIter.2.1 dGbIter.2.2 .none .none .none (vS "itertools" (nat_lit 194)) none (rf (nat_lit 64)) .none)), #[]⟩),
  (nat_lit 71, ⟨(.type "code"), none, (.fields #[(vS "_step" (nat_lit 260)), (vS "groupby._step" (nat_lit 261)), (vS "/claim/cut.py" (nat_lit 262)), (nI (nat_lit 38) (nat_lit 0)), (nI (nat_lit 1) (nat_lit 0)), (nI (nat_lit 0) (nat_lit 0)), (nI (nat_lit 0) (nat_lit 0)), (nI (nat_lit 3) (nat_lit 0)), (rf (nat_lit 66)), (.bool true), (nI (nat_lit 181) (nat_lit 0)), (rf (nat_lit 67)), .none, (rf (nat_lit 68)), (rf (nat_lit 69)), (rf (nat_lit 70)), (nI (nat_lit 267) (nat_lit 0)), (nI (nat_lit 38) (nat_lit 0)), (vS "/claim/cut.py" (nat_lit 268))]), #[]⟩),
  (nat_lit 72, ⟨(.type "function"), none, (.func (fnOf "_step" "groupby._step" dGbStep.1 dGbStep.2.1 dGbStep.2.2 .none .none .none (vS "itertools" (nat_lit 194)) none (rf (nat_lit 71)) .none)), #[]⟩),
  (nat_lit 78, ⟨(.type "code"), none, (.fields #[(vS "__next__" (nat_lit 270)), (vS "groupby.__next__" (nat_lit 271)), (vS "/claim/cut.py" (nat_lit 272)), (nI (nat_lit 51) (nat_lit 0)), (nI (nat_lit 1) (nat_lit 0)), (nI (nat_lit 0) (nat_lit 0)), (nI (nat_lit 0) (nat_lit 0)), (nI (nat_lit 3) (nat_lit 0)), (rf (nat_lit 73)), (.bool true), (nI (nat_lit 181) (nat_lit 0)), (rf (nat_lit 74)), .none, (rf (nat_lit 75)), (rf (nat_lit 76)), (rf (nat_lit 77)), (nI (nat_lit 275) (nat_lit 0)), (nI (nat_lit 51) (nat_lit 0)), (vS "/claim/cut.py" (nat_lit 276))]), #[]⟩),
  (nat_lit 79, ⟨(.type "function"), none, (.func (fnOf "__next__" "groupby.__next__" dGbNext.1 dGbNext.2.1 dGbNext.2.2 .none .none .none (vS "itertools" (nat_lit 194)) none (rf (nat_lit 78)) .none)), #[]⟩),
  (nat_lit 82, ⟨(.type "dict"), none, (.dict (dE P [("__module__", nat_lit 228, (vS "itertools" (nat_lit 194))), ("__firstlineno__", nat_lit 232, (nI (nat_lit 20) (nat_lit 231))), ("__slots__", nat_lit 243, (rf (nat_lit 50))), ("__init__", nat_lit 252, (rf (nat_lit 58))), ("__iter__", nat_lit 259, (rf (nat_lit 65))), ("_step", nat_lit 269, (rf (nat_lit 72))), ("__next__", nat_lit 277, (rf (nat_lit 79))), ("__static_attributes__", nat_lit 288, (rf (nat_lit 80))), ("_currgrouper", nat_lit 290, (rf (nat_lit 84))), ("_currkey", nat_lit 292, (rf (nat_lit 85))), ("_currvalue", nat_lit 294, (rf (nat_lit 86))), ("_has_currkey", nat_lit 296, (rf (nat_lit 87))), ("_has_currvalue", nat_lit 298, (rf (nat_lit 88))), ("_has_tgtkey", nat_lit 300, (rf (nat_lit 89))), ("_it", nat_lit 302, (rf (nat_lit 90))), ("_keyfunc", nat_lit 304, (rf (nat_lit 91))), ("_serial", nat_lit 306, (rf (nat_lit 92))), ("_tgtkey", nat_lit 308, (rf (nat_lit 93))), ("__doc__", nat_lit 309, .none)]) 12), #[]⟩),
  (nat_lit 83, ⟨(.type "type"), none, (.cls { name := "groupby", bases := [(.type "object")], mro := [(rf (nat_lit 83)), (.type "object")], ns := 82, qualname := "groupby", hasDict := false, slotNames := ["_currgrouper", "_currkey", "_currvalue", "_has_currkey", "_has_currvalue", "_has_tgtkey", "_it", "_keyfunc", "_serial", "_tgtkey"], subclasses := [], abstract := false, collection := none, hasDel := false }), #[none, none, (some (vS "groupby" (nat_lit 221))), (some (vS "groupby" (nat_lit 229))), (some (.builtin "object.__new__")), (some (.bool false))]⟩),
  (nat_lit 84, ⟨(.type "member_descriptor"), none, (.fields #[(vS "_currgrouper" (nat_lit 289)), (rf (nat_lit 83)), (.builtin "proto.slot"), (.builtin "proto.slot#set"), (nI (nat_lit 9) (nat_lit 0))]), #[]⟩),
  (nat_lit 85, ⟨(.type "member_descriptor"), none, (.fields #[(vS "_currkey" (nat_lit 291)), (rf (nat_lit 83)), (.builtin "proto.slot"), (.builtin "proto.slot#set"), (nI (nat_lit 8) (nat_lit 0))]), #[]⟩),
  (nat_lit 86, ⟨(.type "member_descriptor"), none, (.fields #[(vS "_currvalue" (nat_lit 293)), (rf (nat_lit 83)), (.builtin "proto.slot"), (.builtin "proto.slot#set"), (nI (nat_lit 7) (nat_lit 0))]), #[]⟩),
  (nat_lit 87, ⟨(.type "member_descriptor"), none, (.fields #[(vS "_has_currkey" (nat_lit 295)), (rf (nat_lit 83)), (.builtin "proto.slot"), (.builtin "proto.slot#set"), (nI (nat_lit 6) (nat_lit 0))]), #[]⟩),
  (nat_lit 88, ⟨(.type "member_descriptor"), none, (.fields #[(vS "_has_currvalue" (nat_lit 297)), (rf (nat_lit 83)), (.builtin "proto.slot"), (.builtin "proto.slot#set"), (nI (nat_lit 5) (nat_lit 0))]), #[]⟩),
  (nat_lit 89, ⟨(.type "member_descriptor"), none, (.fields #[(vS "_has_tgtkey" (nat_lit 299)), (rf (nat_lit 83)), (.builtin "proto.slot"), (.builtin "proto.slot#set"), (nI (nat_lit 4) (nat_lit 0))]), #[]⟩),
  (nat_lit 90, ⟨(.type "member_descriptor"), none, (.fields #[(vS "_it" (nat_lit 301)), (rf (nat_lit 83)), (.builtin "proto.slot"), (.builtin "proto.slot#set"), (nI (nat_lit 3) (nat_lit 0))]), #[]⟩),
  (nat_lit 91, ⟨(.type "member_descriptor"), none, (.fields #[(vS "_keyfunc" (nat_lit 303)), (rf (nat_lit 83)), (.builtin "proto.slot"), (.builtin "proto.slot#set"), (nI (nat_lit 2) (nat_lit 0))]), #[]⟩),
  (nat_lit 92, ⟨(.type "member_descriptor"), none, (.fields #[(vS "_serial" (nat_lit 305)), (rf (nat_lit 83)), (.builtin "proto.slot"), (.builtin "proto.slot#set"), (nI (nat_lit 1) (nat_lit 0))]), #[]⟩),
  (nat_lit 93, ⟨(.type "member_descriptor"), none, (.fields #[(vS "_tgtkey" (nat_lit 307)), (rf (nat_lit 83)), (.builtin "proto.slot"), (.builtin "proto.slot#set"), (nI (nat_lit 0) (nat_lit 0))]), #[]⟩),
  (nat_lit 109, ⟨(.type "code"), none, (.fields #[(vS "__init__" (nat_lit 328)), (vS "_grouper.__init__" (nat_lit 329)), (vS "/claim/cut.py" (nat_lit 330)), (nI (nat_lit 67) (nat_lit 0)), (nI (nat_lit 3) (nat_lit 0)), (nI (nat_lit 3) (nat_lit 0)), (nI (nat_lit 0) (nat_lit 0)), (nI (nat_lit 3) (nat_lit 0)), (rf (nat_lit 104)), (.bool true), (nI (nat_lit 181) (nat_lit 0)), (rf (nat_lit 105)), .none, (rf (nat_lit 106)), (rf (nat_lit 107)), (rf (nat_lit 108)), (nI (nat_lit 334) (nat_lit 0)), (nI (nat_lit 67) (nat_lit 0)), (vS "/claim/cut.py" (nat_lit 335))]), #[]⟩),
  (nat_lit 110, ⟨(.type "function"), none, (.func (fnOf "__init__" "_grouper.__init__" dGrInit.1 dGrInit.2.1 dGrInit.2.2 .none .none .none (vS "itertools" (nat_lit 194)) none (rf (nat_lit 109)) .none)), #[]⟩),
  (nat_lit 116, ⟨(.type "code"), none, (.fields #[(vS "__iter__" (nat_lit 337)), (vS "_grouper.__iter__" (nat_lit 338)), (vS "/claim/cut.py" (nat_lit 339)), (nI (nat_lit 76) (nat_lit 0)), (nI (nat_lit 1) (nat_lit 0)), (nI (nat_lit 0) (nat_lit 0)), (nI (nat_lit 0) (nat_lit 0)), (nI (nat_lit 3) (nat_lit 0)), (rf (nat_lit 111)), (.bool true), (nI (nat_lit 181) (nat_lit 0)), (rf (nat_lit 112)), .none, (rf (nat_lit 113)), (rf (nat_lit 114)), (rf (nat_lit 115)), (nI (nat_lit 341) (nat_lit 0)), (nI (nat_lit 76) (nat_lit 0)), (vS "/claim/cut.py" (nat_lit 342))]), #[]⟩),
  (nat_lit 117, ⟨(.type "function"), none, (.func (fnOf "__iter__" "_grouper.__iter__" dGrIter.1 dGrIter.2.1 dGrIter.2.2 .none .none .none (vS "itertools" (nat_lit 194)) none (rf (nat_lit 116)) .none)), #[]⟩),
  (nat_lit 123, ⟨(.type "code"), none, (.fields #[(vS "__next__" (nat_lit 344)), (vS "_grouper.__next__" (nat_lit 345)), (vS "/claim/cut.py" (nat_lit 346)), (nI (nat_lit 79) (nat_lit 0)), (nI (nat_lit 1) (nat_lit 0)), (nI (nat_lit 0) (nat_lit 0)), (nI (nat_lit 0) (nat_lit 0)), (nI (nat_lit 3) (nat_lit 0)), (rf (nat_lit 118)), (.bool true), (nI (nat_lit 181) (nat_lit 0)), (rf (nat_lit 119)), .none, (rf (nat_lit 120)), (rf (nat_lit 121)), (rf (nat_lit 122)), (nI (nat_lit 350) (nat_lit 0)), (nI (nat_lit 79) (nat_lit 0)), (vS "/claim/cut.py" (nat_lit 351))]), #[]⟩),
  (nat_lit 124, ⟨(.type "function"), none, (.func (fnOf "__next__" "_grouper.__next__" dGrNext.1 dGrNext.2.1 dGrNext.2.2 .none .none .none (vS "itertools" (nat_lit 194)) none (rf (nat_lit 123)) .none)), #[]⟩),
  (nat_lit 127, ⟨(.type "dict"), none, (.dict (dE P [("__module__", nat_lit 319, (vS "itertools" (nat_lit 194))), ("__firstlineno__", nat_lit 323, (nI (nat_lit 64) (nat_lit 322))), ("__slots__", nat_lit 327, (rf (nat_lit 103))), ("__init__", nat_lit 336, (rf (nat_lit 110))), ("__iter__", nat_lit 343, (rf (nat_lit 117))), ("__next__", nat_lit 352, (rf (nat_lit 124))), ("__static_attributes__", nat_lit 356, (rf (nat_lit 125))), ("_number", nat_lit 358, (rf (nat_lit 129))), ("_parent", nat_lit 360, (rf (nat_lit 130))), ("_tgtkey", nat_lit 362, (rf (nat_lit 131))), ("__doc__", nat_lit 363, .none)]) 5), #[]⟩),
  (nat_lit 128, ⟨(.type "type"), none, (.cls { name := "_grouper", bases := [(.type "object")], mro := [(rf (nat_lit 128)), (.type "object")], ns := 127, qualname := "_grouper", hasDict := false, slotNames := ["_number", "_parent", "_tgtkey"], subclasses := [], abstract := false, collection := none, hasDel := false }), #[none, none, (some (vS "_grouper" (nat_lit 312))), (some (vS "_grouper" (nat_lit 320))), (some (.builtin "object.__new__")), (some (.bool false))]⟩),
  (nat_lit 129, ⟨(.type "member_descriptor"), none, (.fields #[(vS "_number" (nat_lit 357)), (rf (nat_lit 128)), (.builtin "proto.slot"), (.builtin "proto.slot#set"), (nI (nat_lit 2) (nat_lit 0))]), #[]⟩),
  (nat_lit 130, ⟨(.type "member_descriptor"), none, (.fields #[(vS "_parent" (nat_lit 359)), (rf (nat_lit 128)), (.builtin "proto.slot"), (.builtin "proto.slot#set"), (nI (nat_lit 1) (nat_lit 0))]), #[]⟩),
  (nat_lit 131, ⟨(.type "member_descriptor"), none, (.fields #[(vS "_tgtkey" (nat_lit 361)), (rf (nat_lit 128)), (.builtin "proto.slot"), (.builtin "proto.slot#set"), (nI (nat_lit 0) (nat_lit 0))]), #[]⟩),
  (nat_lit 139, ⟨(.type "code"), none, (.fields #[(vS "_count_kind" (nat_lit 366)), (vS "_count_kind" (nat_lit 367)), (vS "/claim/cut.py" (nat_lit 368)), (nI (nat_lit 93) (nat_lit 0)), (nI (nat_lit 1) (nat_lit 0)), (nI (nat_lit 0) (nat_lit 0)), (nI (nat_lit 0) (nat_lit 0)), (nI (nat_lit 3) (nat_lit 0)), (rf (nat_lit 134)), (.bool true), (nI (nat_lit 181) (nat_lit 0)), (rf (nat_lit 135)), .none, (rf (nat_lit 136)), (rf (nat_lit 137)), (rf (nat_lit 138)), (nI (nat_lit 371) (nat_lit 0)), (nI (nat_lit 93) (nat_lit 0)), (vS "/claim/cut.py" (nat_lit 372))]), #[]⟩),
  (nat_lit 140, ⟨(.type "function"), none, (.func (fnOf "_count_kind" "_count_kind" dKind.1 dKind.2.1 dKind.2.2 .none .none .none (vS "itertools" (nat_lit 194)) none (rf (nat_lit 139)) .none)), #[]⟩),
  (nat_lit 149, ⟨(.type "tuple"), none, (.seq #[(nI (nat_lit 0) (nat_lit 390)), (nI (nat_lit 1) (nat_lit 391))] 0), #[]⟩),
  (nat_lit 155, ⟨(.type "code"), none, (.fields #[(vS "__init__" (nat_lit 392)), (vS "count.__init__" (nat_lit 393)), (vS "/claim/cut.py" (nat_lit 394)), (nI (nat_lit 105) (nat_lit 0)), (nI (nat_lit 3) (nat_lit 0)), (nI (nat_lit 0) (nat_lit 0)), (nI (nat_lit 0) (nat_lit 0)), (nI (nat_lit 3) (nat_lit 0)), (rf (nat_lit 150)), (.bool true), (nI (nat_lit 181) (nat_lit 0)), (rf (nat_lit 151)), .none, (rf (nat_lit 152)), (rf (nat_lit 153)), (rf (nat_lit 154)), (nI (nat_lit 401) (nat_lit 0)), (nI (nat_lit 105) (nat_lit 0)), (vS "/claim/cut.py" (nat_lit 402))]), #[]⟩),
  (nat_lit 156, ⟨(.type "function"), none, (.func (fnOf "__init__" "count.__init__" dCtInit.1 dCtInit.2.1 dCtInit.2.2 (rf (nat_lit 149)) .none .none (vS "itertools" (nat_lit 194)) none (rf (nat_lit 155)) .none)), #[]⟩),
  (nat_lit 162, ⟨(.type "code"), none, (.fields #[(vS "__iter__" (nat_lit 404)), (vS "count.__iter__" (nat_lit 405)), (vS "/claim/cut.py" (nat_lit 406)), (nI (nat_lit 117) (nat_lit 0)), (nI (nat_lit 1) (nat_lit 0)), (nI (nat_lit 0) (nat_lit 0)), (nI (nat_lit 0) (nat_lit 0)), (nI (nat_lit 3) (nat_lit 0)), (rf (nat_lit 157)), (.bool true), (nI (nat_lit 181) (nat_lit 0)), (rf (nat_lit 158)), .none, (rf (nat_lit 159)), (rf (nat_lit 160)), (rf (nat_lit 161)), (nI (nat_lit 408) (nat_lit 0)), (nI (nat_lit 117) (nat_lit 0)), (vS "/claim/cut.py" (nat_lit 409))]), #[]⟩),
  (nat_lit 163, ⟨(.type "function"), none, (.func (fnOf "__iter__" "count.__iter__" dCtIter.1 dCtIter.2.1 dCtIter.2.2 .none .none .none (vS "itertools" (nat_lit 194)) none (rf (nat_lit 162)) .none)), #[]⟩),
  (nat_lit 169, ⟨(.type "code"), none, (.fields #[(vS "__next__" (nat_lit 411)), (vS "count.__next__" (nat_lit 412)), (vS "/claim/cut.py" (nat_lit 413)), (nI (nat_lit 120) (nat_lit 0)), (nI (nat_lit 1) (nat_lit 0)), (nI (nat_lit 0) (nat_lit 0)), (nI (nat_lit 0) (nat_lit 0)), (nI (nat_lit 3) (nat_lit 0)), (rf (nat_lit 164)), (.bool true), (nI (nat_lit 181) (nat_lit 0)), (rf (nat_lit 165)), .none, (rf (nat_lit 166)), (rf (nat_lit 167)), (rf (nat_lit 168)), (nI (nat_lit 416) (nat_lit 0)), (nI (nat_lit 120) (nat_lit 0)), (vS "/claim/cut.py" (nat_lit 417))]), #[]⟩),
  (nat_lit 170, ⟨(.type "function"), none, (.func (fnOf "__next__" "count.__next__" dCtNext.1 dCtNext.2.1 dCtNext.2.2 .none .none .none (vS "itertools" (nat_lit 194)) none (rf (nat_lit 169)) .none)), #[]⟩),
  (nat_lit 180, ⟨(.type "dict"), none, (.dict (dE P [("__module__", nat_lit 381, (vS "itertools" (nat_lit 194))), ("__firstlineno__", nat_lit 385, (nI (nat_lit 102) (nat_lit 384))), ("__slots__", nat_lit 389, (rf (nat_lit 148))), ("__init__", nat_lit 403, (rf (nat_lit 156))), ("__iter__", nat_lit 410, (rf (nat_lit 163))), ("__next__", nat_lit 418, (rf (nat_lit 170))), ("__repr__", nat_lit 425, (rf (nat_lit 177))), ("__static_attributes__", nat_lit 429, (rf (nat_lit 178))), ("_cnt", nat_lit 431, (rf (nat_lit 182))), ("_fast", nat_lit 433, (rf (nat_lit 183))), ("_step", nat_lit 435, (rf (nat_lit 184))), ("__doc__", nat_lit 436, .none)]) 5), #[]⟩),
  (nat_lit 181, ⟨(.type "type"), none, (.cls { name := "count", bases := [(.type "object")], mro := [(rf (nat_lit 181)), (.type "object")], ns := 180, qualname := "count", hasDict := false, slotNames := ["_cnt", "_fast", "_step"], subclasses := [], abstract := false, collection := none, hasDel := false }), #[none, none, (some (vS "count" (nat_lit 374))), (some (vS "count" (nat_lit 382))), (some (.builtin "object.__new__")), (some (.bool false))]⟩),
  (nat_lit 182, ⟨(.type "member_descriptor"), none, (.fields #[(vS "_cnt" (nat_lit 430)), (rf (nat_lit 181)), (.builtin "proto.slot"), (.builtin "proto.slot#set"), (nI (nat_lit 2) (nat_lit 0))]), #[]⟩),
  (nat_lit 183, ⟨(.type "member_descriptor"), none, (.fields #[(vS "_fast" (nat_lit 432)), (rf (nat_lit 181)), (.builtin "proto.slot"), (.builtin "proto.slot#set"), (nI (nat_lit 1) (nat_lit 0))]), #[]⟩),
  (nat_lit 184, ⟨(.type "member_descriptor"), none, (.fields #[(vS "_step" (nat_lit 434)), (rf (nat_lit 181)), (.builtin "proto.slot"), (.builtin "proto.slot#set"), (nI (nat_lit 0) (nat_lit 0))]), #[]⟩),
  (nat_lit 200, ⟨(.type "code"), none, (.fields #[(vS "__init__" (nat_lit 455)), (vS "itemgetter.__init__" (nat_lit 456)), (vS "/claim/cut.py" (nat_lit 457)), (nI (nat_lit 133) (nat_lit 0)), (nI (nat_lit 2) (nat_lit 0)), (nI (nat_lit 2) (nat_lit 0)), (nI (nat_lit 0) (nat_lit 0)), (nI (nat_lit 7) (nat_lit 0)), (rf (nat_lit 195)), (.bool true), (nI (nat_lit 181) (nat_lit 0)), (rf (nat_lit 196)), .none, (rf (nat_lit 197)), (rf (nat_lit 198)), (rf (nat_lit 199)), (nI (nat_lit 461) (nat_lit 0)), (nI (nat_lit 133) (nat_lit 0)), (vS "/claim/cut.py" (nat_lit 462))]), #[]⟩),
  (nat_lit 201, ⟨(.type "function"), none, (.func (fnOf "__init__" "itemgetter.__init__" dIgInit.1 dIgInit.2.1 dIgInit.2.2 .none .none .none (vS "operator" (nat_lit 439)) none (rf (nat_lit 200)) .none)), #[]⟩),
  (nat_lit 207, ⟨(.type "code"), none, (.fields #[(vS "__call__" (nat_lit 464)), (vS "itemgetter.__call__" (nat_lit 465)), (vS "/claim/cut.py" (nat_lit 466)), (nI (nat_lit 136) (nat_lit 0)), (nI (nat_lit 2) (nat_lit 0)), (nI (nat_lit 2) (nat_lit 0)), (nI (nat_lit 0) (nat_lit 0)), (nI (nat_lit 3) (nat_lit 0)), (rf (nat_lit 202)), (.bool true), (nI (nat_lit 181) (nat_lit 0)), (rf (nat_lit 203)), .none, (rf (nat_lit 204)), (rf (nat_lit 205)), (rf (nat_lit 206)), (nI (nat_lit 472) (nat_lit 0)), (nI (nat_lit 136) (nat_lit 0)), (vS "/claim/cut.py" (nat_lit 473))]), #[]⟩),
  (nat_lit 208, ⟨(.type "function"), none, (.func (fnOf "__call__" "itemgetter.__call__" dIgCall.1 dIgCall.2.1 dIgCall.2.2 .none .none .none (vS "operator" (nat_lit 439)) none (rf (nat_lit 207)) .none)), #[]⟩),
  (nat_lit 225, ⟨(.type "dict"), none, (.dict (dE P [("__module__", nat_lit 448, (vS "operator" (nat_lit 439))), ("__firstlineno__", nat_lit 452, (nI (nat_lit 130) (nat_lit 451))), ("__slots__", nat_lit 454, (rf (nat_lit 194))), ("__init__", nat_lit 463, (rf (nat_lit 201))), ("__call__", nat_lit 474, (rf (nat_lit 208))), ("__repr__", nat_lit 482, (rf (nat_lit 215))), ("__reduce__", nat_lit 489, (rf (nat_lit 222))), ("__static_attributes__", nat_lit 491, (rf (nat_lit 223))), ("_items", nat_lit 493, (rf (nat_lit 227))), ("__doc__", nat_lit 494, .none)]) 3), #[]⟩),
  (nat_lit 226, ⟨(.type "type"), none, (.cls { name := "itemgetter", bases := [(.type "object")], mro := [(rf (nat_lit 226)), (.type "object")], ns := 225, qualname := "itemgetter", hasDict := false, slotNames := ["_items"], subclasses := [], abstract := false, collection := none, hasDel := false }), #[none, none, (some (vS "itemgetter" (nat_lit 441))), (some (vS "itemgetter" (nat_lit 449))), (some (.builtin "object.__new__")), (some (.bool false))]⟩),
  (nat_lit 227, ⟨(.type "member_descriptor"), none, (.fields #[(vS "_items" (nat_lit 492)), (rf (nat_lit 226)), (.builtin "proto.slot"), (.builtin "proto.slot#set"), (nI (nat_lit 0) (nat_lit 0))]), #[]⟩),
  (nat_lit 230, ⟨(.type "dict"), none, (.dict (dE P [("key", nat_lit 501, .none), ("reverse", nat_lit 502, (.bool false)), ("ties", nat_lit 503, (vS "average" (nat_lit 499))), ("start", nat_lit 504, (nI (nat_lit 1) (nat_lit 500)))]) 4), #[]⟩),
  (nat_lit 236, ⟨(.type "code"), none, (.fields #[(vS "_rank" (nat_lit 505)), (vS "_rank" (nat_lit 506)), (vS "/claim/cut.py" (nat_lit 507)), (nI (nat_lit 156) (nat_lit 0)), (nI (nat_lit 1) (nat_lit 0)), (nI (nat_lit 1) (nat_lit 0)), (nI (nat_lit 4) (nat_lit 0)), (nI (nat_lit 3) (nat_lit 0)), (rf (nat_lit 231)), (.bool true), (nI (nat_lit 181) (nat_lit 0)), (rf (nat_lit 232)), .none, (rf (nat_lit 233)), (rf (nat_lit 234)), (rf (nat_lit 235)), (nI (nat_lit 523) (nat_lit 0)), (nI (nat_lit 156) (nat_lit 0)), (vS "/claim/cut.py" (nat_lit 524))]), #[]⟩),
  (nat_lit 237, ⟨(.type "function"), none, (.func (fnOf "_rank" "_rank" dRank.1 dRank.2.1 dRank.2.2 .none (rf (nat_lit 230)) .none (vS "cpy313.statistics" (nat_lit 497)) none (rf (nat_lit 236)) .none)), #[]⟩),
  (nat_lit 241, ⟨(.type "code"), none, (.fields #[(vS "_law_right" (nat_lit 528)), (vS "_law_right" (nat_lit 529)), (vS "/claim/cut.py" (nat_lit 530)), (nI (nat_lit 173) (nat_lit 0)), (nI (nat_lit 4) (nat_lit 0)), (nI (nat_lit 0) (nat_lit 0)), (nI (nat_lit 0) (nat_lit 0)), (nI (nat_lit 3) (nat_lit 0)), (rf (nat_lit 238)), (.bool true), (nI (nat_lit 181) (nat_lit 0)), (rf (nat_lit 239)), .none, .none, .none, (rf (nat_lit 240)), (nI (nat_lit 531) (nat_lit 0)), (nI (nat_lit 173) (nat_lit 0)), (vS "/claim/cut.py" (nat_lit 532))]), #[]⟩),
  (nat_lit 242, ⟨(.type "function"), none, (.func (fnOf "_law_right" "_law_right" dRight.1 dRight.2.1 dRight.2.2 .none .none .none (vS "law_kq0026_01" (nat_lit 526)) none (rf (nat_lit 241)) .none)), #[]⟩),
  (nat_lit 246, ⟨(.type "code"), none, (.fields #[(vS "law" (nat_lit 534)), (vS "law" (nat_lit 535)), (vS "/claim/cut.py" (nat_lit 536)), (nI (nat_lit 191) (nat_lit 0)), (nI (nat_lit 1) (nat_lit 0)), (nI (nat_lit 0) (nat_lit 0)), (nI (nat_lit 0) (nat_lit 0)), (nI (nat_lit 3) (nat_lit 0)), (rf (nat_lit 243)), (.bool true), (nI (nat_lit 181) (nat_lit 0)), (rf (nat_lit 244)), .none, .none, .none, (rf (nat_lit 245)), (nI (nat_lit 537) (nat_lit 0)), (nI (nat_lit 191) (nat_lit 0)), (vS "/claim/cut.py" (nat_lit 538))]), #[]⟩),
  (nat_lit 247, ⟨(.type "function"), none, (.func (fnOf "law" "law" dLaw.1 dLaw.2.1 dLaw.2.2 .none .none .none (vS "law_kq0026_01" (nat_lit 526)) none (rf (nat_lit 246)) .none)), #[]⟩)]
noncomputable def kT (_ : Params) : Frag := [(nat_lit 239, ⟨.none, none, .fields #[], #[]⟩), (nat_lit 244, ⟨.none, none, .fields #[], #[]⟩)]
noncomputable def kHT (P : Params) : Frag := kH P ++ kT P
noncomputable def aH : List Addr := [2, 3, 34, 35, 41, 42, 51, 57, 58, 64, 65, 71, 72, 78, 79, 82, 83, 84, 85, 86, 87, 88, 89, 90, 91, 92, 93, 109, 110, 116, 117, 123, 124, 127, 128, 129, 130, 131, 139, 140, 149, 155, 156, 162, 163, 169, 170, 180, 181, 182, 183, 184, 200, 201, 207, 208, 225, 226, 227, 230, 236, 237, 241, 242, 246, 247, 239, 244]
noncomputable def vw : Program := { PW with main := { PW.main with body := [stAt 16] } }
noncomputable def lsH : List Str := ["_wall", "_MAXSIZE", "_is_int", "_pull", "_same", "groupby", "_grouper", "_count_kind", "count", "itemgetter", "_rank", "_law_right"]
theorem left : LeftO PW vw lsH (fun s => xlAt vw [] s && recOk PySem.Challenge.rw_kq0026_01.row.records s) (obsZ aH) (valZ kHT 248 540) 3800 := left_of_T fun w => by kernel_rfl
end Mine
end
section
set_option maxRecDepth 100000
set_option autoImplicit false
set_option genInjectivity false
set_option genSizeOf false
namespace Mine
open PySem PySem.W PySem.Calls PyProof.Rows PySem.Spec

structure Gl (K : Frag) (H0 : Heap) (mg mb : Str → Option Value) : Prop where
  X : K.In H0
  g : H0.Ns mainGlobals mg
  b : H0.Ns builtinsNs mb
  boot : ∀ x : Str, x ≠ "__name__" → mb x = bootBuiltins x
  lim : H0.NoLimit
  nob : NoneBooked H0

structure FnK (K : Frag) (f : Addr) (qual : Str) (d : Arguments × List Stmt × Scope) (dV kV : Value) : Prop where
  ex : ∃ name doc pm an cdv ct oc od osl, K.lookup f = some ⟨oc, od, .func (fnOf name qual d.1 d.2.1 d.2.2 dV kV doc pm an cdv ct), osl⟩ ∧ codeIn K cdv qual = true

section
variable {K : Frag} {H0 : Heap} {mg mb : Str → Option Value} {A : Around} {l : List Env} {M : List Addr} {sE : Shared} {L : Addr} {m : Str → Option Value} {led : List (Addr × Obj)} {s : Shared} {prog : Program} {w : World} {E : Value → Shared → Prop}
theorem St.X (S : St H0 A l s) (G : Gl K H0 mg mb) : K.In s.heap := fun a o e => S.glob a o (G.X a o e)
theorem St.lim (S : St H0 A l s) (G : Gl K H0 mg mb) : s.heap.NoLimit := G.lim.keeps S.glob
theorem St.nob (S : St H0 A l s) (G : Gl K H0 mg mb) : NoneBooked s.heap := let ⟨mc, a, b⟩ := G.nob; ⟨mc, a.keeps S.glob, b⟩

theorem enterF {R : Result → Shared → Prop} {f : Addr} {qual : Str} {d : Arguments × List Stmt × Scope} {dV kV : Value} {args : Args} {binds : List (Str × Value)} (G : Gl K H0 mg mb) (S : St H0 A l s) (fk : FnK K f qual d dV kV) (M : List Addr) (led : List (Addr × Obj)) (hled : ∀ p ∈ led, Okk s.heap p) (hnod : (led.map (·.1)).Nodup)
    (hroom : A.depth < recursionLimit) (hbind : ∀ name doc pm an cdv ct, BindsTo s (fnOf name qual d.1 d.2.1 d.2.2 dV kV doc pm an cdv ct) args binds)
    (hcell : ∀ x ∈ d.2.2.names, x.2 ≠ .cell) (hloc : ∀ x ∈ binds, d.2.2.names.lookup x.1 = some .local)
    (h : ∀ L cdv s', L = s.heap.objs.size → Cx H0 (A.deeper (envOf qual d.2.2 L f cdv)) (envOf qual d.2.2 L f cdv :: l) M s L (fun x => binds.reverse.lookup x) led s' →
      wpAny (model prog w) (A.deeper (envOf qual d.2.2 L f cdv)) (execs d.2.1 (envOf qual d.2.2 L f cdv)) (qRet R)
        (eOut prog w (A.deeper (envOf qual d.2.2 L f cdv)) (envOf qual d.2.2 L f cdv) R) s')
    (hco : d.2.2.isCoroutine = false := by rfl) (hgen : d.2.2.isGenerator = false := by rfl) (hk : d.2.2.kind = .function := by rfl) :
    codeAny (model prog w) A (.call (.ref f) args) R s := by
  obtain ⟨name, doc, pm, an, cdv, ct, oc, od, osl, ho, hcd⟩ := fk.ex
  exact enter (fd := fnOf name qual d.1 d.2.1 d.2.2 dV kV doc pm an cdv ct) S M led hled hnod hroom (S.X G _ _ ho) rfl (S.lim G) (codeRec_of (S.X G) hcd) rfl (hbind _ _ _ _ _ _) hcell hloc (fun L s' e C => h L cdv s' e C) hco hgen hk

variable {cn : Str} {cs : Scope} {a : Addr} {cdv : Value}
theorem Cx.global (C : Cx H0 A l M sE L m led s) (G : Gl K H0 mg mb) {x : Str} {pos : Pos} {v : Value} {Q : Value → Shared → Prop} (e : nsIn K mainGlobals x = some (some v)) (h : Q v s)
    (hk : cs.kind = .function := by rfl) (hx : cs.names.lookup x = some .globalImplicit := by rfl) (hd : (x == ("__debug__" : Str)) = false := by decide) : wpAny (model prog w) A (eval (.Name x pos) (envOf cn cs L a cdv)) Q E s :=
  Name_function_global hk hx (loadGlobal_global (env := envOf cn cs L a cdv) (G.g.keeps C.st.glob) (mg_of G.X G.g e) h) hd
theorem Cx.boot (C : Cx H0 A l M sE L m led s) (G : Gl K H0 mg mb) {x : Str} {pos : Pos} {v : Value} {Q : Value → Shared → Prop} (e : nsIn K mainGlobals x = some none) (hv : bootBuiltins x = some v) (h : Q v s) (hn : x ≠ "__name__" := by decide)
    (hk : cs.kind = .function := by rfl) (hx : cs.names.lookup x = some .globalImplicit := by rfl) (hd : (x == ("__debug__" : Str)) = false := by decide) : wpAny (model prog w) A (eval (.Name x pos) (envOf cn cs L a cdv)) Q E s :=
  Name_function_global hk hx (loadGlobal_builtin (env := envOf cn cs L a cdv) (G.g.keeps C.st.glob) (mg_none_of G.X G.g e) (G.b.keeps C.st.glob) ((G.boot x hn).trans hv) h) hd
theorem Cx.name (C : Cx H0 A l M sE L m led s) {x : Str} {pos : Pos} {v : Value} {Q : Value → Shared → Prop} (hv : m x = some v) (h : Q v s)
    (hk : cs.kind = .function := by rfl) (hl : cs.names.lookup x = some .local := by rfl) (hd : (x == ("__debug__" : Str)) = false := by decide) : wpAny (model prog w) A (eval (.Name x pos) (envOf cn cs L a cdv)) Q E s :=
  wpAny_Name (C.ld (env := envOf cn cs L a cdv) rfl hv h hk hl) hd
theorem Cx.set (C : Cx H0 A l M sE L m led s) {x : Str} {v : Value} {Q : Unit → Shared → Prop} (h : ∀ s', Cx H0 A l M sE L (updM m x v) led s' → Q () s')
    (hl : cs.names.lookup x = some .local := by rfl) (hp : (cs.kind == .class || (cs.kind == .module && L != mainGlobals)) = false := by rfl) : wpAny (model prog w) A (storeName (envOf cn cs L a cdv) x v) Q E s :=
  C.store (env := envOf cn cs L a cdv) rfl h hl hp
end

noncomputable def tokOf : Value → Tok
  | .int _ t | .float _ t | .str _ t | .bytes _ t => t
  | _ => 0

structure KeyOps where
  P : Value → Prop
  lt : Value → Value → Bool
  eq : Value → Value → Bool
  ty : Value
  eq_iff : ∀ x y, P x → P y → (eq x y = true ↔ (lt x y = false ∧ lt y x = false))
  irrefl : ∀ x, P x → lt x x = false
  trans : ∀ x y z, P x → P y → P z → lt x y = true → lt y z = true → lt x z = true
  neg : ∀ x y z, P x → P y → P z → lt x z = true → lt x y = true ∨ lt y z = true
  hty : ∀ (M : Model) (h : Heap) x, P x → Looks M h (typeOf x) ty
  nty : ty ≠ .type "tuple"
  hd : ∀ x, P x → handedIn x = true
  eqR : ∀ (prog : Program) (w : World) (A : Around) (E : Value → Shared → Prop) (s : Shared) (x y : Value) (Q : Bool → Shared → Prop), NoneBooked s.heap → P x → P y → tokOf x ≠ 0 → tokOf y ≠ 0 → (tokOf x = tokOf y → eq x y = true) → Q (eq x y) s → wpAny (model prog w) A (eqBool x y) Q E s
  ltR : ∀ (prog : Program) (w : World) (A : Around) (E : Value → Shared → Prop) (s : Shared) (b : Bool) (x y : Value) (Q : Bool → Shared → Prop), P x → P y → Q (lt x y) s → wpAny (model prog w) A (oneLt' b x y) Q E s
  cmpR : ∀ (prog : Program) (w : World) (A : Around) (E : Value → Shared → Prop) (s : Shared) (x y : Value) (Q : Value → Shared → Prop), P x → P y → Q (.bool (eq x y)) s → wpAny (model prog w) A (compareOp .Eq x y) Q E s
  isR : ∀ (prog : Program) (w : World) (A : Around) (E : Value → Shared → Prop) (s : Shared) (x y : Value) (Q : Value → Shared → Prop), NoneBooked s.heap → P x → P y → tokOf x ≠ 0 → tokOf y ≠ 0 → (tokOf x = tokOf y → eq x y = true) →
    (∀ r, (r = true → eq x y = true) → Q (.bool r) s) → wpAny (model prog w) A (compareOp .Is x y) Q E s

structure KeyL (κ : KeyOps) (ks : List Value) : Prop where
  all : ∀ x ∈ ks, κ.P x ∧ tokOf x ≠ 0
  tok : ∀ x ∈ ks, ∀ y ∈ ks, tokOf x = tokOf y → κ.eq x y = true

section
variable {prog : Program} {w : World} {A : Around} {E : Value → Shared → Prop} {s : Shared}
theorem created_any {M : Model} {e : Bool} {t u : Tok} {Q : Bool → Shared → Prop} (hb : NoneBooked s.heap) (ht : t ≠ 0) (hu : u ≠ 0) (h : ∀ r, (r = true → t = u ∨ e = true) → Q r s) : wpAny M A (isSame.created e t u) Q E s := by
  unfold isSame.created
  refine wpAny_ite ?_
  first | refine ite_no' (by simp [ht, hu]) ?_ | refine ite_no (by simp [ht, hu]) ?_ | rw [if_neg (by simp [ht, hu])]
  refine wpAny_ite ?_
  split
  · rename_i q
    exact wpAny_pure (h true fun _ => .inl (by simpa using q))
  refine wpAny_ite ?_
  split
  · exact wpAny_pure (h false fun q => by cases q)
  rename_i q
  have he : e = true := by simpa using q
  refine wpAny_bind (wpAny_sharingNotTold_none hb ?_)
  (try simp only [Bool.false_eq_true, if_false])
  refine wpAny_bind (wpAny_sharingNotTold_none hb ?_)
  (try simp only [Bool.false_eq_true, if_false])
  refine wpAny_bind (wpAny_rule (wpAny_bind (wpAny_askSetting (wpAny_pure (h _ fun _ => .inr he)))))

theorem is_int {x y : Int} {t u : Tok} {Q : Value → Shared → Prop} (hb : NoneBooked s.heap) (ht : t ≠ 0) (hu : u ≠ 0) (hq : t = u → x = y) (h : ∀ r, (r = true → x = y) → Q (.bool r) s) : wpAny (model prog w) A (compareOp .Is (.int x t) (.int y u)) Q E s := by
  show wpAny (model prog w) A (do return Value.bool (← isSame (.int x t) (.int y u))) Q E s
  refine wpAny_bind ?_
  show wpAny _ _ (if (x == y && smallInt x) = true then isSame.cachedInt t u else isSame.created (x == y) t u) _ _ _
  split
  · rename_i q
    have hxy : x = y := by simp at q; exact q.1
    unfold isSame.cachedInt
    first | refine ite_no' (by simp [ht, hu]) ?_ | refine ite_no (by simp [ht, hu]) ?_ | rw [if_neg (by simp [ht, hu])]
    exact wpAny_bind (wpAny_rule (wpAny_pure (wpAny_pure (h true fun _ => hxy))))
  · exact created_any hb ht hu fun r hr => wpAny_pure (h r fun e => (hr e).elim hq fun q => by simpa using q)
end

noncomputable def intLt : Value → Value → Bool
  | .int a _, .int b _ => decide (a < b)
  | _, _ => false
noncomputable def intEq : Value → Value → Bool
  | .int a _, .int b _ => a == b
  | _, _ => false
noncomputable def intKey : KeyOps where
  P := fun v => ∃ n t, v = .int n t
  lt := intLt
  eq := intEq
  ty := .type "int"
  eq_iff := by rintro _ _ ⟨a, t, rfl⟩ ⟨b, u, rfl⟩; simp [intLt, intEq]; omega
  irrefl := by rintro _ ⟨a, t, rfl⟩; simp [intLt]
  trans := by rintro _ _ _ ⟨a, t, rfl⟩ ⟨b, u, rfl⟩ ⟨c, v, rfl⟩; simp [intLt]; lia
  neg := by rintro _ _ _ ⟨a, t, rfl⟩ ⟨b, u, rfl⟩ ⟨c, v, rfl⟩; simp [intLt]; lia
  hty := by rintro M h _ ⟨a, t, rfl⟩; exact Looks.of_pure rfl
  nty := by decide
  hd := by rintro _ ⟨a, t, rfl⟩; rfl
  eqR := by rintro prog w A E s _ _ Q _ ⟨a, t, rfl⟩ ⟨b, u, rfl⟩ _ _ _ h; exact wpAny_eqBool_int h
  ltR := by
    rintro prog w A E s b _ _ Q ⟨x, t, rfl⟩ ⟨y, u, rfl⟩ h
    cases b with
    | true => exact oneLt_int h
    | false => exact kat_one _ _ (lt_int h)
  cmpR := by rintro prog w A E s _ _ Q ⟨a, t, rfl⟩ ⟨b, u, rfl⟩ h; exact eq_int h
  isR := by
    rintro prog w A E s _ _ Q hb ⟨a, t, rfl⟩ ⟨b, u, rfl⟩ ht hu hq h
    exact is_int hb ht hu (fun e => by simpa [intEq] using hq e) fun r hr => h r fun e => by simpa [intEq] using hr e
end Mine
end
section
set_option maxRecDepth 100000
set_option autoImplicit false
namespace Mine
open PySem PySem.W PySem.Calls PyProof.Rows PySem.Spec Builtin Builtin.ObjectAttr Builtin.Getset_descriptor

structure ClsK (K : Frag) (c : Addr) : Prop where
  mkk : makesIn K c = true
  ga : findIn K (.ref c) "__getattribute__" = some (some (.builtin "object.__getattribute__"))
  gt : findIn K (.ref c) "__getattr__" = some none
  sa : findIn K (.ref c) "__setattr__" = some (some (.builtin "object.__setattr__"))
  po : plainOver K c = true
  ic : isClsIn K c = true
structure SlotK (K : Frag) (c : Addr) (name : Str) (i : Nat) : Prop where
  ex : ∃ p, findIn K (.ref c) name = some (some (.ref p)) ∧ specialIn K (.ref p) "__get__" = some (some (.builtin "member_descriptor.__get__")) ∧ takesIn K (.ref p) = some true ∧
    takerIn K c name = some (some (.ref p)) ∧ typeIn K (.ref p) = some (.type "member_descriptor") ∧ slotIn K p c = some i
  lt : i < 1000
structure MethK (K : Frag) (c : Addr) (name : Str) (f : Addr) : Prop where
  fi : findIn K (.ref c) name = some (some (.ref f))
  ft : typeIn K (.ref f) = some (.type "function")
  kp : keepIn K (.ref f) = true
  fn : fnIn K f = true

noncomputable abbrev io (c dx : Addr) (sl : List (Option Value)) : Obj := { cls := .ref c, dict := some dx, data := .plain, slots := sl.toArray }
noncomputable def putS (sl : List (Option Value)) (i : Nat) (v : Value) : List (Option Value) := (sl ++ List.replicate (i + 1 - sl.length) none).set i (some v)
theorem putS_eq (sl : List (Option Value)) (i : Nat) (v : Value) : (sl.toArray ++ Array.replicate (i + 1 - sl.toArray.size) none).setIfInBounds i (some v) = (putS sl i v).toArray := by
  apply Array.toList_inj.mp
  simp [putS]

theorem instAt {h : Heap} {x c dx : Addr} {sl : List (Option Value)} (O : Okk h (x, io c dx sl)) : ∃ od, InstAt h x (io c dx sl) c (some od) ∧ od.data = .dict #[] := by
  obtain ⟨o, a, b⟩ := O.dx dx rfl
  exact ⟨o, ⟨O.at_, rfl, rfl, a⟩, b⟩
theorem noShadow {od : Obj} (e : od.data = .dict #[]) (name : Str) : shadowIn (some od) name = some false := by
  obtain ⟨_, _, d, _⟩ := od
  cases e; rfl

section
variable {K : Frag} {H0 : Heap} {mg mb : Str → Option Value} {A : Around} {l : List Env} {M : List Addr} {sE : Shared} {L : Addr} {m : Str → Option Value} {led : List (Addr × Obj)} {s : Shared} {prog : Program} {w : World} {E : Value → Shared → Prop}

theorem Cx.getS (C : Cx H0 A l M sE L m led s) (G : Gl K H0 mg mb) {x c dx : Addr} {sl : List (Option Value)} {name : Str} {i : Nat} {v : Value} {expr : Bool} {Q : Value → Shared → Prop} (j : Nat) (hj : led[j]? = some (x, io c dx sl))
    (ck : ClsK K c) (sk : SlotK K c name i) (hv : sl[i]? = some (some v)) (hh : handedIn v = true) (h : ∀ s', Cx H0 A l M sE L m led s' → Q v s') : wpAny (model prog w) A (getAttr (.ref x) name expr) Q E s := by
  obtain ⟨od, I, hod⟩ := instAt (C.ok j hj)
  obtain ⟨p, h1, h2, h3, h4, h5, h6⟩ := sk.ex
  exact get_bind (C.st.X G) I ck.ga (findObj_data ck.ic h1 h2 h3) ck.gt (wpAny_call (slot_get (s := { s with toks := s.toks + 1 }) (C.st.X G) I h6 (by show (sl.toArray[i]?).join = some v; rw [List.getElem?_toArray, hv]; rfl) (handed_on hh (h _ (C.tok 1)))))

theorem slot_store {R : Result → Shared → Prop} {x c p i : Nat} {ox : Obj} {od : Option Obj} {v : Value} (X : K.In s.heap) (I : InstAt s.heap x ox c od)
    (hp : slotIn K p c = some i) (hi : i < 1000) (h : R (.ok (.ret .none)) { s with heap := s.heap.update x (fun o => { o with slots := (o.slots ++ Array.replicate (i + 1 - o.slots.size) none).setIfInBounds i (some v) }) }) :
    codeAny (model prog w) A (.call (.builtin "member_descriptor.__set__") ⟨[.ref p, .ref x, v], []⟩) R s := by
  obtain ⟨n, tn, owner, behind, tb, d, sl, cd, ho, hc, hm, hb, rfl⟩ := slot_of X hp
  obtain ⟨hh, g, dr, t, os⟩ := s
  have L0 := I.type (M := model prog w)
  have L1 := looks_mroIn (M := model prog w) X hm
  have L2 : Looks (model prog w) hh (Slots.slotNamesOf (.ref c)) cd.slotNames := (looks_clsIn X hc).andThen .now
  have hx := I.at_
  dsimp only at ho hx L0 L1
  have f0 := looks_field (M := model prog w) ho 0 (v := .str n tn) rfl
  have f1 := looks_field (M := model prog w) ho 1 (v := owner) rfl
  have f3 := looks_field (M := model prog w) ho 3 (v := .builtin "proto.slot#set") rfl
  have f4 := looks_field (M := model prog w) ho 4 (v := .int behind tb) rfl
  refine codeAny_call_builtin KF.slot_mset.plain KF.entry_mset (KF.slot_mset.check _ _ _ _ _ _ _ _ ⟨_, ho, rfl⟩ (KF.args_mset _ _ _) ?_)
  unfold Builtin.«member_descriptor.__set__» descrSet descrStoreThrough descrCheckInstance descrNameAndClass isInstance
  have f5 : Looks (model prog w) hh (descrItself (.ref p)) [.ref p] := ((Looks.ld (part := none) ho).andThen .now).andThen (Looks.of_pure (by kernel_rfl))
  repeat lk
  refine ⟨Code.quiet_builtin _ (by decide +kernel), codeAny_builtin KF.entry_slotset ?_⟩
  unfold Builtin.«proto.slot#set» Slots.target
  repeat lk
  first | refine ite_no' hb ?_ | refine ite_no hb ?_ | rw [if_neg hb]
  refine wpAny_pure (wpAny_bind ?_)
  unfold setSlotAt
  dsimp only
  first | refine ite_no' (by rw [sizeLine_eq]; lia  ) ?_ | refine ite_no (by rw [sizeLine_eq]; lia  ) ?_ | rw [if_neg (by rw [sizeLine_eq]; lia  )]
  exact wpAny_updatePart hx (wpAny_pure h)

theorem Cx.setS (C : Cx H0 A l M sE L m led s) (G : Gl K H0 mg mb) {x c dx : Addr} {sl sl' : List (Option Value)} {name : Str} {i : Nat} {v : Value} {Q : Unit → Shared → Prop} (j : Nat) (hj : led[j]? = some (x, io c dx sl))
    (ck : ClsK K c) (sk : SlotK K c name i) (hM : x ∈ M ∨ sE.heap.get? x = none) (hH : H0.get? x = none) (h : ∀ s', Cx H0 A l M sE L m (led.set j (x, io c dx sl')) s' → Q () s') (he : putS sl i v = sl' := by rfl) : wpAny (model prog w) A (setAttr (.ref x) name v) Q E s := by
  obtain ⟨od, I, hod⟩ := instAt (C.ok j hj)
  obtain ⟨p, h1, h2, h3, h4, h5, h6⟩ := sk.ex
  refine set_plain (C.st.X G) I ck.sa (osa_descr (s := { s with toks := s.toks + 1 }) KF.slot_mset (C.st.X G) I ck.po h4 h5 (slot_store (s := { s with toks := s.toks + 1 }) (C.st.X G) I h6 sk.lt ?_))
  refine h _ ?_
  have := (C.tok 1).upd j (f := fun o => { o with slots := (o.slots ++ Array.replicate (i + 1 - o.slots.size) none).setIfInBounds i (some v) }) hj rfl nd_plain rfl hM hH
  dsimp only at this
  rw [putS_eq, he] at this
  exact this

variable {env : Env}
theorem callWith_any {M : Model} {pos : Pos} {f : Value} {first : List Value} {args : List (Bool × Sem Value)} {keywords : List (Option Str × Sem Value)} {Q : Value → Shared → Prop}
    (h : wpAny M A (evalArgs f true args keywords) (fun a s₁ => (∃ k, Looks M s₁.heap (keeperOf f) k) ∧ wpAny M A (call f (first ++ a.pos) a.kw) Q E s₁) E s) : wpAny M A (callWith pos f first args keywords) Q E s := by
  unfold callWith
  refine wpAny_bind (wpAny_holding (wpAny_mono h (fun a s₁ h₁ => wpAny_bind (wpAny_standAt ?_)) fun _ _ x => x))
  obtain ⟨k, L⟩ := h₁.1
  refine wpAny_bind (L.here ?_)
  have tail : ∀ {t : Sem Value}, wpAny M A t Q E s₁ → wpAny M A (t >>= fun r => holding [r] point >>= fun _ => pure r) Q E s₁ :=
    fun ht => wpAny_bind (wpAny_mono ht (fun r s₂ hr => wpAny_bind (wpAny_holding (wpAny_point (wpAny_pure hr)))) fun _ _ x => x)
  have marked (mk : Value) : wpAny M A (callMarked mk f (first ++ a.pos) a.kw) Q E s₁ := by unfold callMarked; exact Calls.wpAny_keep h₁.2
  cases (args.any (·.1) || keywords.any (·.1.isNone)) <;> cases k <;> dsimp only <;> first | exact tail h₁.2 | exact tail (marked _) | exact tail (wpAny_operate' h₁.2) | (split <;> first | exact tail h₁.2 | exact tail (marked _))
end
end Mine
end
section
set_option maxRecDepth 100000
set_option autoImplicit false
namespace Mine
open PySem PySem.W PySem.Calls PyProof.Rows PySem.Spec

structure Fly (H0 : Heap) (M : List Addr) (s : Shared) (l : List Env) (e : Addr) (cls a0 : Value) (led : List (Addr × Obj)) (s' : Shared) : Prop where
  ex : ∃ B, Heap.FlyingW B l e cls a0 s'.heap ∧ H0.StaysIn B ∧ (∀ b o, s.heap.get? b = some o → b ∉ M → nd o → B.get? b = some o) ∧ (∀ b o, s.heap.get? b = some o → nd o → ∃ o', B.get? b = some o' ∧ nd o') ∧ ∀ p ∈ led, B.get? p.1 = some p.2
  has : ∀ p ∈ led, Okk s'.heap p
  up : ∀ b o es n, s.heap.get? b = some o → o.data = .dict es n → ∃ sl, s'.heap.get? b = some { o with slots := sl }
  toks : s.toks ≤ s'.toks
  gens : AllBare s.gens → AllBare s'.gens
  os : s'.os = s.os
structure Held (H0 : Heap) (M : List Addr) (s : Shared) (l : List Env) (e : Addr) (cls a0 : Value) (L : Addr) (led : List (Addr × Obj)) (s' : Shared) : Prop where
  ex : ∃ B, Heap.HeldW B l e cls a0 L s'.heap ∧ H0.StaysIn B ∧ (∀ b o, s.heap.get? b = some o → b ∉ M → nd o → B.get? b = some o) ∧ (∀ b o, s.heap.get? b = some o → nd o → ∃ o', B.get? b = some o' ∧ nd o') ∧ ∀ p ∈ led, B.get? p.1 = some p.2
  has : ∀ p ∈ led, Okk s'.heap p
  up : ∀ b o es n, s.heap.get? b = some o → o.data = .dict es n → ∃ sl, s'.heap.get? b = some { o with slots := sl }
  toks : s.toks ≤ s'.toks
  gens : AllBare s.gens → AllBare s'.gens
  os : s'.os = s.os

theorem DictAt.slots {h h' : Heap} {dx : Addr} (D : DictAt h dx) (k : h.UpToSlots h') : DictAt h' dx := by
  obtain ⟨o, h1, h2⟩ := D
  obtain ⟨sl, h3⟩ := k dx o h1 (fun vs q => by rw [h2] at q; cases q)
  exact ⟨_, h3, h2⟩
theorem upSlots {h h' : Heap} (k : h.UpToSlots h') {b : Addr} {o : Obj} {es : Array DictEntry} {n : Nat} (e : h.get? b = some o) (hd : o.data = .dict es n) : ∃ sl, h'.get? b = some { o with slots := sl } :=
  k b o e (fun vs q => by rw [hd] at q; cases q)

section
variable {H0 : Heap} {M M' : List Addr} {s sE s' : Shared} {l : List Env} {e : Addr} {cls a0 : Value} {led : List (Addr × Obj)}
theorem Fly.go (F : Fly H0 M s l e cls a0 led s') : Go H0 M s s' := by
  obtain ⟨B, hB, h0, h1, hp, h2⟩ := F.ex
  exact ⟨fun _ b o q => hB.1 _ _ (h0 b o q), fun b o q hm hn => hB.1 _ _ (h1 b o q hm hn), F.up, fun b o q hn => (hp b o q hn).elim fun o' z => ⟨o', hB.1 _ _ z.1, z.2⟩, F.toks, F.gens, F.os⟩
theorem Fly.lift (F : Fly H0 M' s l e cls a0 led s') (G : Go H0 M sE s) (hM : ∀ p ∈ M', p ∈ M ∨ sE.heap.get? p = none) : Fly H0 M sE l e cls a0 led s' := by
  obtain ⟨B, hB, h0, h1, hp, h2⟩ := F.ex
  refine ⟨⟨B, hB, h0, fun b o q hm hn => h1 b o (G.nd b o q hm hn) (fun hp => (hM b hp).elim hm fun z => by rw [z] at q; cases q) hn, fun b o q hn => ?_, h2⟩, F.has, fun b o es n q hd => ?_, Nat.le_trans G.toks F.toks, fun z => F.gens (G.gens z), F.os.trans G.os⟩
  · obtain ⟨o', z, hz⟩ := G.pres b o q hn
    exact hp b o' z hz
  · obtain ⟨sl, h3⟩ := G.up b o es n q hd
    obtain ⟨sl', h4⟩ := F.up b _ es n h3 hd
    exact ⟨sl', h4⟩
theorem Fly.with (F : Fly H0 M s l e cls a0 led s') (led' : List (Addr × Obj)) (h : ∀ p ∈ led', p ∈ led ∨ (Okk s.heap p ∧ p.1 ∉ M)) : Fly H0 M s l e cls a0 led' s' := by
  obtain ⟨B, hB, h0, h1, hp, h2⟩ := F.ex
  refine ⟨⟨B, hB, h0, h1, hp, fun p hp => (h p hp).elim (h2 p) fun ⟨q, r⟩ => h1 _ _ q.at_ r q.nd⟩, fun p hp => (h p hp).elim (F.has p) fun ⟨q, r⟩ => q.go F.go r, F.up, F.toks, F.gens, F.os⟩
end

section
variable {H0 : Heap} {M : List Addr} {s sE s' : Shared} {l : List Env} {env : Env} {e L : Addr} {cls a0 : Value} {led : List (Addr × Obj)} {MM : Model} {A : Around} {E : Value → Shared → Prop} {Q : Unit → Shared → Prop} {m : Str → Option Value}
theorem Fly.leave (F : Fly H0 M s (env :: l) e cls a0 led s') (hfr : A.frames = some (env :: l)) (hf : env.frame = some L) (hQ : ∀ s'', Fly H0 M s l e cls a0 led s'' → Q () s'') : wpAny MM A (leaving env (.ref e)) Q E s' := by
  obtain ⟨B, hB, h0, h1, hp, h2⟩ := F.ex
  refine wpAny_leaves_onW hfr hf hB fun h' x1 x2 => hQ _ ⟨⟨B, x1, h0, h1, hp, h2⟩, fun p hp' => ⟨x1.1 _ _ (h2 p hp'), (F.has p hp').nd, fun dx q => ((F.has p hp').dx dx q).slots x2⟩, fun b o es n q hd => ?_, F.toks, F.gens, F.os⟩
  obtain ⟨sl, h3⟩ := F.up b o es n q hd
  obtain ⟨sl', h4⟩ := upSlots x2 h3 hd
  exact ⟨sl', h4⟩
theorem Held.lands (F : Held H0 M s l e cls a0 L led s') (hQ : ∀ s'', Fly H0 M s l e cls a0 led s'' → Q () s'') : wpAny MM A (setFlight (.ref e) none) Q E s' := by
  obtain ⟨B, hB, h0, h1, hp, h2⟩ := F.ex
  refine wpAny_landsW hB fun h' x1 x2 => hQ _ ⟨⟨B, x1, h0, h1, hp, h2⟩, fun p hp' => ⟨x1.1 _ _ (h2 p hp'), (F.has p hp').nd, fun dx q => ((F.has p hp').dx dx q).slots x2⟩, fun b o es n q hd => ?_, F.toks, F.gens, F.os⟩
  obtain ⟨sl, h3⟩ := F.up b o es n q hd
  obtain ⟨sl', h4⟩ := upSlots x2 h3 hd
  exact ⟨sl', h4⟩

theorem funFrames_of {h B : Heap} : ∀ {l : List Env}, (∀ env ∈ l, env.scope.kind ≠ .module ∧ ∃ L o es n, env.frame = some L ∧ B.get? L = none ∧ h.get? L = some o ∧ o.data = .dict es n) → h.FunFrames B l
  | [], _ => trivial
  | env :: l, hl => by
    obtain ⟨hk, L, o, es, n, h1, h2, h3, h4⟩ := hl env (.head _)
    exact ⟨hk, ⟨L, o, h1, h2, h3, fun vs q => by rw [h4] at q; cases q⟩, funFrames_of fun e he => hl e (.tail _ he)⟩
noncomputable def framesOf (l : List Env) : List Addr := l.filterMap (·.frame)
theorem Cx.base (C : Cx H0 A l M s L m led s') : H0.StaysIn (hideAll s'.heap (framesOf l)) ∧ (∀ b o, s'.heap.get? b = some o → nd o → (hideAll s'.heap (framesOf l)).get? b = some o) ∧ s'.heap.FunFrames (hideAll s'.heap (framesOf l)) l := by
  have fr : ∀ a ∈ framesOf l, H0.get? a = none ∧ ∃ o es n, s'.heap.get? a = some o ∧ o.data = .dict es n := by
    intro a ha
    obtain ⟨env, he, hf⟩ := List.mem_filterMap.mp ha
    obtain ⟨_, L', o, es, n, h1, h2, h3, h4⟩ := C.st.fr env he
    rw [h1] at hf; cases hf
    exact ⟨h2, o, es, n, h3, h4⟩
  refine ⟨fun b o e => hideAll_get _ (C.st.glob b o e) fun hm => ?_, fun b o e hn => hideAll_get _ e fun hm => ?_, funFrames_of fun env he => ?_⟩
  · have := (fr b hm).1; rw [this] at e; cases e
  · obtain ⟨_, o', es, n, h1, h2⟩ := fr b hm
    rw [h1] at e; cases e; exact hn es n h2
  · obtain ⟨hk, L', o, es, n, h1, h2, h3, h4⟩ := C.st.fr env he
    exact ⟨hk, L', o, es, n, h1, hideAll_none _ (List.mem_filterMap.mpr ⟨env, he, h1⟩), h3, h4⟩

theorem Cx.raised (C : Cx H0 A (env :: l) M s L m led s') {h' : Heap} {args : List Value} (hx : Heap.MadeExcOf s'.heap h' e cls args) (hf : env.frame = some L)
    (hQ : ∀ t s'', Fly H0 M s l e cls (.ref t) led s'' → s''.heap.TupAt t args → Q () s'') : wpAny MM A (leaving env (.ref e)) Q E { s' with heap := h' } := by
  obtain ⟨b1, b2, b3⟩ := C.base
  refine wpAny_leaves_madeW (s := { s' with heap := h' }) C.st.frames hf (fun b o q => of_hideAll _ q) b3 hx fun h'' t x1 x2 x3 x4 => hQ t _ ⟨⟨_, x1, b1, fun b o q hm hn => b2 b o (C.go.nd b o q hm hn) hn, fun b o q hn => ?_, fun p hp => b2 _ _ (C.has p hp).at_ (C.has p hp).nd⟩, fun p hp => ⟨x1.1 _ _ (b2 _ _ (C.has p hp).at_ (C.has p hp).nd), (C.has p hp).nd, fun dx q => ?_⟩, fun b o es n q hd => ?_, C.go.toks, C.go.gens, C.go.os⟩ x2
  · obtain ⟨o', z, hz⟩ := C.go.pres b o q hn
    exact ⟨o', b2 _ _ z hz, hz⟩
  · obtain ⟨o, h1, h2⟩ := (C.has p hp).dx dx q
    exact DictAt.slots ⟨o, hx.keeps _ _ h1, h2⟩ x4
  · obtain ⟨sl, h3⟩ := C.go.up b o es n q hd
    obtain ⟨sl', h4⟩ := upSlots x4 (hx.keeps _ _ h3) hd
    exact ⟨sl', h4⟩

theorem Fly.again (F : Fly H0 M s l e cls a0 led s') (hQ : ∀ s'', Fly H0 M s l e cls a0 led s'' → Q () s'') : wpAny MM A (setFlight (.ref e) none) Q E s' := by
  obtain ⟨B, hB, h0, h1, hp, h2⟩ := F.ex
  refine lands_againW hB fun h' x1 x2 => hQ _ ⟨⟨B, x1, h0, h1, hp, h2⟩, fun p hp' => ⟨x1.1 _ _ (h2 p hp'), (F.has p hp').nd, fun dx q => ((F.has p hp').dx dx q).slots x2⟩, fun b o es n q hd => ?_, F.toks, F.gens, F.os⟩
  obtain ⟨sl, h3⟩ := F.up b o es n q hd
  obtain ⟨sl', h4⟩ := upSlots x2 h3 hd
  exact ⟨sl', h4⟩
theorem Fly.typ {X : String} (F : Fly H0 M s l e (.type X) a0 led s') : s'.TypeIs (.ref e) X := by
  obtain ⟨B, hB, _⟩ := F.ex
  obtain ⟨ob, h1, h2⟩ := hB.there
  exact ⟨ob, h1, h2⟩
theorem Cx.around {A' : Around} (C : Cx H0 A l M s L m led s') (h : A'.frames = A.frames) : Cx H0 A' l M s L m led s' := { C with st := C.st.around h }
theorem Cx.noteMade (C : Cx H0 A (env :: l) M s L m led s') {h' : Heap} {args : List Value} (hx : Heap.MadeExcOf s'.heap h' e cls args) (hf : env.frame = some L)
    (hQ : ∀ t s'', Held H0 [] s' (env :: l) e cls (.ref t) L [] s'' → Q () s'') : wpAny MM A (noteFrame (.ref e) env) Q E { s' with heap := h' } := by
  obtain ⟨b1, b2, b3⟩ := C.base
  obtain ⟨t, ht1, ht2, ht3⟩ := hx.there
  have hen : (hideAll s'.heap (framesOf (env :: l))).get? e = none := by
    cases q : (hideAll s'.heap (framesOf (env :: l))).get? e with
    | none => rfl
    | some o => have := of_hideAll _ q; rw [hx.new] at this; cases this
  have hst : (hideAll s'.heap (framesOf (env :: l))).StaysIn h' := fun b o q => hx.keeps b o (of_hideAll _ q)
  unfold noteFrame
  simp only [hf]
  refine wpAny_bind (wpAny_field (s := { s' with heap := h' }) ht1 rfl (x := .none) rfl ?_)
  first | refine ite_no' (by decide) ?_ | refine ite_no (by decide) ?_ | rw [if_neg (by decide)]
  refine wpAny_entryW (s := { s' with heap := h' }) (a0 := .ref t) C.st.frames (b3.of_keeps fun b o hb _ => ⟨o, hx.keeps b o hb, rfl⟩) hf ht1 hst hen rfl (by show 1 < 6; decide) rfl fun h'' hN => ?_
  obtain ⟨k1, k2, k3, k4⟩ := hN
  refine hQ t _ ⟨⟨_, ⟨k1, hen, k2, k3⟩, b1, fun b o q _ hn => b2 b o q hn, fun b o q hn => ⟨o, b2 b o q hn, hn⟩, fun p hp => nomatch hp⟩, fun p hp => (nomatch hp), fun b o es n q hd => ?_, Nat.le_refl _, fun h => h, rfl⟩
  exact k4 b o (hx.keeps _ _ q) (fun vs z => by rw [hd] at z; cases z)
end
end Mine
end
section
set_option maxRecDepth 100000
set_option autoImplicit false
namespace Mine
open PySem PySem.W PySem.Calls PyProof.Rows PySem.Spec

noncomputable abbrev itO (l : Addr) (i : Nat) : Obj := { cls := .type "list_iterator", data := .fields #[.ref l, .int i 0] }
noncomputable abbrev itE (i : Nat) : Obj := { cls := .type "list_iterator", data := .fields #[.none, .int i 0] }

theorem entry_next : entryFor table "next" = some Builtin.«next» := entryFor_of_fast (by kernel_rfl)
theorem args_next (v : Value) : argsOk "next" ⟨[v], []⟩ := by unfold argsOk; kernel_rfl

section
variable {prog : Program} {w : World} {A : Around} {E : Value → Shared → Prop} {s : Shared}
theorem next_item {it l : Addr} {i : Nat} {ol : Obj} {vs : List Value} {n : Nat} {x : Value} {Q : Value → Shared → Prop} (hit : s.heap.get? it = some (itO l i)) (hl : s.heap.get? l = some ol) (hd : ol.data = .seq vs.toArray n) (hx : vs[i]? = some x)
    (hQ : Q x { s with heap := s.heap.update it (Obj.mapFields (·.setIfInBounds 1 (rawInt ((i : Int) + 1)))) }) : wpAny (model prog w) A (call (.builtin "next") [.ref it]) Q E s := by
  have hT : s.TypeIs (.ref it) "list_iterator" := ⟨_, hit, rfl⟩
  refine call_function_entry (by decide +kernel) (by decide +kernel) entry_next (args_next _) ?_
  unfold Builtin.«next»
  refine wpAny_bind (m := someArgs "next" 1 2 _) (wpAny_of_eq (a := [Value.ref it]) (by first | rfl | kernel_rfl!) ?_)
  dsimp only
  refine wpAny_bind (wpAny_specialOf (name := Str.ofString "__next__") hT slot_listiter_next.lookup ?_)
  refine wpAny_ite_split (fun hab => absurd hab (by decide)) (fun _ => ?_)
  refine wpAny_bind (wpAny_callSpecial?_slot (name := Str.ofString "__next__") hT slot_listiter_next (wpAny_call_entry slot_listiter_next hT entry_listiter_next ?_ (args_listiter_next _)))
  show wpAny _ _ (field (.ref it) 0 >>= _) _ _ s
  refine wpAny_bind (wpAny_field hit rfl (x := .ref l) rfl ?_)
  show wpAny _ _ (if (Value.ref l == Value.none) = true then _ else _) _ _ s
  first | refine ite_no' rfl ?_ | refine ite_no (show ¬ ((Value.ref l == Value.none) = true) from Bool.false_ne_true) ?_ | rw [if_neg (show ¬ ((Value.ref l == Value.none) = true) from Bool.false_ne_true)]
  show wpAny _ _ (field (.ref it) 1 >>= _) _ _ s
  refine wpAny_bind (wpAny_field hit rfl (x := .int i 0) rfl ?_)
  show wpAny _ _ (seqItems? (.ref l) >>= _) _ _ s
  refine wpAny_bind (wpAny_seqItems hl hd ?_)
  simp only [Int.toNat_natCast, List.getElem?_toArray, hx]
  refine wpAny_bind (wpAny_setField hit rfl (by simp) (wpAny_pure ⟨x, rfl, wpAny_pure ⟨_, rfl, hQ⟩⟩))

theorem newExc_stop {M : Model} {Q : Value → Shared → Prop} (h : ∀ h' e, Heap.MadeExc s.heap h' e "StopIteration" [] → Q (.ref e) { s with heap := h' }) : wpAny M A (newExc (.type "StopIteration") []) Q E s := by
  unfold newExc newTuple
  refine wpAny_bind (wpAny_newObj_type ?_ (by size_fits))
  refine wpAny_bind (m := firstArgMember _ _) (wpAny_of_eq (a := Value.none) (by first | rfl | (simp only [firstArgMember]; rfl)) ?_)
  refine wpAny_newObj_type (h _ _ ⟨fun b o hb => Heap.get?_push_of_some _ (Heap.get?_push_of_some _ hb), Heap.get?_none_of_le (by simp), s.heap.objs.size, ?_, Heap.get?_none_of_le (Nat.le_refl _), ?_⟩) (by size_fits)
  · exact Heap.get?_push_size _ rfl
  · exact Heap.get?_push_of_some _ (Heap.get?_push_size _ rfl)
theorem next_end {it l : Addr} {i : Nat} {ol : Obj} {vs : List Value} {n : Nat} {Q : Value → Shared → Prop} (hh : A.handled = none) (hit : s.heap.get? it = some (itO l i)) (hl : s.heap.get? l = some ol) (hd : ol.data = .seq vs.toArray n) (hx : vs[i]? = none)
    (hE : ∀ h' e, Heap.MadeExc (s.heap.update it (Obj.mapFields (·.setIfInBounds 0 .none))) h' e "StopIteration" [] → E (.ref e) { s with heap := h' }) : wpAny (model prog w) A (call (.builtin "next") [.ref it]) Q E s := by
  have hT : s.TypeIs (.ref it) "list_iterator" := ⟨_, hit, rfl⟩
  refine call_function_entry (by decide +kernel) (by decide +kernel) entry_next (args_next _) ?_
  unfold Builtin.«next»
  refine wpAny_bind (m := someArgs "next" 1 2 _) (wpAny_of_eq (a := [Value.ref it]) (by first | rfl | kernel_rfl!) ?_)
  dsimp only
  refine wpAny_bind (wpAny_specialOf (name := Str.ofString "__next__") hT slot_listiter_next.lookup ?_)
  refine wpAny_ite_split (fun hab => absurd hab (by decide)) (fun _ => ?_)
  refine wpAny_bind (wpAny_callSpecial?_slot (name := Str.ofString "__next__") hT slot_listiter_next (wpAny_call_entry slot_listiter_next hT entry_listiter_next ?_ (args_listiter_next _)))
  show wpAny _ _ (field (.ref it) 0 >>= _) _ _ s
  refine wpAny_bind (wpAny_field hit rfl (x := .ref l) rfl ?_)
  show wpAny _ _ (if (Value.ref l == Value.none) = true then _ else _) _ _ s
  first | refine ite_no' rfl ?_ | refine ite_no (show ¬ ((Value.ref l == Value.none) = true) from Bool.false_ne_true) ?_ | rw [if_neg (show ¬ ((Value.ref l == Value.none) = true) from Bool.false_ne_true)]
  show wpAny _ _ (field (.ref it) 1 >>= _) _ _ s
  refine wpAny_bind (wpAny_field hit rfl (x := .int i 0) rfl ?_)
  show wpAny _ _ (seqItems? (.ref l) >>= _) _ _ s
  refine wpAny_bind (wpAny_seqItems hl hd ?_)
  simp only [Int.toNat_natCast, List.getElem?_toArray, hx]
  refine wpAny_bind (wpAny_rule (wpAny_bind (wpAny_setField hit rfl (by simp) ?_)))
  show wpAny _ _ (newExc (.type "StopIteration") [] >>= _) _ _ _
  refine wpAny_bind (newExc_stop (fun h' e hm => ?_))
  simp only [raiseNew]
  refine wpAny_bind (wpAny_handled ?_)
  rw [show A.in1.in1.handled = none from hh]
  exact wpAny_bind (wpAny_pure (wpAny_throw (hE _ _ hm)))
end
end Mine
end
section
set_option maxRecDepth 100000
set_option autoImplicit false
set_option genInjectivity false
set_option genSizeOf false
namespace Mine
open PySem PySem.W PySem.Calls PyProof.Rows PySem.Spec

structure Adr where
  pull : Addr
  same : Addr
  gb : Addr
  gbInit : Addr
  gbIter : Addr
  gbStep : Addr
  gbNext : Addr
  gr : Addr
  grInit : Addr
  grIter : Addr
  grNext : Addr
  kind : Addr
  ct : Addr
  ctInit : Addr
  ctIter : Addr
  ctNext : Addr
  ig : Addr
  igInit : Addr
  igCall : Addr
  rank : Addr
  gbD : Addr
  ctD : Addr
  rankK : Addr

noncomputable def DfK (K : Frag) (d : Addr) (vs : List Value) : Prop := ∃ o n, K.lookup d = some o ∧ o.data = .seq vs.toArray n

structure KF (K : Frag) (a : Adr) : Prop where
  pull : FnK K a.pull "_pull" dPull .none .none
  same : FnK K a.same "_same" dSame .none .none
  kind : FnK K a.kind "_count_kind" dKind .none .none
  gbInit : FnK K a.gbInit "groupby.__init__" dGbInit (.ref a.gbD) .none
  gbIter : FnK K a.gbIter "groupby.__iter__" dGbIter .none .none
  gbStep : FnK K a.gbStep "groupby._step" dGbStep .none .none
  gbNext : FnK K a.gbNext "groupby.__next__" dGbNext .none .none
  grInit : FnK K a.grInit "_grouper.__init__" dGrInit .none .none
  grIter : FnK K a.grIter "_grouper.__iter__" dGrIter .none .none
  grNext : FnK K a.grNext "_grouper.__next__" dGrNext .none .none
  ctInit : FnK K a.ctInit "count.__init__" dCtInit (.ref a.ctD) .none
  ctIter : FnK K a.ctIter "count.__iter__" dCtIter .none .none
  ctNext : FnK K a.ctNext "count.__next__" dCtNext .none .none
  igInit : FnK K a.igInit "itemgetter.__init__" dIgInit .none .none
  igCall : FnK K a.igCall "itemgetter.__call__" dIgCall .none .none
  rank : FnK K a.rank "_rank" dRank .none (.ref a.rankK)
  gbD : DfK K a.gbD [.none]
  ctD : ∃ t u, DfK K a.ctD [.int 0 t, .int 1 u]
  gb : ClsK K a.gb
  gr : ClsK K a.gr
  ct : ClsK K a.ct
  ig : ClsK K a.ig
  gb0 : SlotK K a.gb "_currgrouper" 0
  gb1 : SlotK K a.gb "_currkey" 1
  gb2 : SlotK K a.gb "_currvalue" 2
  gb3 : SlotK K a.gb "_has_currkey" 3
  gb4 : SlotK K a.gb "_has_currvalue" 4
  gb5 : SlotK K a.gb "_has_tgtkey" 5
  gb6 : SlotK K a.gb "_it" 6
  gb7 : SlotK K a.gb "_keyfunc" 7
  gb8 : SlotK K a.gb "_serial" 8
  gb9 : SlotK K a.gb "_tgtkey" 9
  gr0 : SlotK K a.gr "_number" 0
  gr1 : SlotK K a.gr "_parent" 1
  gr2 : SlotK K a.gr "_tgtkey" 2
  ct0 : SlotK K a.ct "_cnt" 0
  ct1 : SlotK K a.ct "_fast" 1
  ct2 : SlotK K a.ct "_step" 2
  ig0 : SlotK K a.ig "_items" 0
  mgbI : MethK K a.gb "__init__" a.gbInit
  mgbT : MethK K a.gb "__iter__" a.gbIter
  mgbS : MethK K a.gb "_step" a.gbStep
  mgbN : MethK K a.gb "__next__" a.gbNext
  mgrI : MethK K a.gr "__init__" a.grInit
  mgrT : MethK K a.gr "__iter__" a.grIter
  mgrN : MethK K a.gr "__next__" a.grNext
  mctI : MethK K a.ct "__init__" a.ctInit
  mctT : MethK K a.ct "__iter__" a.ctIter
  mctN : MethK K a.ct "__next__" a.ctNext
  migI : MethK K a.ig "__init__" a.igInit
  migC : MethK K a.ig "__call__" a.igCall
  npull : nsIn K mainGlobals "_pull" = some (some (.ref a.pull))
  nsame : nsIn K mainGlobals "_same" = some (some (.ref a.same))
  nkind : nsIn K mainGlobals "_count_kind" = some (some (.ref a.kind))
  ngb : nsIn K mainGlobals "groupby" = some (some (.ref a.gb))
  ngr : nsIn K mainGlobals "_grouper" = some (some (.ref a.gr))
  nct : nsIn K mainGlobals "count" = some (some (.ref a.ct))
  nig : nsIn K mainGlobals "itemgetter" = some (some (.ref a.ig))
  nmax : ∃ t, nsIn K mainGlobals "_MAXSIZE" = some (some (.int 9223372036854775807 t))
  kpull : keepIn K (.ref a.pull) = true
  ksame : keepIn K (.ref a.same) = true
  kkind : keepIn K (.ref a.kind) = true
  kgb : keepIn K (.ref a.gb) = true
  kgr : keepIn K (.ref a.gr) = true
  kct : keepIn K (.ref a.ct) = true
  kig : keepIn K (.ref a.ig) = true
  nnext : nsIn K mainGlobals "next" = some none
  nstop : nsIn K mainGlobals "StopIteration" = some none
  niter : nsIn K mainGlobals "iter" = some none
  ntype : nsIn K mainGlobals "type" = some none
  nlen : nsIn K mainGlobals "len" = some none
  nint : nsIn K mainGlobals "int" = some none
  nbool : nsIn K mainGlobals "bool" = some none
  nfloat : nsIn K mainGlobals "float" = some none
  nsorted : nsIn K mainGlobals "sorted" = some none
  nzip : nsIn K mainGlobals "zip" = some none
  nmap : nsIn K mainGlobals "map" = some none
  nlist : nsIn K mainGlobals "list" = some none
  nve : nsIn K mainGlobals "ValueError" = some none
  dkey : nsIn K a.rankK "key" = some (some .none)
  drev : nsIn K a.rankK "reverse" = some (some (.bool false))
  dties : ∃ t, nsIn K a.rankK "ties" = some (some (.str "average" t))
  dstart : ∃ t, nsIn K a.rankK "start" = some (some (.int 1 t))
  grLen : findIn K (.ref a.gr) "__len__" = some none
  grHint : findIn K (.ref a.gr) "__length_hint__" = some none

section
variable {K : Frag} {a : Adr} {H0 : Heap} {mg mb : Str → Option Value} {A : Around} {l : List Env} {M : List Addr} {sE : Shared} {L f : Addr} {m : Str → Option Value} {led : List (Addr × Obj)} {s : Shared} {prog : Program} {w : World} {E : Value → Shared → Prop}
variable {cn : Str} {cs : Scope} {cdv : Value}

inductive MadeP (o : Obj) (n : Nat) (Q : Value → Shared → Prop) (s' : Shared) : Prop
  | mk (H0 : Heap) (A : Around) (l : List Env) (M : List Addr) (sE : Shared) (L : Addr) (m : Str → Option Value) (led : List (Addr × Obj)) (C : Cx H0 A l M sE L m led s') (hz : n ≤ sizeLine)
    (h : ∀ t s'', Cx H0 A l M sE L m ((t, o) :: led) s'' → Nw H0 sE t → s'.heap.get? t = none → Q (.ref t) s'') : MadeP o n Q s'
noncomputable abbrev qTup (Q : Value → Shared → Prop) : List Value → Shared → Prop := fun vs s' => MadeP (tupO vs) vs.length Q s'
noncomputable abbrev qLst (Q : Value → Shared → Prop) : List Value → Shared → Prop := fun vs s' => MadeP (lstO vs) vs.length Q s'
theorem tup_made {k : Nat} {pos : Pos} {elts : List Expr} {env : Env} {Q : Value → Shared → Prop} (h : wpAny (model prog w) A (spliced (backTo pos (starEach elts env))) (qTup Q) E s) : wpAny (model prog w) A (eval (.Tuple elts k pos) env) Q E s :=
  wpAny_Tuple (wpAny_mono h (fun vs s' h => by obtain ⟨H0, A, l, M, sE, L, m, led, C, hz, h⟩ := h; exact ⟨hz, h _ _ (C.push _ rfl nd_seq rfl) (C.noE not_at) not_at⟩) fun _ _ z => z)
theorem lst_made {pos : Pos} {elts : List Expr} {env : Env} {Q : Value → Shared → Prop} (h : wpAny (model prog w) A (spliced (backTo pos (starEach elts env))) (qLst Q) E s) : wpAny (model prog w) A (eval (.List elts pos) env) Q E s :=
  wpAny_List (wpAny_mono h (fun vs s' h => by obtain ⟨H0, A, l, M, sE, L, m, led, C, hz, h⟩ := h; exact ⟨hz, h _ _ (C.push _ rfl nd_seq rfl) (C.noE not_at) not_at⟩) fun _ _ z => z)

theorem Cx.unpack2 (C : Cx H0 A l M sE L m led s) {x y : Str} {p1 p2 pos : Pos} {k : Nat} {t : Addr} {u v : Value} {Q : Unit → Shared → Prop} (j : Nat) (hj : led[j]? = some (t, tupO [u, v])) (hh : A.handled = none)
    (h : ∀ s', Cx H0 A l M sE L (updM (updM m x u) y v) led s' → Q () s')
    (hx : cs.names.lookup x = some .local := by rfl) (hy : cs.names.lookup y = some .local := by rfl)
    (hp : (cs.kind == .class || (cs.kind == .module && L != mainGlobals)) = false := by rfl) :
    wpAny (model prog w) A (assign (.Tuple [.Name x p1, .Name y p2] k pos) (envOf cn cs L f cdv) (.ref t)) Q E s := by
  refine assign_Tuple_tuple hh ⟨_, C.at j hj, rfl, 0, rfl⟩ rfl rfl fun h' he => ?_
  have C1 := C.ext (s' := { s with heap := h' }) (fun b o e => he b o (fun q => by rw [q, not_at] at e; cases e) e) (Nat.le_refl _) rfl rfl
  have one : ∀ {x : Str} {p : Pos} {v : Value} {Q : Unit → Shared → Prop} {s : Shared}, wpAny (model prog w) A (storeName (envOf cn cs L f cdv) x v) Q E s → wpAny (model prog w) A (assign (.Name x p) (envOf cn cs L f cdv) v) Q E s := fun h => PyProof.Rows.assign_Name h
  show wpAny _ _ (assignInOrder [assign (.Name x p1) (envOf cn cs L f cdv), assign (.Name y p2) (envOf cn cs L f cdv)] [u, v]) _ _ _
  refine wpAny_assignInOrder_more (one (C1.set (fun s1 C2 => ?_) hx hp))
  refine wpAny_assignInOrder_more (one (C2.set (fun s2 C3 => ?_) hy hp))
  exact wpAny_assignInOrder_none (h _ C3)

theorem Cx.attr (C : Cx H0 A l M sE L m led s) (G : Gl K H0 mg mb) {nm name : Str} {np pos : Pos} {x c dx : Addr} {sl : List (Option Value)} {i : Nat} {v : Value} {Q : Value → Shared → Prop} (j : Nat) (hj : led[j]? = some (x, io c dx sl))
    (hm : m nm = some (.ref x)) (ck : ClsK K c) (sk : SlotK K c name i) (hv : sl[i]? = some (some v)) (hd : handedIn v = true) (h : ∀ s', Cx H0 A l M sE L m led s' → Q v s')
    (hk : cs.kind = .function := by rfl) (hl : cs.names.lookup nm = some .local := by rfl) (hdb : (nm == ("__debug__" : Str)) = false := by decide) :
    wpAny (model prog w) A (eval (.Attribute (.Name nm np) name pos) (envOf cn cs L f cdv)) Q E s :=
  Attribute_Name_ (C.name hm (C.getS G j hj ck sk hv hd h) hk hl hdb)
theorem Cx.setA (C : Cx H0 A l M sE L m led s) (G : Gl K H0 mg mb) {nm name : Str} {np : Pos} {x c dx : Addr} {sl sl' : List (Option Value)} {i : Nat} {v : Value} {Q : Unit → Shared → Prop} (j : Nat) (hj : led[j]? = some (x, io c dx sl))
    (hm : m nm = some (.ref x)) (ck : ClsK K c) (sk : SlotK K c name i) (hM : x ∈ M ∨ sE.heap.get? x = none) (hH : H0.get? x = none) (h : ∀ s', Cx H0 A l M sE L m (led.set j (x, io c dx sl')) s' → Q () s') (he : putS sl i v = sl' := by rfl)
    (hk : cs.kind = .function := by rfl) (hl : cs.names.lookup nm = some .local := by rfl) (hdb : (nm == ("__debug__" : Str)) = false := by decide) :
    wpAny (model prog w) A (eval (.Name nm np) (envOf cn cs L f cdv)) (fun ov s2 => wpAny (model prog w) A (setAttr ov name v) Q E s2) E s :=
  C.name hm (C.setS G j hj ck sk hM hH h he) hk hl hdb
theorem Cx.meth (C : Cx H0 A l M sE L m led s) (G : Gl K H0 mg mb) {name : Str} {x c dx g : Addr} {sl : List (Option Value)} {pl : Sem Bool} {Q : Value × List Value → Shared → Prop} (j : Nat) (hj : led[j]? = some (x, io c dx sl))
    (ck : ClsK K c) (mk : MethK K c name g) (h : Q (.ref g, [.ref x]) s) : wpAny (model prog w) A (getMethod (.ref x) name pl) Q E s := by
  obtain ⟨od, I, hod⟩ := instAt (C.ok j hj)
  exact method_fn (C.st.X G) I ck.ga ck.gt mk.fi mk.ft (noShadow hod _) h
end
end Mine
end
section
set_option maxRecDepth 100000
set_option autoImplicit false
namespace Mine
open PySem PySem.W PySem.Calls PyProof.Rows PySem.Spec
section
variable {K : Frag} {a : Adr} {H0 : Heap} {mg mb : Str → Option Value} {A : Around} {l : List Env} {s : Shared} {prog : Program} {w : World} {E : Value → Shared → Prop}

theorem okk_it {h : Heap} {it lst : Addr} {i : Nat} (e : h.get? it = some (itO lst i)) : Okk h (it, itO lst i) := .of e nd_fields rfl
theorem okk_lst {h : Heap} {x : Addr} {vs : List Value} {ep : Nat} (e : h.get? x = some (lstO vs ep)) : Okk h (x, lstO vs ep) := .of e nd_seq rfl
theorem okk_tup {h : Heap} {x : Addr} {vs : List Value} (e : h.get? x = some (tupO vs)) : Okk h (x, tupO vs) := .of e nd_seq rfl

theorem ne_cls {h : Heap} {x y : Addr} {o o' : Obj} (e : h.get? x = some o) (e' : h.get? y = some o') (hc : o.cls ≠ o'.cls) : x ≠ y := fun q => hc (by rw [q, e'] at e; cases e; rfl)
theorem ne_nd {h : Heap} {x y : Addr} {o : Obj} (e : h.get? x = some o) (e' : h.get? y = none) : x ≠ y := fun q => by rw [q, e'] at e; cases e

theorem pull_more (G : Gl K H0 mg mb) (F : KF K a) (S : St H0 A l s) {it lst : Addr} {i : Nat} {vs : List Value} {ep : Nat} {x : Value} (hit : s.heap.get? it = some (itO lst i)) (hH : H0.get? it = none) (hl : s.heap.get? lst = some (lstO vs ep)) (hx : vs[i]? = some x)
    (hroom : A.depth < recursionLimit) (hh : A.handled = none) {Q : Value → Shared → Prop}
    (k : ∀ t s', Go H0 [it] s s' → s'.heap.get? it = some (itO lst (i + 1)) → s'.heap.get? t = some (tupO [.bool true, x]) → s.heap.get? t = none → Q (.ref t) s') : wpAny (model prog w) A (call (.ref a.pull) [.ref it]) Q E s := by
  have hne : it ≠ lst := ne_cls hit hl (by show Value.type "list_iterator" ≠ .type "list"; decide)
  refine wpAny_call (enterF (binds := [(Str.ofString "it", .ref it)]) G S F.pull [it] [(it, itO lst i), (lst, lstO vs ep)] (fun p hp => ?_) (by simp [hne]) hroom (fun _ _ _ _ _ _ => BindsTo.of_eq rfl) (by decide) (locs rfl) fun L cdv s1 _ C => ?_)
  · rcases List.mem_cons.mp hp with rfl | hp
    · exact okk_it hit
    · rw [List.mem_singleton.mp hp]; exact okk_lst hl
  refine wpAny_execs_cons (wpAny_Try_except (wpAny_execs_cons (wpAny_Return_some (tup_made (args_cons (wpAny_Constant_bool (args_cons ?_)))))))
  refine Call_ (C.boot G F.nnext Boot.«next» ?_)
  refine callWith_builtin1 (args_cons (C.name rfl (args_nil ?_)))
  refine next_item (C.at 0 rfl) (C.at 1 rfl) rfl hx ?_
  have C2 := C.upd 0 (f := Obj.mapFields (·.setIfInBounds 1 (rawInt ((i : Int) + 1)))) rfl rfl nd_fields rfl (.inl (.head _)) hH
  refine args_nil ⟨_, _, _, _, _, _, _, _, C2, by simp [sizeLine_eq], fun t s2 C3 n1 n2 => ?_⟩
  refine k t _ C3.go ?_ (C3.at 0 rfl) n1.e
  exact C3.at 1 rfl

theorem pull_end (G : Gl K H0 mg mb) (F : KF K a) (S : St H0 A l s) {it lst : Addr} {i : Nat} {vs : List Value} {ep : Nat} (hit : s.heap.get? it = some (itO lst i)) (hH : H0.get? it = none) (hl : s.heap.get? lst = some (lstO vs ep)) (hx : vs[i]? = none)
    (hroom : A.depth < recursionLimit) (hh : A.handled = none) {Q : Value → Shared → Prop}
    (k : ∀ t s', Go H0 [it] s s' → s'.heap.get? it = some (itE i) → s'.heap.get? t = some (tupO [.bool false, .none]) → s.heap.get? t = none → Q (.ref t) s') : wpAny (model prog w) A (call (.ref a.pull) [.ref it]) Q E s := by
  have hne : it ≠ lst := ne_cls hit hl (by show Value.type "list_iterator" ≠ .type "list"; decide)
  refine wpAny_call (enterF (binds := [(Str.ofString "it", .ref it)]) G S F.pull [it] [(it, itO lst i), (lst, lstO vs ep)] (fun p hp => ?_) (by simp [hne]) hroom (fun _ _ _ _ _ _ => BindsTo.of_eq rfl) (by decide) (locs rfl) fun L cdv s1 _ C => ?_)
  · rcases List.mem_cons.mp hp with rfl | hp
    · exact okk_it hit
    · rw [List.mem_singleton.mp hp]; exact okk_lst hl
  refine wpAny_execs_cons (wpAny_Try_except (wpAny_execs_cons (wpAny_Return_some (tup_made (args_cons (wpAny_Constant_bool (args_cons ?_)))))))
  refine Call_ (C.boot G F.nnext Boot.«next» ?_)
  refine callWith_builtin1 (args_cons (C.name rfl (args_nil ?_)))
  refine next_end hh (C.at 0 rfl) (C.at 1 rfl) rfl hx fun h' e hm => ?_
  have C2 := C.upd 0 (f := Obj.mapFields (·.setIfInBounds 0 .none)) rfl rfl nd_fields rfl (.inl (.head _)) hH
  refine C2.noteMade (cls := .type "StopIteration") ⟨hm.keeps, hm.new, hm.there⟩ rfl fun t s2 hd => ?_
  refine hd.lands fun s3 F3 => ?_
  have C3 := (C2.call F3.go).around (A' := (A.deeper (envOf "_pull" dPull.2.2 L a.pull cdv)).mark (some (.ref e))) rfl
  refine wpAny_handleBy_builtin (X := "StopIteration") (T := "StopIteration") (b := true) owsi_raise.isExc (by rw [isSubtype_type]; kernel_rfl) owsi_facts.sub ?_
  refine C3.boot G F.nstop Boot.«StopIteration» ⟨rfl, F3.typ, ?_⟩
  first | refine ite_yes' rfl ?_ | refine ite_yes rfl ?_ | rw [if_pos rfl]
  refine F3.again fun s4 F4 => ?_
  have C4 := (C2.call F4.go).around (A' := (A.deeper (envOf "_pull" dPull.2.2 L a.pull cdv)).mark (some (.ref e))) rfl
  refine wpAny_execs_cons (wpAny_Return_some (tup_made (args_cons (wpAny_Constant_bool (args_cons (wpAny_Constant_none (args_nil ⟨_, _, _, _, _, _, _, _, C4, by simp [sizeLine_eq], fun t s2 C5 n1 n2 => ?_⟩)))))))
  refine k t _ C5.go ?_ (C5.at 0 rfl) n1.e
  exact C5.at 1 rfl
end
end Mine
end
section
set_option maxRecDepth 100000
set_option autoImplicit false
namespace Mine
open PySem PySem.W PySem.Calls PyProof.Rows PySem.Spec

section
variable {H0 : Heap} {A : Around} {l : List Env} {s : Shared} {prog : Program} {w : World}
theorem enterX {R : Result → Shared → Prop} {f : Addr} {o : Obj} {fd : FuncData} {body : List Stmt} {args : Args} (S : St H0 A l s) (M : List Addr)
    (hroom : A.depth < recursionLimit) (ho : s.heap.get? f = some o) (hdata : o.data = .func fd) (hlim : s.heap.NoLimit) (hcd : s.heap.CodeRec fd.code fd.qualname)
    (hbody : fd.body = .stmts body) (hcell : ∀ x ∈ fd.scope.names, x.2 ≠ .cell)
    (hbind : ∀ E', wpAny (model prog w) A.in1 (bindArgs fd args) (fun binds s₁ => (∀ b o, s.heap.get? b = some o → s₁.heap.get? b = some o) ∧ s.toks ≤ s₁.toks ∧ s₁.gens = s.gens ∧ s₁.os = s.os ∧
      (∀ x ∈ binds, fd.scope.names.lookup x.1 = some .local) ∧ ∃ led, (∀ p ∈ led, Okk s₁.heap p) ∧ (led.map (·.1)).Nodup ∧
      ∀ L s', Cx H0 (A.deeper (callEnv fd L f)) (callEnv fd L f :: l) M s L (fun x => binds.reverse.lookup x) led s' →
      wpAny (model prog w) (A.deeper (callEnv fd L f)) (execs body (callEnv fd L f)) (qRet R)
        (eOut prog w (A.deeper (callEnv fd L f)) (callEnv fd L f) R) s') E' s)
    (hco : fd.scope.isCoroutine = false := by rfl) (hgen : fd.scope.isGenerator = false := by rfl) (hk : fd.scope.kind = .function := by rfl) :
    codeAny (model prog w) A (.call (.ref f) args) R s := by
  refine codeAny_call_function hroom ho hdata hco hgen hbody hcd (wpAny_mono (hbind _) (fun binds s₁ ⟨k1, k2, k3, k4, hloc, led, hled, hnod, h⟩ => ?_) fun _ _ z => z)
  refine wpAny_newFunctionEnv hcell hloc (fun h₀ hns hsb₀ => ⟨(hlim.keeps k1).fresh _ hsb₀, codeAny_func ?_⟩) hk
  have hk₀ : ∀ b o, s₁.heap.get? b = some o → h₀.get? b = some o := fun b o e => hsb₀.extBut b o (Nat.ne_of_lt (Heap.lt_size e)) (Heap.get?_push_of_some _ e)
  have hH : H0.get? s₁.heap.objs.size = none := by
    cases q : H0.get? s₁.heap.objs.size with
    | none => rfl
    | some o => exact absurd (Heap.lt_size (k1 _ _ (S.glob _ _ q))) (Nat.lt_irrefl _)
  have hE : s.heap.get? s₁.heap.objs.size = none := by
    cases q : s.heap.get? s₁.heap.objs.size with
    | none => rfl
    | some o => exact absurd (Heap.lt_size (k1 _ _ q)) (Nat.lt_irrefl _)
  refine h _ _ ⟨⟨fun b o e => hk₀ b o (k1 _ _ (S.glob b o e)), by show (Around.deeper A _).frames = _; unfold Around.deeper; rw [S.frames]; rfl, fun env he => ?_, Nat.lt_of_lt_of_le S.toks (Nat.le_trans k2 (Nat.le_add_right _ _))⟩,
    Go.ext (s := s) (s' := { s₁ with heap := h₀, toks := s₁.toks + binds.length }) (fun b o e => hk₀ _ _ (k1 _ _ e)) (Nat.le_trans k2 (Nat.le_add_right _ _)) k3 k4 _, hns, hE, hH, fun p hp => ⟨hk₀ _ _ (hled p hp).at_, (hled p hp).nd, fun dx e => ?_⟩, fun p hp q => ?_, hnod⟩
  · rcases List.mem_cons.mp he with rfl | he
    · obtain ⟨oL, es, n, h1, h2⟩ := ns_dict hns
      exact ⟨by show fd.scope.kind ≠ _; rw [hk]; decide, _, oL, es, n, rfl, hH, h1, h2⟩
    · obtain ⟨hk', L', o', es, n, h1, h2, h3, h4⟩ := S.fr env he
      exact ⟨hk', L', o', es, n, h1, h2, hk₀ _ _ (k1 _ _ h3), h4⟩
  · obtain ⟨o, h1, h2⟩ := (hled p hp).dx dx e
    exact ⟨o, hk₀ _ _ h1, h2⟩
  · obtain ⟨o, h1, h2⟩ := (hled p hp).dx _ q
    rw [not_at] at h1; cases h1
end

section
variable {K : Frag} {a : Adr} {H0 : Heap} {mg mb : Str → Option Value} {A : Around} {l : List Env} {M : List Addr} {sE : Shared} {L f : Addr} {m : Str → Option Value} {led : List (Addr × Obj)} {s : Shared} {prog : Program} {w : World} {E : Value → Shared → Prop}

theorem enterFX {R : Result → Shared → Prop} {f : Addr} {qual : Str} {d : Arguments × List Stmt × Scope} {dV kV : Value} {args : Args} (G : Gl K H0 mg mb) (S : St H0 A l s) (fk : FnK K f qual d dV kV) (M : List Addr)
    (hroom : A.depth < recursionLimit) (hcell : ∀ x ∈ d.2.2.names, x.2 ≠ .cell)
    (hbind : ∀ name doc pm an cdv ct E', wpAny (model prog w) A.in1 (bindArgs (fnOf name qual d.1 d.2.1 d.2.2 dV kV doc pm an cdv ct) args) (fun binds s₁ => (∀ b o, s.heap.get? b = some o → s₁.heap.get? b = some o) ∧ s.toks ≤ s₁.toks ∧ s₁.gens = s.gens ∧ s₁.os = s.os ∧
      (∀ x ∈ binds, d.2.2.names.lookup x.1 = some .local) ∧ ∃ led, (∀ p ∈ led, Okk s₁.heap p) ∧ (led.map (·.1)).Nodup ∧
      ∀ L cdv s', Cx H0 (A.deeper (envOf qual d.2.2 L f cdv)) (envOf qual d.2.2 L f cdv :: l) M s L (fun x => binds.reverse.lookup x) led s' →
      wpAny (model prog w) (A.deeper (envOf qual d.2.2 L f cdv)) (execs d.2.1 (envOf qual d.2.2 L f cdv)) (qRet R)
        (eOut prog w (A.deeper (envOf qual d.2.2 L f cdv)) (envOf qual d.2.2 L f cdv) R) s') E' s)
    (hco : d.2.2.isCoroutine = false := by rfl) (hgen : d.2.2.isGenerator = false := by rfl) (hk : d.2.2.kind = .function := by rfl) :
    codeAny (model prog w) A (.call (.ref f) args) R s := by
  obtain ⟨name, doc, pm, an, cdv, ct, oc, od, osl, ho, hcd⟩ := fk.ex
  exact enterX (fd := fnOf name qual d.1 d.2.1 d.2.2 dV kV doc pm an cdv ct) S M hroom (S.X G _ _ ho) rfl (S.lim G) (codeRec_of (S.X G) hcd) rfl hcell
    (fun E' => wpAny_mono (hbind _ _ _ _ _ _ E') (fun binds s₁ ⟨k1, k2, k3, k4, hloc, led, hled, hnod, h⟩ => ⟨k1, k2, k3, k4, hloc, led, hled, hnod, fun L s' C => h L cdv s' C⟩) fun _ _ z => z) hco hgen hk

theorem St.make (S : St H0 A l s) (G : Gl K H0 mg mb) {c g : Addr} (ck : ClsK K c) (mk : MethK K c "__init__" g) {args : List Value} {kw : List (Str × Value)} {R : Result → Shared → Prop}
    (h : ∀ x dx s1, Go H0 [] s s1 → Okk s1.heap (x, io c dx []) → s.heap.get? x = none → s.heap.get? dx = none →
      codeAny (model prog w) (A.under (.builtin "type.__call__" ⟨.ref c :: args, kw⟩)) (.call (.ref g) ⟨.ref x :: args, kw⟩) (InitBack x R) s1) : codeAny (model prog w) A (.call (.ref c) ⟨args, kw⟩) R s := by
  have nx : s.heap.get? (s.heap.objs.size + 1) = none := by
    cases q : s.heap.get? (s.heap.objs.size + 1) with
    | none => rfl
    | some o => exact absurd (Heap.lt_size q) (Nat.not_lt.mpr (Nat.le_succ _))
  obtain ⟨hh, gg, d, t, os⟩ := s
  have k : ∀ b o, hh.get? b = some o → ((hh.push emptyDict).push (instObj c hh.objs.size)).get? b = some o := fun b o e => Heap.get?_push_of_some _ (Heap.get?_push_of_some _ e)
  refine make_core (makes_of (S.X G) ck.mkk) (looks_findIn (S.X G) mk.fi) (fun self => bind_fn (S.X G) self mk.ft) (.inl rfl) (h _ hh.objs.size _ (Go.ext (s := ⟨hh, gg, d, t, os⟩) (s' := ⟨(hh.push emptyDict).push (instObj c hh.objs.size), gg, d, t, os⟩) k (Nat.le_refl _) rfl rfl _) ⟨?_, nd_plain, fun dx e => ?_⟩ nx not_at)
  · have := Heap.get?_push_size (h := hh.push emptyDict) (o := instObj c hh.objs.size) rfl
    rwa [Heap.size_push] at this
  · cases e
    exact ⟨emptyDict, Heap.get?_push_of_some _ (Heap.get?_push_size _ rfl), rfl⟩
end
end Mine
end
section
set_option maxRecDepth 100000
set_option autoImplicit false
namespace Mine
open PySem PySem.W PySem.Calls PyProof.Rows PySem.Spec
section
variable {K : Frag} {a : Adr} {H0 : Heap} {mg mb : Str → Option Value} {A : Around} {l : List Env} {s : Shared} {prog : Program} {w : World} {E : Value → Shared → Prop}

theorem Go.push {M : List Addr} (o : Obj) : Go H0 M s { s with heap := s.heap.push o } := Go.ext (s' := { s with heap := s.heap.push o }) (fun _ _ q => Heap.get?_push_of_some _ q) (Nat.le_refl _) rfl rfl _
theorem add_tuple0 {t b : Addr} {v : Value} {vs : List Value} {Q : Value → Shared → Prop} (ht : s.heap.get? t = some (tupO (v :: vs))) (hb : s.heap.get? b = some (tupO [])) (h : Q (.ref t) s) : wpAny (model prog w) A (binaryOp .Add (.ref t) (.ref b)) Q E s :=
  concat_meets ⟨_, ht, rfl⟩ ⟨_, hb, rfl⟩ noFill_tuple_add seq_tuple_add PySem.F.slot_tuple_add PySem.F.entry_tuple_add (PySem.F.args_tuple_add_2 _ _)
    (tuple_addW1 t b (v :: vs).toArray ([] : List Value).toArray 0 0 none none #[] #[] (by simp) (by simp)) ⟨ht, hb, h⟩

theorem igInit_spec (G : Gl K H0 mg mb) (F : KF K a) (S : St H0 A l s) {x dx : Addr} {v : Value} (hx : Okk s.heap (x, io a.ig dx [])) (hH : H0.get? x = none) (hroom : A.depth < recursionLimit) {R : Result → Shared → Prop}
    (k : ∀ tp s', Go H0 [x] s s' → Okk s'.heap (x, io a.ig dx [some (.ref tp)]) → s'.heap.get? tp = some (tupO [v]) → s.heap.get? tp = none → R (.ok (.ret .none)) s') :
    codeAny (model prog w) A (.call (.ref a.igInit) ⟨[.ref x, v], []⟩) R s := by
  refine enterFX G S F.igInit [x] hroom (by decide) fun name doc pm an cdv ct E' => ?_
  have e : ∀ M, wpAny M A.in1 (bindArgs (fnOf name "itemgetter.__init__" dIgInit.1 dIgInit.2.1 dIgInit.2.2 .none .none doc pm an cdv ct) ⟨[.ref x, v], []⟩) = wpAny M A.in1 (newTuple [] >>= fun t => pure [(Str.ofString "self", .ref x), (Str.ofString "item", v), (Str.ofString "items", t)]) := fun _ => rfl
  rw [e]
  refine wpAny_bind (wpAny_newObj_type (wpAny_pure ?_) (by size_fits))
  have hne : x ≠ s.heap.objs.size := ne_nd hx.at_ not_at
  refine ⟨fun b o q => Heap.get?_push_of_some _ q, Nat.le_refl _, rfl, rfl, locs rfl, [(x, io a.ig dx []), (s.heap.objs.size, tupO [])], fun p hp => ?_, by simp [hne], fun L cdv s1 C => ?_⟩
  · rcases List.mem_cons.mp hp with rfl | hp
    · exact hx.go (H0 := H0) (M := []) (s := s) (s' := { s with heap := s.heap.push (tupO []) }) (Go.push _) (fun h => by cases h)
    · rw [List.mem_singleton.mp hp]; exact okk_tup (Heap.get?_push_size _ rfl)
  refine wpAny_execs_cons (plainObj_wpAny_Assign_Attribute (wpAny_BinOp (tup_made (args_cons (C.name rfl (args_nil ⟨_, _, _, _, _, _, _, _, C, by simp [sizeLine_eq], fun t s2 C2 n1 n2 => ?_⟩))))))
  refine C2.name rfl (add_tuple0 (C2.at 0 rfl) (C2.at 2 rfl) ?_)
  refine C2.setA G 1 rfl rfl F.ig F.ig0 (.inl (.head _)) hH fun s3 C3 => ?_
  exact wpAny_execs_nil (k t s3 C3.go (C3.ok 1 rfl) (C3.at 0 rfl) n1.e)

theorem ig_make (G : Gl K H0 mg mb) (F : KF K a) (S : St H0 A l s) {v : Value} (hroom : A.depth + 1 < recursionLimit) {R : Result → Shared → Prop}
    (k : ∀ x dx tp s', Go H0 [] s s' → Okk s'.heap (x, io a.ig dx [some (.ref tp)]) → s'.heap.get? tp = some (tupO [v]) → s.heap.get? x = none → s.heap.get? dx = none → s.heap.get? tp = none → x ≠ tp → R (.ok (.ret (.ref x))) s') :
    codeAny (model prog w) A (.call (.ref a.ig) ⟨[v], []⟩) R s := by
  refine S.make G F.ig F.migI fun x dx s1 g1 ox nx ndx => ?_
  have hH : H0.get? x = none := by
    cases q : H0.get? x with
    | none => rfl
    | some o => have := S.glob _ _ q; rw [nx] at this; cases this
  refine igInit_spec G F ((S.go g1).around (A' := A.under (.builtin "type.__call__" ⟨[.ref a.ig, v], []⟩)) rfl) ox hH hroom fun tp s2 g2 ox2 ht nt => ⟨rfl, ?_⟩
  have ntp : s.heap.get? tp = none := by
    cases q : s.heap.get? tp with
    | none => rfl
    | some o => obtain ⟨o', z⟩ := g1.there _ _ q; rw [nt] at z; cases z
  exact k x dx tp s2 (g1.step g2 fun p hp => .inr (by rw [List.mem_singleton.mp hp]; exact nx)) ox2 ht nx ndx ntp (fun q => by have := ox.at_; rw [q] at this; dsimp only at this; rw [nt] at this; cases this)

theorem igCall_spec (G : Gl K H0 mg mb) (F : KF K a) (S : St H0 A l s) {x dx tp r : Addr} {u : Tok} {v : Value} {vs : List Value} (hx : Okk s.heap (x, io a.ig dx [some (.ref tp)])) (ht : s.heap.get? tp = some (tupO [.int 0 u])) (hr : s.heap.get? r = some (tupO (v :: vs)))
    (hne : tp ≠ r) (hroom : A.depth < recursionLimit) {R : Result → Shared → Prop}
    (k : ∀ s', Go H0 [] s s' → R (.ok (.ret v)) s') :
    codeAny (model prog w) A (.call (.ref a.igCall) ⟨[.ref x, .ref r], []⟩) R s := by
  have h1 : x ≠ tp := fun q => by have := hx.at_; rw [q] at this; dsimp only at this; rw [ht] at this; cases this
  have h2 : x ≠ r := fun q => by have := hx.at_; rw [q] at this; dsimp only at this; rw [hr] at this; cases this
  refine enterF (binds := [(Str.ofString "self", .ref x), (Str.ofString "obj", .ref r)]) G S F.igCall [] [(x, io a.ig dx [some (.ref tp)]), (tp, tupO [.int 0 u]), (r, tupO (v :: vs))] (fun p hp => ?_) (by simp [h1, h2, hne]) hroom (fun _ _ _ _ _ _ => BindsTo.of_eq rfl) (by decide) (locs rfl) fun L cdv s1 _ C => ?_
  · rcases List.mem_cons.mp hp with rfl | hp
    · exact hx
    rcases List.mem_cons.mp hp with rfl | hp
    · exact okk_tup ht
    · rw [List.mem_singleton.mp hp]; exact okk_tup hr
  refine wpAny_execs_cons (wpAny_Assign_Name (C.attr G 0 rfl rfl F.ig F.ig0 rfl rfl fun s2 C2 => C2.set fun s3 C3 => ?_))
  refine wpAny_execs_cons (wpAny_If (wpAny_isTrue_Compare1 (Call_ (C3.boot G F.nlen Boot.«len» (callWith_builtin1 (args_cons (C3.name rfl (args_nil (len_tuple ⟨_, C3.at 1 rfl, rfl, 0, rfl⟩ (by simp) ?_)))))))))
  refine wpAny_Constant_int (eq_int (wpAny_truthy_bool ?_))
  have C4 := C3.tok 3
  simp only [List.size_toArray, List.length_cons, List.length_nil]
  refine ite_yes' (by rfl) ?_
  refine wpAny_execs_cons (wpAny_Return_some (Subscript_ (C4.name rfl ?_)))
  refine Subscript_ (C4.name rfl (wpAny_Constant_int ?_))
  have C5 := C4.tok 1
  refine item_tupleL ⟨_, C5.at 1 rfl, rfl, 0, rfl⟩ (by decide) (by decide) rfl rfl ?_
  refine item_tupleL ⟨_, C5.at 2 rfl, rfl, 0, rfl⟩ (by decide) (by decide) (j := 0) (by simp [seqIndex?]) rfl ?_
  exact k _ C5.go
end
end Mine
end
section
set_option maxRecDepth 100000
set_option autoImplicit false
namespace Mine
open PySem PySem.W PySem.Calls PyProof.Rows PySem.Spec

theorem entry_iter' : entryFor table "iter" = some Builtin.«iter» := entryFor_of_fast (by kernel_rfl)
theorem args_iter' (v : Value) : argsOk "iter" ⟨[v], []⟩ := by unfold argsOk; kernel_rfl

section
variable {H0 : Heap} {A : Around} {l : List Env} {M : List Addr} {sE : Shared} {L : Addr} {m : Str → Option Value} {led : List (Addr × Obj)} {s s' : Shared}
theorem Cx.callAt2 (C : Cx H0 A l M sE L m led s) (i j : Nat) {x y : Addr} {ox oy ox' oy' : Obj} (hi : led[i]? = some (x, ox)) (hj : led[j]? = some (y, oy)) (hij : i ≠ j) (G : Go H0 [x, y] s s') (hox : Okk s'.heap (x, ox')) (hoy : Okk s'.heap (y, oy'))
    (hM : ∀ p ∈ [x, y], p ∈ M ∨ sE.heap.get? p = none) (hx : ox'.dict = ox.dict) (hy : oy'.dict = oy.dict) : Cx H0 A l M sE L m ((led.set i (x, ox')).set j (y, oy')) s' := by
  have dx : ox'.dict ≠ some L := by rw [hx]; exact C.dn _ (List.mem_of_getElem? hi)
  have dy : oy'.dict ≠ some L := by rw [hy]; exact C.dn _ (List.mem_of_getElem? hj)
  have hj' : (led.set i (x, ox'))[j]? = some (y, oy) := by rw [List.getElem?_set_ne hij]; exact hj
  refine C.turn G hM _ (by rw [set_map_fst hj', set_map_fst hi]) fun p hp => ?_
  obtain ⟨k, hk, e⟩ := List.mem_iff_getElem.mp hp
  have hk' : ((led.set i (x, ox')).set j (y, oy'))[k]? = some p := by rw [List.getElem?_eq_getElem hk, e]
  rw [List.getElem?_set] at hk'
  split at hk'
  · split at hk'
    · cases hk'; exact .inr ⟨hoy, dy⟩
    · cases hk'
  · rename_i hjk
    rw [List.getElem?_set] at hk'
    split at hk'
    · split at hk'
      · cases hk'; exact .inr ⟨hox, dx⟩
      · cases hk'
    · rename_i hik
      obtain ⟨u, v⟩ := p
      refine .inl ⟨List.mem_of_getElem? hk', fun q => ?_⟩
      rcases List.mem_cons.mp q with q | q
      · exact nodup_ne C.nodup hi hk' hik q.symm
      · exact nodup_ne C.nodup hj hk' hjk (List.mem_singleton.mp q).symm
theorem Cx.notL (C : Cx H0 A l M sE L m led s) {o : Obj} (h : ∀ dx, o.dict = some dx → s.heap.get? dx = none) : o.dict ≠ some L := fun q => by
  obtain ⟨oL, es, ep, h1, _⟩ := ns_dict C.ns
  rw [h L q] at h1; cases h1
theorem Cx.neN (C : Cx H0 A l M sE L m led s) {t : Addr} (nt : s.heap.get? t = none) : ∀ p ∈ led, p.1 ≠ t := fun p hp => ne_nd (C.has p hp).at_ nt
theorem Cx.callN (C : Cx H0 A l M sE L m led s) (G : Go H0 [] s s') {t : Addr} {o : Obj} (ht : Okk s'.heap (t, o)) (nt : s.heap.get? t = none) (hd : ∀ dx, o.dict = some dx → s.heap.get? dx = none := by intro _ q; cases q) :
    Cx H0 A l M sE L m ((t, o) :: led) s' := (C.call G).add ht (C.neN nt) (C.notL hd)
theorem Cx.callAtN (C : Cx H0 A l M sE L m led s) (i : Nat) {x : Addr} {ox ox' : Obj} (hi : led[i]? = some (x, ox)) (G : Go H0 [x] s s') (hox : Okk s'.heap (x, ox')) (hM : x ∈ M ∨ sE.heap.get? x = none)
    {t : Addr} {o : Obj} (ht : Okk s'.heap (t, o)) (nt : s.heap.get? t = none) (hx : ox'.dict = ox.dict := by rfl) (hd : ∀ dx, o.dict = some dx → s.heap.get? dx = none := by intro _ q; cases q) :
    Cx H0 A l M sE L m ((t, o) :: led.set i (x, ox')) s' := by
  refine (C.callAt i hi G hox hM (by rw [hx]; exact C.dn _ (List.mem_of_getElem? hi))).add ht (fun p hp => ?_) (C.notL hd)
  have hm : p.1 ∈ (led.set i (x, ox')).map (·.1) := List.mem_map_of_mem hp
  rw [set_map_fst hi] at hm
  obtain ⟨q, hq, e⟩ := List.mem_map.mp hm
  rw [← e]; exact C.neN nt q hq
end

section
variable {K : Frag} {a : Adr} {H0 : Heap} {mg mb : Str → Option Value} {A : Around} {l : List Env} {s : Shared} {prog : Program} {w : World} {E : Value → Shared → Prop}

theorem iter_list {lst : Addr} {ol : Obj} {vs : List Value} {n : Nat} {Q : Value → Shared → Prop} (hl : s.heap.get? lst = some ol) (hc : ol.cls = .type "list") (hd : ol.data = .seq vs.toArray n)
    (hQ : Q (.ref s.heap.objs.size) { s with heap := s.heap.push (itO lst 0) }) : wpAny (model prog w) A (call (.builtin "iter") [.ref lst]) Q E s := by
  refine call_function_entry (by decide +kernel) (by decide +kernel) entry_iter' (args_iter' _) ?_
  unfold Builtin.«iter»
  refine wpAny_bind (m := someArgs "iter" 1 2 _) (wpAny_of_eq (a := [Value.ref lst]) (by first | rfl | kernel_rfl!) ?_)
  dsimp only
  exact wpAny_bind (wpAny_pyIter_list ⟨_, hl, hc, n, hd⟩ (wpAny_pure ⟨_, rfl, hQ⟩))

noncomputable def gbS (cg ck cv : Value) (hk hv ht : Bool) (it kf se tk : Value) : List (Option Value) := [some cg, some ck, some cv, some (.bool hk), some (.bool hv), some (.bool ht), some it, some kf, some se, some tk]

theorem gbInit_slots (kf it : Value) (t u : Tok): putS (putS (putS (putS (putS (putS (putS (putS (putS (putS [] 7 kf) 6 it) 5 (.bool false)) 9 .none) 3 (.bool false)) 1 .none) 4 (.bool false)) 2 .none) 0 (.int 0 t)) 8 (.int 0 u) = gbS (.int 0 t) .none .none false false false it kf (.int 0 u) .none := by
  simp [putS, gbS, List.replicate]
theorem gbInit_spec (G : Gl K H0 mg mb) (F : KF K a) (S : St H0 A l s) {x dx lst : Addr} {vs : List Value} {ep : Nat} {kf : Value} (hx : Okk s.heap (x, io a.gb dx [])) (hH : H0.get? x = none) (hl : s.heap.get? lst = some (lstO vs ep)) (hroom : A.depth < recursionLimit) {R : Result → Shared → Prop}
    (k : ∀ it t u s', Go H0 [x] s s' → Okk s'.heap (x, io a.gb dx (gbS (.int 0 t) .none .none false false false (.ref it) kf (.int 0 u) .none)) → s'.heap.get? it = some (itO lst 0) → s.heap.get? it = none → R (.ok (.ret .none)) s') :
    codeAny (model prog w) A (.call (.ref a.gbInit) ⟨[.ref x, .ref lst], [("key", kf)]⟩) R s := by
  obtain ⟨o, n, ho, hs⟩ := F.gbD
  have hne : x ≠ lst := ne_cls hx.at_ hl (by show Value.ref a.gb ≠ .type "list"; intro q; cases q)
  refine enterF (binds := [(Str.ofString "self", .ref x), (Str.ofString "iterable", .ref lst), (Str.ofString "key", kf)]) G S F.gbInit [x] [(x, io a.gb dx []), (lst, lstO vs ep)] (fun p hp => ?_) (by simp [hne]) hroom (fun _ _ _ _ _ _ => binds_K (S.X G) rfl ho hs rfl rfl) (by decide) (locs rfl) fun L cdv s1 _ C => ?_
  · rcases List.mem_cons.mp hp with rfl | hp
    · exact hx
    · rw [List.mem_singleton.mp hp]; exact okk_lst hl
  refine wpAny_execs_cons (plainObj_wpAny_Assign_Attribute (C.name rfl (C.setA G 0 rfl rfl F.gb F.gb7 (.inl (.head _)) hH fun s2 C2 => ?_)))
  refine wpAny_execs_cons (plainObj_wpAny_Assign_Attribute (Call_ (C2.boot G F.niter Boot.«iter» (callWith_builtin1 (args_cons (C2.name rfl (args_nil (iter_list (C2.at 1 rfl) rfl rfl ?_))))))))
  have nit : s2.heap.get? s2.heap.objs.size = none := not_at
  generalize hit : s2.heap.objs.size = it at nit
  have C3 := C2.push (itO lst 0) rfl nd_fields rfl
  rw [hit] at C3
  refine C3.setA G 1 rfl rfl F.gb F.gb6 (.inl (.head _)) hH fun s4 C4 => ?_
  refine wpAny_execs_cons (plainObj_wpAny_Assign_Attribute (wpAny_Constant_bool (C4.setA G 1 rfl rfl F.gb F.gb5 (.inl (.head _)) hH fun s4 C4 => ?_)))
  refine wpAny_execs_cons (plainObj_wpAny_Assign_Attribute (wpAny_Constant_none (C4.setA G 1 rfl rfl F.gb F.gb9 (.inl (.head _)) hH fun s4 C4 => ?_)))
  refine wpAny_execs_cons (plainObj_wpAny_Assign_Attribute (wpAny_Constant_bool (C4.setA G 1 rfl rfl F.gb F.gb3 (.inl (.head _)) hH fun s4 C4 => ?_)))
  refine wpAny_execs_cons (plainObj_wpAny_Assign_Attribute (wpAny_Constant_none (C4.setA G 1 rfl rfl F.gb F.gb1 (.inl (.head _)) hH fun s4 C4 => ?_)))
  refine wpAny_execs_cons (plainObj_wpAny_Assign_Attribute (wpAny_Constant_bool (C4.setA G 1 rfl rfl F.gb F.gb4 (.inl (.head _)) hH fun s4 C4 => ?_)))
  refine wpAny_execs_cons (plainObj_wpAny_Assign_Attribute (wpAny_Constant_none (C4.setA G 1 rfl rfl F.gb F.gb2 (.inl (.head _)) hH fun s4 C4 => ?_)))
  refine wpAny_execs_cons (plainObj_wpAny_Assign_Attribute (wpAny_Constant_int ((C4.tok 1).setA G 1 rfl rfl F.gb F.gb0 (.inl (.head _)) hH fun s5 C5 => ?_)))
  refine wpAny_execs_cons (plainObj_wpAny_Assign_Attribute (wpAny_Constant_int ((C5.tok 1).setA G 1 rfl rfl F.gb F.gb8 (.inl (.head _)) hH (fun s6 C6 => ?_) (he := gbInit_slots _ _ _ _))))
  refine wpAny_execs_nil (k it _ _ s6 C6.go (C6.ok 1 rfl) (C6.at 0 rfl) ?_)
  exact (C2.noE nit).e

theorem gb_make (G : Gl K H0 mg mb) (F : KF K a) (S : St H0 A l s) {lst : Addr} {vs : List Value} {ep : Nat} {kf : Value} (hl : s.heap.get? lst = some (lstO vs ep)) (hroom : A.depth + 1 < recursionLimit) {R : Result → Shared → Prop}
    (k : ∀ x dx it t u s', Go H0 [] s s' → Okk s'.heap (x, io a.gb dx (gbS (.int 0 t) .none .none false false false (.ref it) kf (.int 0 u) .none)) → s'.heap.get? it = some (itO lst 0) → s.heap.get? x = none → s.heap.get? dx = none → s.heap.get? it = none → x ≠ it → R (.ok (.ret (.ref x))) s') :
    codeAny (model prog w) A (.call (.ref a.gb) ⟨[.ref lst], [("key", kf)]⟩) R s := by
  refine S.make G F.gb F.mgbI fun x dx s1 g1 ox nx ndx => ?_
  have hH : H0.get? x = none := by
    cases q : H0.get? x with
    | none => rfl
    | some o => have := S.glob _ _ q; rw [nx] at this; cases this
  refine gbInit_spec G F ((S.go g1).around (A' := A.under (.builtin "type.__call__" ⟨[.ref a.gb, .ref lst], [("key", kf)]⟩)) rfl) ox hH (g1.nd _ _ hl (fun h => nomatch h) nd_seq) hroom fun it t u s2 g2 ox2 hit nit => ⟨rfl, ?_⟩
  have nit' : s.heap.get? it = none := by
    cases q : s.heap.get? it with
    | none => rfl
    | some o => obtain ⟨o', z⟩ := g1.there _ _ q; rw [nit] at z; cases z
  exact k x dx it t u s2 (g1.step g2 fun p hp => .inr (by rw [List.mem_singleton.mp hp]; exact nx)) ox2 hit nx ndx nit' (ne_nd ox.at_ nit)
end
end Mine
end
section
set_option maxRecDepth 100000
set_option autoImplicit false
namespace Mine
open PySem PySem.W PySem.Calls PyProof.Rows PySem.Spec
section
variable {K : Frag} {a : Adr} {H0 : Heap} {mg mb : Str → Option Value} {A : Around} {l : List Env} {M : List Addr} {sE : Shared} {L f : Addr} {m : Str → Option Value} {led : List (Addr × Obj)} {s : Shared} {prog : Program} {w : World} {E : Value → Shared → Prop}
variable {cn : Str} {cs : Scope} {cdv : Value}

theorem call_inst (X : K.In s.heap) {x c dx g : Addr} {sl : List (Option Value)} {pos : List Value} {kw : List (Str × Value)} {R : Result → Shared → Prop} (hx : Okk s.heap (x, io c dx sl)) (mk : MethK K c "__call__" g)
    (h : codeAny (model prog w) A (.call (.ref g) ⟨.ref x :: pos, kw⟩) R s) : codeAny (model prog w) A (.call (.ref x) ⟨pos, kw⟩) R s := by
  obtain ⟨od, I, hod⟩ := instAt hx
  refine codeAny_of_tree ?_
  show wpAny _ _ (callAny (.ref x) _) _ _ _
  refine nd_load hx.at_ ?_
  show wpAny _ _ (callAny.viaDunder (.ref x) _) _ _ _
  unfold callAny.viaDunder specialOf
  refine wpAny_bind (wpAny_bind (I.type.here ((looks_findIn X mk.fi).here ?_)))
  refine wpAny_bind ((bind_fn X _ mk.ft).here ?_)
  have hf := mk.fn
  unfold fnIn at hf
  split at hf
  · rename_i e
    refine wpAny_bind ?_
    unfold callAny.plainCallee
    refine wpAny_bind (wpAny_load (X _ _ e) (wpAny_pure ?_))
    first | refine ite_yes' rfl ?_ | refine ite_yes rfl ?_ | rw [if_pos rfl]
    exact wpAny_pure (a := Fin.again (.call (.ref g) ⟨.ref x :: pos, kw⟩)) (And.intro rfl h)
  · cases hf

theorem Cx.callSlot (C : Cx H0 A l M sE L m led s) (G : Gl K H0 mg mb) {nm name : Str} {np ap pos : Pos} {e : Expr} {rest : List Expr} {pl : Sem Bool} {x c dx : Addr} {sl : List (Option Value)} {i : Nat} {v : Value} {Q : Value → Shared → Prop} (j : Nat) (hj : led[j]? = some (x, io c dx sl))
    (hm : m nm = some (.ref x)) (ck : ClsK K c) (sk : SlotK K c name i) (hv : sl[i]? = some (some v)) (hd : handedIn v = true)
    (h : ∀ s', Cx H0 A l M sE L m led s' → wpAny (model prog w) A (spliced (backTo pos (starEach (e :: rest) (envOf cn cs L f cdv)))) (fun vs s₁ => (∃ k, Looks (model prog w) s₁.heap (keeperOf v) k) ∧ wpAny (model prog w) A (PySem.call v vs) Q E s₁) E s')
    (hk : cs.kind = .function := by rfl) (hl : cs.names.lookup nm = some .local := by rfl) (hdb : (nm == ("__debug__" : Str)) = false := by decide)
    (hst : starEach (e :: rest) (envOf cn cs L f cdv) = (false, eval e (envOf cn cs L f cdv)) :: starEach rest (envOf cn cs L f cdv) := by rfl)
    (he : eval (.Call (.Attribute (.Name nm np) name ap) (e :: rest) [] pos) (envOf cn cs L f cdv) = (do
      let ov ← eval (.Name nm np) (envOf cn cs L f cdv)
      standAt ap.atName
      let (f', first) ← holding [ov] (getMethod ov name pl)
      callWith pos f' first (backTo pos (starEach (e :: rest) (envOf cn cs L f cdv))) (backToKw pos (keywordEach [] (envOf cn cs L f cdv)))) := by rfl) :
    wpAny (model prog w) A (eval (.Call (.Attribute (.Name nm np) name ap) (e :: rest) [] pos) (envOf cn cs L f cdv)) Q E s := by
  refine methodCall_KW (C.name hm ?_ hk hl hdb) he
  obtain ⟨od, I, hod⟩ := instAt (C.ok j hj)
  obtain ⟨p, h1, h2, h3, h4, h5, h6⟩ := sk.ex
  refine method_usual (C.st.X G) I ck.ga ck.gt h1 (by simp [h5]) (C.getS G j hj ck sk hv hd fun s' C' => ?_)
  refine callWith_any ?_
  have := h s' C'
  rw [hst] at this ⊢
  exact evalArgs_plain this

theorem Cx.callMeth0 (C : Cx H0 A l M sE L m led s) (G : Gl K H0 mg mb) {nm name : Str} {np ap pos : Pos} {pl : Sem Bool} {x c dx g : Addr} {sl : List (Option Value)} {Q : Value → Shared → Prop} (j : Nat) (hj : led[j]? = some (x, io c dx sl))
    (hm : m nm = some (.ref x)) (ck : ClsK K c) (mk : MethK K c name g) (h : wpAny (model prog w) A (PySem.call (.ref g) [.ref x]) Q E s)
    (hk : cs.kind = .function := by rfl) (hl : cs.names.lookup nm = some .local := by rfl) (hdb : (nm == ("__debug__" : Str)) = false := by decide)
    (he : eval (.Call (.Attribute (.Name nm np) name ap) [] [] pos) (envOf cn cs L f cdv) = (do
      let ov ← eval (.Name nm np) (envOf cn cs L f cdv)
      standAt ap.atName
      let (f', first) ← holding [ov] (getMethod ov name pl)
      callWith pos f' first (backTo pos (starEach [] (envOf cn cs L f cdv))) (backToKw pos (keywordEach [] (envOf cn cs L f cdv)))) := by rfl) :
    wpAny (model prog w) A (eval (.Call (.Attribute (.Name nm np) name ap) [] [] pos) (envOf cn cs L f cdv)) Q E s := by
  refine methodCall_KW (C.name hm ?_ hk hl hdb) he
  refine C.meth G j hj ck mk ?_
  exact callWith_K0 (C.st.X G) mk.kp h

theorem Cx.callFn (C : Cx H0 A l M sE L m led s) (G : Gl K H0 mg mb) {nm : Str} {np pos : Pos} {e : Expr} {rest : List Expr} {g : Addr} {Q : Value → Shared → Prop} (hn : nsIn K mainGlobals nm = some (some (.ref g))) (hkp : keepIn K (.ref g) = true)
    (h : wpAny (model prog w) A (spliced (backTo pos (starEach (e :: rest) (envOf cn cs L f cdv)))) (fun vs s₁ => K.In s₁.heap ∧ wpAny (model prog w) A (PySem.call (.ref g) vs) Q E s₁) E s)
    (hk : cs.kind = .function := by rfl) (hl : cs.names.lookup nm = some .globalImplicit := by rfl) (hdb : (nm == ("__debug__" : Str)) = false := by decide)
    (hst : starEach (e :: rest) (envOf cn cs L f cdv) = (false, eval e (envOf cn cs L f cdv)) :: starEach rest (envOf cn cs L f cdv) := by rfl)
    (hplain : (backTo pos (starEach rest (envOf cn cs L f cdv))).any (·.1) = false := by rfl) :
    wpAny (model prog w) A (eval (.Call (.Name nm np) (e :: rest) [] pos) (envOf cn cs L f cdv)) Q E s :=
  Call_ (C.global G hn (callWith_K (C.st.X G) hkp h hst hplain) hk hl hdb)

theorem keep_inst {x c dx : Addr} {sl : List (Option Value)} (M : Model) (hx : Okk s.heap (x, io c dx sl)) : ∃ k, Looks M s.heap (keeperOf (.ref x)) k := ⟨.caller, (Looks.ld (part := none) hx.at_).andThen .now⟩

structure Step (K : Frag) (a : Adr) (H0 : Heap) (h : Heap) (x dg it lst ig di tp r : Addr) (i : Nat) (vs : List Value) (ep : Nat) (key : Value) (rest : List Value) (u : Tok) (sl : List (Option Value)) : Prop where
  has : ∀ p ∈ [(x, io a.gb dg sl), (it, itO lst i), (lst, lstO vs ep), (ig, io a.ig di [some (.ref tp)]), (tp, tupO [.int 0 u]), (r, tupO (key :: rest))], Okk h p
  nodup : [x, it, lst, ig, tp, r].Nodup
  hx : H0.get? x = none
  hit : H0.get? it = none
  row : vs[i]? = some (.ref r)

set_option maxHeartbeats 1000000 in
theorem step_more (G : Gl K H0 mg mb) (F : KF K a) (S : St H0 A l s) {x dg it lst ig di tp r : Addr} {i : Nat} {vs : List Value} {ep : Nat} {key : Value} {rest : List Value} {u : Tok} {cg ck cv se tk : Value} {hk hv ht : Bool}
    (Z : Step K a H0 s.heap x dg it lst ig di tp r i vs ep key rest u (gbS cg ck cv hk hv ht (.ref it) (.ref ig) se tk)) (hroom : A.depth + 1 < recursionLimit) (hh : A.handled = none) {R : Result → Shared → Prop}
    (k : ∀ s', Go H0 [x, it] s s' → Okk s'.heap (x, io a.gb dg (gbS cg key (.ref r) true true ht (.ref it) (.ref ig) se tk)) → s'.heap.get? it = some (itO lst (i + 1)) → R (.ok (.ret .none)) s') :
    codeAny (model prog w) A (.call (.ref a.gbStep) ⟨[.ref x], []⟩) R s := by
  refine enterF (binds := [(Str.ofString "self", .ref x)]) G S F.gbStep [x, it] _ Z.has Z.nodup (Nat.lt_of_succ_lt hroom) (fun _ _ _ _ _ _ => BindsTo.of_eq rfl) (by decide) (locs rfl) fun L cdv s1 _ C => ?_
  refine wpAny_execs_cons (Assign_Tuple (C.callFn G F.npull F.kpull (args_cons (C.attr G 0 rfl rfl F.gb F.gb6 rfl rfl fun s2 C2 => args_nil ⟨C2.st.X G, ?_⟩))))
  refine pull_more G F C2.st (C2.at 1 rfl) Z.hit (C2.at 2 rfl) Z.row hroom hh fun t s3 g3 hit3 ht3 nt3 => ?_
  have C3 := C2.callAtN 1 rfl g3 (okk_it hit3) (.inl (by simp)) (okk_tup ht3) nt3
  refine C3.unpack2 0 rfl hh fun s4 C4 => ?_
  refine wpAny_execs_cons (wpAny_If (wpAny_isTrue_Not (wpAny_isTrue_value (C4.name rfl (wpAny_truthy_bool ?_)))))
  (try simp only [Bool.not_true, Bool.false_eq_true, if_false])
  refine wpAny_execs_nil ?_
  refine wpAny_execs_cons (wpAny_If (wpAny_isTrue_Compare1 (C4.attr G 1 rfl rfl F.gb F.gb7 rfl rfl fun s5 C5 => wpAny_Constant_none (is_none (wpAny_truthy_bool ?_)))))
  refine ite_no' rfl ?_
  refine wpAny_execs_cons (wpAny_Assign_Name (C5.callSlot G 1 rfl rfl F.gb F.gb7 rfl rfl fun s6 C6 => args_cons (C6.name rfl (args_nil ⟨keep_inst _ (C6.ok 4 rfl), ?_⟩))))
  refine wpAny_call (call_inst (C6.st.X G) (C6.ok 4 rfl) F.migC (igCall_spec G F C6.st (C6.ok 4 rfl) (C6.at 5 rfl) (C6.at 6 rfl) (C6.ne (i := 5) (j := 6) rfl rfl) hroom fun s7 g7 => ?_))
  have C7 := C6.call g7
  refine C7.set fun s8 C8 => wpAny_execs_nil ?_
  refine wpAny_execs_cons (plainObj_wpAny_Assign_Attribute (C8.name rfl (C8.setA G 1 rfl rfl F.gb F.gb2 (.inl (by simp)) Z.hx (fun s9 C9 => ?_) (sl' := gbS cg ck (.ref r) hk hv ht (.ref it) (.ref ig) se tk) (he := by simp [putS, gbS]))))
  refine wpAny_execs_cons (plainObj_wpAny_Assign_Attribute (wpAny_Constant_bool (C9.setA G 1 rfl rfl F.gb F.gb4 (.inl (by simp)) Z.hx (fun s10 C10 => ?_) (sl' := gbS cg ck (.ref r) hk true ht (.ref it) (.ref ig) se tk) (he := by simp [putS, gbS]))))
  refine wpAny_execs_cons (plainObj_wpAny_Assign_Attribute (C10.name rfl (C10.setA G 1 rfl rfl F.gb F.gb1 (.inl (by simp)) Z.hx (fun s11 C11 => ?_) (sl' := gbS cg key (.ref r) hk true ht (.ref it) (.ref ig) se tk) (he := by simp [putS, gbS]))))
  refine wpAny_execs_cons (plainObj_wpAny_Assign_Attribute (wpAny_Constant_bool (C11.setA G 1 rfl rfl F.gb F.gb3 (.inl (by simp)) Z.hx (fun s12 C12 => ?_) (sl' := gbS cg key (.ref r) true true ht (.ref it) (.ref ig) se tk) (he := by simp [putS, gbS]))))
  exact wpAny_execs_nil (k s12 C12.go (C12.ok 1 rfl) (C12.at 2 rfl))
end
end Mine
end
section
set_option maxRecDepth 100000
set_option autoImplicit false
namespace Mine
open PySem PySem.W PySem.Calls PyProof.Rows PySem.Spec
section
variable {K : Frag} {H0 : Heap} {mg mb : Str → Option Value} {A : Around} {l : List Env} {s : Shared} {prog : Program} {w : World} {E : Value → Shared → Prop}

theorem same_spec (G : Gl K H0 mg mb) (S : St H0 A l s) {f : Addr} (fk : FnK K f "_same" dSame .none .none) (κ : KeyOps) {x y : Value} (hx : κ.P x) (hy : κ.P y) (tx : tokOf x ≠ 0) (ty : tokOf y ≠ 0) (ht : tokOf x = tokOf y → κ.eq x y = true)
    (hroom : A.depth < recursionLimit) {Q : Value → Shared → Prop} (k : ∀ s', Go H0 [] s s' → Q (.bool (κ.eq x y)) s') : wpAny (model prog w) A (call (.ref f) [x, y]) Q E s := by
  refine wpAny_call (enterF (binds := [(Str.ofString "a", x), (Str.ofString "b", y)]) G S fk [] [] (fun _ h => nomatch h) List.nodup_nil hroom (fun _ _ _ _ _ _ => BindsTo.of_eq rfl) (by decide) (locs rfl) fun L cdv s1 _ C => ?_)
  refine wpAny_execs_cons (wpAny_If (wpAny_isTrue_Compare1 (C.name rfl (C.name rfl (κ.isR _ _ _ _ _ _ _ _ (C.st.nob G) hx hy tx ty ht fun r hr => wpAny_truthy_bool ?_)))))
  have fin : wpAny (model prog w) (A.deeper (envOf "_same" dSame.2.2 L f cdv)) (execs (dSame.2.1.drop 1) (envOf "_same" dSame.2.2 L f cdv))
      (qRet (rCall Q E)) (eOut prog w (A.deeper (envOf "_same" dSame.2.2 L f cdv)) (envOf "_same" dSame.2.2 L f cdv) (rCall Q E)) s1 := by
    refine wpAny_execs_cons (wpAny_If (wpAny_isTrue_Compare1 (C.name rfl (C.name rfl (κ.cmpR _ _ _ _ _ _ _ _ hx hy (wpAny_truthy_bool ?_))))))
    cases he : κ.eq x y with
    | true =>
      (try simp only [if_true])
      exact wpAny_execs_cons (wpAny_Return_some (wpAny_Constant_bool (by show Q _ _; rw [← he]; exact k _ C.go)))
    | false =>
      (try simp only [Bool.false_eq_true, if_false])
      exact wpAny_execs_nil (wpAny_execs_cons (wpAny_Return_some (wpAny_Constant_bool (by show Q _ _; rw [← he]; exact k _ C.go))))
  cases r with
  | true =>
    (try simp only [if_true])
    exact wpAny_execs_cons (wpAny_Return_some (wpAny_Constant_bool (by show Q _ _; rw [← hr rfl]; exact k _ C.go)))
  | false =>
    (try simp only [Bool.false_eq_true, if_false])
    exact wpAny_execs_nil fin
end
end Mine
end
section
set_option maxRecDepth 100000
set_option autoImplicit false
namespace Mine
open PySem PySem.W PySem.Calls PyProof.Rows PySem.Spec
section
variable {K : Frag} {a : Adr} {H0 : Heap} {mg mb : Str → Option Value} {A : Around} {l : List Env} {s : Shared} {prog : Program} {w : World} {E : Value → Shared → Prop}

noncomputable def grS (nb par tk : Value) : List (Option Value) := [some nb, some par, some tk]

theorem isNot_self {x : Addr} {Q : Value → Shared → Prop} (h : Q (.bool false) s) : wpAny (model prog w) A (compareOp .IsNot (.ref x) (.ref x)) Q E s := by
  show wpAny _ A (do return .bool (!(← isSame (.ref x) (.ref x)))) Q E s
  have e : isSame (.ref x) (.ref x) = pure true := by unfold isSame; simp
  rw [e]; exact wpAny_bind (wpAny_pure (wpAny_pure h))
theorem type_ref {x : Addr} {ox : Obj} {Q : Value → Shared → Prop} (he : s.heap.get? x = some ox) (hnb : (ox.cls == .type "builtin_function_or_method") = false) (hq : Q ox.cls s) : wpAny (model prog w) A (call (.type "type") [.ref x]) Q E s := by
  obtain ⟨h, g, d, t, os⟩ := s; exact call_type_obj he hnb hq

set_option maxHeartbeats 1000000 in
theorem grInit_spec (G : Gl K H0 mg mb) (F : KF K a) (S : St H0 A l s) {x dg y dy : Addr} {cg ck cv it kf tk key : Value} {hk hv ht : Bool} {n : Int} {t : Tok}
    (hx : Okk s.heap (x, io a.gb dg (gbS cg ck cv hk hv ht it kf (.int n t) tk))) (hy : Okk s.heap (y, io a.gr dy [])) (hne : x ≠ y) (hHx : H0.get? x = none) (hHy : H0.get? y = none) (hroom : A.depth < recursionLimit) {R : Result → Shared → Prop}
    (k : ∀ u s', Go H0 [x, y] s s' → Okk s'.heap (x, io a.gb dg (gbS (.int (n + 1) u) ck cv hk hv ht it kf (.int (n + 1) u) tk)) → Okk s'.heap (y, io a.gr dy (grS (.int (n + 1) u) (.ref x) key)) → R (.ok (.ret .none)) s') :
    codeAny (model prog w) A (.call (.ref a.grInit) ⟨[.ref y, .ref x, key], []⟩) R s := by
  refine enterF (binds := [(Str.ofString "self", .ref y), (Str.ofString "parent", .ref x), (Str.ofString "tgtkey", key)]) G S F.grInit [x, y] [(x, io a.gb dg (gbS cg ck cv hk hv ht it kf (.int n t) tk)), (y, io a.gr dy [])] (fun p hp => ?_) (by simp [hne]) hroom (fun _ _ _ _ _ _ => BindsTo.of_eq rfl) (by decide) (locs rfl) fun L cdv s1 _ C => ?_
  · rcases List.mem_cons.mp hp with rfl | hp
    · exact hx
    · rw [List.mem_singleton.mp hp]; exact hy
  refine wpAny_execs_cons (wpAny_If (wpAny_isTrue_Compare1 (Call_ (C.boot G F.ntype Boot.«type» (PySem.callWith_type rfl (evalArgs_plain (args_cons (C.name rfl (args_nil (type_ref (C.at 0 rfl) rfl (C.global G F.ngb (isNot_self (wpAny_truthy_bool ?_)))))))))))))
  (try simp only [Bool.false_eq_true, if_false])
  refine wpAny_execs_nil ?_
  refine wpAny_execs_cons (plainObj_wpAny_Assign_Attribute (C.name rfl (C.setA G 1 rfl rfl F.gr F.gr1 (.inl (by simp)) hHy (fun s2 C2 => ?_) (sl' := [none, some (.ref x)]) (he := by simp [putS]))))
  refine wpAny_execs_cons (plainObj_wpAny_Assign_Attribute (C2.name rfl (C2.setA G 1 rfl rfl F.gr F.gr2 (.inl (by simp)) hHy (fun s3 C3 => ?_) (sl' := [none, some (.ref x), some key]) (he := by simp [putS]))))
  refine wpAny_execs_cons (wpAny_AugAssign_AttributeAny (C3.name rfl (C3.getS G 0 rfl F.gb F.gb8 rfl rfl fun s4 C4 => wpAny_Constant_int (iadd_int ?_))))
  have C5 := C4.tok 2
  refine C5.setS G 0 rfl F.gb F.gb8 (.inl (by simp)) hHx (fun s6 C6 => ?_) (sl' := gbS cg ck cv hk hv ht it kf (.int (n + 1) (s4.toks + 1)) tk) (he := by simp [putS, gbS])
  refine wpAny_execs_cons (plainObj_wpAny_Assign_Attribute (C6.attr G 0 rfl rfl F.gb F.gb8 rfl rfl fun s7 C7 => C7.setA G 1 rfl rfl F.gr F.gr0 (.inl (by simp)) hHy (fun s8 C8 => ?_) (sl' := grS (.int (n + 1) (s4.toks + 1)) (.ref x) key) (he := by simp [putS, grS])))
  refine wpAny_execs_cons (plainObj_wpAny_Assign_Attribute (C8.attr G 0 rfl rfl F.gb F.gb8 rfl rfl fun s9 C9 => C9.setA G 0 rfl rfl F.gb F.gb0 (.inl (by simp)) hHx (fun s10 C10 => ?_) (sl' := gbS (.int (n + 1) (s4.toks + 1)) ck cv hk hv ht it kf (.int (n + 1) (s4.toks + 1)) tk) (he := by simp [putS, gbS])))
  exact wpAny_execs_nil (k _ s10 C10.go (C10.ok 0 rfl) (C10.ok 1 rfl))

theorem gr_make (G : Gl K H0 mg mb) (F : KF K a) (S : St H0 A l s) {x dg : Addr} {cg ck cv it kf tk key : Value} {hk hv ht : Bool} {n : Int} {t : Tok}
    (hx : Okk s.heap (x, io a.gb dg (gbS cg ck cv hk hv ht it kf (.int n t) tk))) (hHx : H0.get? x = none) (hroom : A.depth + 1 < recursionLimit) {R : Result → Shared → Prop}
    (k : ∀ y dy u s', Go H0 [x] s s' → Okk s'.heap (x, io a.gb dg (gbS (.int (n + 1) u) ck cv hk hv ht it kf (.int (n + 1) u) tk)) → Okk s'.heap (y, io a.gr dy (grS (.int (n + 1) u) (.ref x) key)) → s.heap.get? y = none → s.heap.get? dy = none → R (.ok (.ret (.ref y))) s') :
    codeAny (model prog w) A (.call (.ref a.gr) ⟨[.ref x, key], []⟩) R s := by
  refine S.make G F.gr F.mgrI fun y dy s1 g1 oy ny ndy => ?_
  have hH : H0.get? y = none := by
    cases q : H0.get? y with
    | none => rfl
    | some o => have := S.glob _ _ q; rw [ny] at this; cases this
  refine grInit_spec G F ((S.go g1).around (A' := A.under (.builtin "type.__call__" ⟨[.ref a.gr, .ref x, key], []⟩)) rfl) (hx.go g1 (fun h => nomatch h)) oy (ne_nd hx.at_ ny) hHx hH hroom fun u s2 g2 ox2 oy2 => ⟨rfl, ?_⟩
  exact k y dy u s2 ((g1.mono (M' := [x]) (fun p h => nomatch h)).step g2 fun p hp => by
    rcases List.mem_cons.mp hp with rfl | hp
    · exact .inl (.head _)
    · rw [List.mem_singleton.mp hp]; exact .inr ny) ox2 oy2 ny ndy

theorem step_end (G : Gl K H0 mg mb) (F : KF K a) (S : St H0 A l s) {x dg it lst : Addr} {i : Nat} {vs : List Value} {ep : Nat} {cg ck cv kf se tk : Value} {hk hv ht : Bool}
    (hx : Okk s.heap (x, io a.gb dg (gbS cg ck cv hk hv ht (.ref it) kf se tk))) (hit : s.heap.get? it = some (itO lst i)) (hl : s.heap.get? lst = some (lstO vs ep)) (hHit : H0.get? it = none) (hi : vs[i]? = none)
    (hroom : A.depth + 1 < recursionLimit) (hh : A.handled = none) {R : Result → Shared → Prop}
    (k : ∀ e t s', Fly H0 [it] s l e (.type "StopIteration") (.ref t) [(x, io a.gb dg (gbS cg ck cv hk hv ht (.ref it) kf se tk)), (it, itE i), (lst, lstO vs ep)] s' → R (.error (.ref e)) s') :
    codeAny (model prog w) A (.call (.ref a.gbStep) ⟨[.ref x], []⟩) R s := by
  have h1 : x ≠ it := ne_cls hx.at_ hit (by show Value.ref a.gb ≠ .type _; intro q; cases q)
  have h2 : x ≠ lst := ne_cls hx.at_ hl (by show Value.ref a.gb ≠ .type _; intro q; cases q)
  have h3 : it ≠ lst := ne_cls hit hl (by show Value.type "list_iterator" ≠ .type "list"; decide)
  refine enterF (binds := [(Str.ofString "self", .ref x)]) G S F.gbStep [it] [(x, io a.gb dg (gbS cg ck cv hk hv ht (.ref it) kf se tk)), (it, itO lst i), (lst, lstO vs ep)] (fun p hp => ?_) (by simp [h1, h2, h3]) (Nat.lt_of_succ_lt hroom) (fun _ _ _ _ _ _ => BindsTo.of_eq rfl) (by decide) (locs rfl) fun L cdv s1 _ C => ?_
  · rcases List.mem_cons.mp hp with rfl | hp
    · exact hx
    rcases List.mem_cons.mp hp with rfl | hp
    · exact okk_it hit
    · rw [List.mem_singleton.mp hp]; exact okk_lst hl
  refine wpAny_execs_cons (Assign_Tuple (C.callFn G F.npull F.kpull (args_cons (C.attr G 0 rfl rfl F.gb F.gb6 rfl rfl fun s2 C2 => args_nil ⟨C2.st.X G, ?_⟩))))
  refine pull_end G F C2.st (C2.at 1 rfl) hHit (C2.at 2 rfl) hi hroom hh fun t s3 g3 hit3 ht3 nt3 => ?_
  have C3 := C2.callAtN 1 rfl g3 (.of hit3 nd_fields rfl) (.inl (by simp)) (okk_tup ht3) nt3
  refine C3.unpack2 0 rfl hh fun s4 C4 => ?_
  refine wpAny_execs_cons (wpAny_If (wpAny_isTrue_Not (wpAny_isTrue_value (C4.name rfl (wpAny_truthy_bool ?_)))))
  (try simp only [Bool.not_false, if_true])
  refine wpAny_execs_cons (owsi_raiseC hh (C4.boot G F.nstop Boot.«StopIteration» ⟨rfl, rfl⟩) fun h' e hm => ?_)
  refine C4.raised (cls := .type "StopIteration") ⟨hm.keeps, hm.new, hm.there⟩ rfl fun t s5 F5 _ => ?_
  exact k e t s5 { F5 with ex := by obtain ⟨B, q1, q2, q3, q4, q5⟩ := F5.ex; exact ⟨B, q1, q2, q3, q4, fun p hp => q5 p (.tail _ hp)⟩, has := fun p hp => F5.has p (.tail _ hp) }
end
end Mine
end
section
set_option maxRecDepth 100000
set_option autoImplicit false
namespace Mine
open PySem PySem.W PySem.Calls PyProof.Rows PySem.Spec
section
variable {K : Frag} {a : Adr} {H0 : Heap} {mg mb : Str → Option Value} {A : Around} {l : List Env} {M : List Addr} {s s1 : Shared} {L : Addr} {m : Str → Option Value} {prog : Program} {w : World} {E : Value → Shared → Prop} {cdv : Value}

theorem gbIter_spec (G : Gl K H0 mg mb) (F : KF K a) (S : St H0 A l s) {x : Addr} (hroom : A.depth < recursionLimit) {Q : Value → Shared → Prop} (k : ∀ s', Go H0 [] s s' → Q (.ref x) s') : wpAny (model prog w) A (call (.ref a.gbIter) [.ref x]) Q E s := by
  refine wpAny_call (enterF (binds := [(Str.ofString "self", .ref x)]) G S F.gbIter [] [] (fun _ h => nomatch h) List.nodup_nil hroom (fun _ _ _ _ _ _ => BindsTo.of_eq rfl) (by decide) (locs rfl) fun L cdv s1 _ C => ?_)
  exact wpAny_execs_cons (wpAny_Return_some (C.name rfl (k _ C.go)))
theorem grIter_spec (G : Gl K H0 mg mb) (F : KF K a) (S : St H0 A l s) {x : Addr} (hroom : A.depth < recursionLimit) {Q : Value → Shared → Prop} (k : ∀ s', Go H0 [] s s' → Q (.ref x) s') : wpAny (model prog w) A (call (.ref a.grIter) [.ref x]) Q E s := by
  refine wpAny_call (enterF (binds := [(Str.ofString "self", .ref x)]) G S F.grIter [] [] (fun _ h => nomatch h) List.nodup_nil hroom (fun _ _ _ _ _ _ => BindsTo.of_eq rfl) (by decide) (locs rfl) fun L cdv s1 _ C => ?_)
  exact wpAny_execs_cons (wpAny_Return_some (C.name rfl (k _ C.go)))
theorem ctIter_spec (G : Gl K H0 mg mb) (F : KF K a) (S : St H0 A l s) {x : Addr} (hroom : A.depth < recursionLimit) {Q : Value → Shared → Prop} (k : ∀ s', Go H0 [] s s' → Q (.ref x) s') : wpAny (model prog w) A (call (.ref a.ctIter) [.ref x]) Q E s := by
  refine wpAny_call (enterF (binds := [(Str.ofString "self", .ref x)]) G S F.ctIter [] [] (fun _ h => nomatch h) List.nodup_nil hroom (fun _ _ _ _ _ _ => BindsTo.of_eq rfl) (by decide) (locs rfl) fun L cdv s1 _ C => ?_)
  exact wpAny_execs_cons (wpAny_Return_some (C.name rfl (k _ C.go)))

set_option maxHeartbeats 1000000 in
theorem gbNext_tail (G : Gl K H0 mg mb) (F : KF K a) {x dg : Addr} {cg ck cv it kf tk : Value} {hv ht : Bool} {n : Int} {t₀ : Tok} {led : List (Addr × Obj)}
    (C : Cx H0 (A.deeper (envOf "groupby.__next__" dGbNext.2.2 L a.gbNext cdv)) (envOf "groupby.__next__" dGbNext.2.2 L a.gbNext cdv :: l) M s L m ((x, io a.gb dg (gbS cg ck cv true hv ht it kf (.int n t₀) tk)) :: led) s1)
    (hm : m "self" = some (.ref x)) (hM : x ∈ M) (hHx : H0.get? x = none) (hck : handedIn ck = true) (hroom : A.depth + 2 < recursionLimit) {Q : Flow → Shared → Prop}
    (k : ∀ y dy t u s', Cx H0 (A.deeper (envOf "groupby.__next__" dGbNext.2.2 L a.gbNext cdv)) (envOf "groupby.__next__" dGbNext.2.2 L a.gbNext cdv :: l) M s L (updM m "grouper" (.ref y))
      ((t, tupO [ck, .ref y]) :: (y, io a.gr dy (grS (.int (n + 1) u) (.ref x) ck)) :: (x, io a.gb dg (gbS (.int (n + 1) u) ck cv true hv true it kf (.int (n + 1) u) ck)) :: led) s' →
      s.heap.get? y = none → s.heap.get? dy = none → s.heap.get? t = none → Q (.ret (.ref t)) s') :
    wpAny (model prog w) (A.deeper (envOf "groupby.__next__" dGbNext.2.2 L a.gbNext cdv)) (execs (dGbNext.2.1.drop 2) (envOf "groupby.__next__" dGbNext.2.2 L a.gbNext cdv)) Q E s1 := by
  refine wpAny_execs_cons (plainObj_wpAny_Assign_Attribute (C.attr G 0 rfl hm F.gb F.gb1 rfl hck fun s2 C2 => C2.setA G 0 rfl hm F.gb F.gb9 (.inl hM) hHx (fun s3 C3 => ?_) (sl' := gbS cg ck cv true hv ht it kf (.int n t₀) ck) (he := by simp [putS, gbS])))
  refine wpAny_execs_cons (plainObj_wpAny_Assign_Attribute (wpAny_Constant_bool (C3.setA G 0 rfl hm F.gb F.gb5 (.inl hM) hHx (fun s4 C4 => ?_) (sl' := gbS cg ck cv true hv true it kf (.int n t₀) ck) (he := by simp [putS, gbS]))))
  refine wpAny_execs_cons (wpAny_Assign_Name (C4.callFn G F.ngr F.kgr (args_cons (C4.name hm (args_cons (C4.attr G 0 rfl hm F.gb F.gb9 rfl hck fun s5 C5 => args_nil ⟨C5.st.X G, ?_⟩))))))
  refine wpAny_call (gr_make G F C5.st (C5.ok 0 rfl) hHx hroom fun y dy u s6 g6 ox6 oy6 ny ndy => ?_)
  have C6 := C5.callAtN 0 rfl g6 ox6 (.inl hM) oy6 ny (hd := fun dx q => by cases q; exact ndy)
  refine C6.set fun s7 C7 => ?_
  refine wpAny_execs_cons (wpAny_Return_some (tup_made (args_cons (C7.attr G 1 rfl ((if_neg (by decide)).trans hm) F.gb F.gb1 rfl hck fun s8 C8 => args_cons (C8.name rfl (args_nil ⟨_, _, _, _, _, _, _, _, C8, by simp [sizeLine_eq], fun t s9 C9 n1 n2 => ?_⟩))))))
  exact k y dy t u s9 C9 (C5.noE ny).e (C5.noE ndy).e n1.e


set_option maxHeartbeats 1000000 in
theorem gbNext_more (G : Gl K H0 mg mb) (F : KF K a) (S : St H0 A l s) (κ : KeyOps) {x dg : Addr} {cg ck cv it kf tk : Value} {hv : Bool} {n : Int} {t₀ : Tok} {led : List (Addr × Obj)}
    (hled : ∀ p ∈ (x, io a.gb dg (gbS cg ck cv true hv true it kf (.int n t₀) tk)) :: led, Okk s.heap p) (hnod : (((x, io a.gb dg (gbS cg ck cv true hv true it kf (.int n t₀) tk)) :: led).map (·.1)).Nodup) (hHx : H0.get? x = none)
    (hpk : κ.P ck) (hpt : κ.P tk) (h1 : tokOf ck ≠ 0) (h2 : tokOf tk ≠ 0) (htok : tokOf tk = tokOf ck → κ.eq tk ck = true) (hne : κ.eq tk ck = false) (hd : handedIn ck = true) (hd' : handedIn tk = true)
    (hroom : A.depth + 2 < recursionLimit) {R : Result → Shared → Prop}
    (k : ∀ y dy t u s', Go H0 [x] s s' → Okk s'.heap (x, io a.gb dg (gbS (.int (n + 1) u) ck cv true hv true it kf (.int (n + 1) u) ck)) → Okk s'.heap (y, io a.gr dy (grS (.int (n + 1) u) (.ref x) ck)) → Okk s'.heap (t, tupO [ck, .ref y]) → (∀ p ∈ led, Okk s'.heap p) →
      s.heap.get? y = none → s.heap.get? dy = none → s.heap.get? t = none → y ≠ t → R (.ok (.ret (.ref t))) s') :
    codeAny (model prog w) A (.call (.ref a.gbNext) ⟨[.ref x], []⟩) R s := by
  refine enterF (binds := [(Str.ofString "self", .ref x)]) G S F.gbNext [x] _ hled hnod (Nat.lt_of_succ_lt (Nat.lt_of_succ_lt hroom)) (fun _ _ _ _ _ _ => BindsTo.of_eq rfl) (by decide) (locs rfl) fun L cdv s1 _ C => ?_
  refine wpAny_execs_cons (plainObj_wpAny_Assign_Attribute (wpAny_Constant_int ((C.tok 1).setA G 0 rfl rfl F.gb F.gb0 (.inl (by simp)) hHx (fun s2 C2 => ?_) (sl' := gbS (.int 0 s1.toks) ck cv true hv true it kf (.int n t₀) tk) (he := by simp [putS, gbS]))))
  refine wpAny_execs_cons (wpAny_While (codeAny_whileLoop (fun n' s' => n' = 0 ∧ s' = s2) (fun n' s' hI => ?_) 0 ⟨rfl, rfl⟩))
  obtain ⟨-, rfl⟩ := hI
  refine wpAny_isTrue_value (wpAny_Constant_bool (wpAny_truthy_bool ?_))
  refine ite_yes' rfl ?_
  refine wpAny_execs_cons (wpAny_If (wpAny_isTrue_value (C2.attr G 0 rfl rfl F.gb F.gb3 rfl rfl fun s3 C3 => wpAny_truthy_bool ?_)))
  refine ite_yes' rfl ?_
  refine wpAny_execs_cons (wpAny_If (wpAny_isTrue_Not (wpAny_isTrue_value (C3.attr G 0 rfl rfl F.gb F.gb5 rfl rfl fun s4 C4 => wpAny_truthy_bool ?_))))
  (try simp only [Bool.not_true, Bool.false_eq_true, if_false])
  refine wpAny_execs_nil ?_
  refine wpAny_execs_cons (wpAny_If (wpAny_isTrue_Not (wpAny_isTrue_value (C4.callFn G F.nsame F.ksame (args_cons (C4.attr G 0 rfl rfl F.gb F.gb9 rfl hd' fun s5 C5 => args_cons (C5.attr G 0 rfl rfl F.gb F.gb1 rfl hd fun s6 C6 => args_nil ⟨C6.st.X G, ?_⟩)))))))
  refine same_spec G C6.st F.same κ hpt hpk h2 h1 htok (Nat.lt_of_succ_lt hroom) fun s7 g7 => wpAny_truthy_bool ?_
  rw [hne]
  (try simp only [Bool.not_false, if_true])
  have C7 := C6.call g7
  refine wpAny_execs_cons (wpAny_Break ?_)
  refine gbNext_tail G F C7 rfl (.head _) hHx hd hroom fun y dy t u s8 C8 ny ndy nt => ?_
  exact k y dy t u s8 C8.go (C8.ok 2 rfl) (C8.ok 1 rfl) (C8.ok 0 rfl) (fun p hp => C8.has p (.tail _ (.tail _ (.tail _ hp)))) ny ndy nt (C8.ne (i := 1) (j := 0) rfl rfl)
end
end Mine
end
section
set_option maxRecDepth 100000
set_option autoImplicit false
namespace Mine
open PySem PySem.W PySem.Calls PyProof.Rows PySem.Spec
section
variable {K : Frag} {a : Adr} {H0 : Heap} {mg mb : Str → Option Value} {A : Around} {l : List Env} {M : List Addr} {s s1 : Shared} {L : Addr} {m : Str → Option Value} {prog : Program} {w : World} {E : Value → Shared → Prop} {cdv : Value}

set_option maxHeartbeats 1000000 in
theorem gbNext_first (G : Gl K H0 mg mb) (F : KF K a) (S : St H0 A l s) {x dg it lst ig di tp r : Addr} {i : Nat} {vs : List Value} {ep : Nat} {key : Value} {rest : List Value} {u : Tok} {cg ck cv tk : Value} {hv : Bool} {n : Int} {t₀ : Tok}
    (Z : Step K a H0 s.heap x dg it lst ig di tp r i vs ep key rest u (gbS cg ck cv false hv false (.ref it) (.ref ig) (.int n t₀) tk)) (hd : handedIn key = true)
    (hroom : A.depth + 3 < recursionLimit) (hh : A.handled = none) {R : Result → Shared → Prop}
    (k : ∀ y dy t u' s', Go H0 [x, it] s s' → Okk s'.heap (x, io a.gb dg (gbS (.int (n + 1) u') key (.ref r) true true true (.ref it) (.ref ig) (.int (n + 1) u') key)) → s'.heap.get? it = some (itO lst (i + 1)) →
      Okk s'.heap (y, io a.gr dy (grS (.int (n + 1) u') (.ref x) key)) → Okk s'.heap (t, tupO [key, .ref y]) →
      s.heap.get? y = none → s.heap.get? dy = none → s.heap.get? t = none → y ≠ t → R (.ok (.ret (.ref t))) s') :
    codeAny (model prog w) A (.call (.ref a.gbNext) ⟨[.ref x], []⟩) R s := by
  refine enterF (binds := [(Str.ofString "self", .ref x)]) G S F.gbNext [x, it] _ Z.has Z.nodup (Nat.lt_of_succ_lt (Nat.lt_of_succ_lt (Nat.lt_of_succ_lt hroom))) (fun _ _ _ _ _ _ => BindsTo.of_eq rfl) (by decide) (locs rfl) fun L cdv s1 _ C => ?_
  refine wpAny_execs_cons (plainObj_wpAny_Assign_Attribute (wpAny_Constant_int ((C.tok 1).setA G 0 rfl rfl F.gb F.gb0 (.inl (by simp)) Z.hx (fun s2 C2 => ?_) (sl' := gbS (.int 0 s1.toks) ck cv false hv false (.ref it) (.ref ig) (.int n t₀) tk) (he := by simp [putS, gbS]))))
  refine wpAny_execs_cons (wpAny_While (codeAny_whileLoop (fun n' s' => (n' = 1 ∧ s' = s2) ∨ (n' = 0 ∧ Cx H0 (A.deeper (envOf "groupby.__next__" dGbNext.2.2 L a.gbNext cdv)) (envOf "groupby.__next__" dGbNext.2.2 L a.gbNext cdv :: l) [x, it] s L (fun z => ([(Str.ofString "self", Value.ref x)] : List (Str × Value)).reverse.lookup z)
    [(x, io a.gb dg (gbS (.int 0 s1.toks) key (.ref r) true true false (.ref it) (.ref ig) (.int n t₀) tk)), (it, itO lst (i + 1)), (lst, lstO vs ep), (ig, io a.ig di [some (.ref tp)]), (tp, tupO [.int 0 u]), (r, tupO (key :: rest))] s')) (fun n' s' hI => ?_) 1 (.inl ⟨rfl, rfl⟩)))
  rcases hI with ⟨rfl, rfl⟩ | ⟨rfl, C2⟩
  · refine wpAny_isTrue_value (wpAny_Constant_bool (wpAny_truthy_bool ?_))
    refine ite_yes' rfl ?_
    refine wpAny_execs_cons (wpAny_If (wpAny_isTrue_value (C2.attr G 0 rfl rfl F.gb F.gb3 rfl rfl fun s3 C3 => wpAny_truthy_bool ?_)))
    refine ite_no' (by decide) ?_
    refine wpAny_execs_nil ?_
    refine wpAny_execs_cons (wpAny_Expr (C3.callMeth0 G 0 rfl rfl F.gb F.mgbS (wpAny_call ?_)))
    refine step_more G F C3.st (vs := vs) ⟨C3.has, Z.nodup, Z.hx, Z.hit, Z.row⟩ (Nat.lt_of_succ_lt hroom) hh fun s4 g4 ox4 hit4 => ?_
    have C4 := C3.callAt2 0 1 rfl rfl (by decide) g4 ox4 (okk_it hit4) (fun p hp => .inl hp) rfl rfl
    exact wpAny_execs_nil ⟨0, Nat.zero_lt_one, .inr ⟨rfl, C4⟩⟩
  · refine wpAny_isTrue_value (wpAny_Constant_bool (wpAny_truthy_bool ?_))
    first | refine ite_yes' rfl ?_ | refine ite_yes rfl ?_ | rw [if_pos rfl]
    refine wpAny_execs_cons (wpAny_If (wpAny_isTrue_value (C2.attr G 0 rfl rfl F.gb F.gb3 rfl rfl fun s3 C3 => wpAny_truthy_bool ?_)))
    refine ite_yes' rfl ?_
    refine wpAny_execs_cons (wpAny_If (wpAny_isTrue_Not (wpAny_isTrue_value (C3.attr G 0 rfl rfl F.gb F.gb5 rfl rfl fun s4 C4 => wpAny_truthy_bool ?_))))
    (try simp only [Bool.not_false, if_true])
    refine wpAny_execs_cons (wpAny_Break ?_)
    refine gbNext_tail G F C4 rfl (.head _) Z.hx hd (Nat.lt_of_succ_lt hroom) fun y dy t u' s8 C8 ny ndy nt => ?_
    exact k y dy t u' s8 C8.go (C8.ok 2 rfl) (C8.at 3 rfl) (C8.ok 1 rfl) (C8.ok 0 rfl) ny ndy nt (C8.ne (i := 1) (j := 0) rfl rfl)

set_option maxHeartbeats 1000000 in
theorem gbNext_end (G : Gl K H0 mg mb) (F : KF K a) (S : St H0 A l s) {x dg it lst : Addr} {i : Nat} {vs : List Value} {ep : Nat} {cg ck cv kf tk : Value} {hv ht : Bool} {se : Value}
    (hx : Okk s.heap (x, io a.gb dg (gbS cg ck cv false hv ht (.ref it) kf se tk))) (hit : s.heap.get? it = some (itO lst i)) (hl : s.heap.get? lst = some (lstO vs ep)) (hHx : H0.get? x = none) (hHit : H0.get? it = none) (hi : vs[i]? = none)
    (hroom : A.depth + 2 < recursionLimit) (hh : A.handled = none) {R : Result → Shared → Prop}
    (k : ∀ e t s', Fly H0 [x, it] s l e (.type "StopIteration") (.ref t) [(lst, lstO vs ep)] s' → R (.error (.ref e)) s') :
    codeAny (model prog w) A (.call (.ref a.gbNext) ⟨[.ref x], []⟩) R s := by
  have h1 : x ≠ it := ne_cls hx.at_ hit (by show Value.ref a.gb ≠ .type _; intro q; cases q)
  have h2 : x ≠ lst := ne_cls hx.at_ hl (by show Value.ref a.gb ≠ .type _; intro q; cases q)
  have h3 : it ≠ lst := ne_cls hit hl (by show Value.type "list_iterator" ≠ .type "list"; decide)
  refine enterF (binds := [(Str.ofString "self", .ref x)]) G S F.gbNext [x, it] [(x, io a.gb dg (gbS cg ck cv false hv ht (.ref it) kf se tk)), (it, itO lst i), (lst, lstO vs ep)] (fun p hp => ?_) (by simp [h1, h2, h3]) (Nat.lt_of_succ_lt (Nat.lt_of_succ_lt hroom)) (fun _ _ _ _ _ _ => BindsTo.of_eq rfl) (by decide) (locs rfl) fun L cdv s1 _ C => ?_
  · rcases List.mem_cons.mp hp with rfl | hp
    · exact hx
    rcases List.mem_cons.mp hp with rfl | hp
    · exact okk_it hit
    · rw [List.mem_singleton.mp hp]; exact okk_lst hl
  refine wpAny_execs_cons (plainObj_wpAny_Assign_Attribute (wpAny_Constant_int ((C.tok 1).setA G 0 rfl rfl F.gb F.gb0 (.inl (by simp)) hHx (fun s2 C2 => ?_) (sl' := gbS (.int 0 s1.toks) ck cv false hv ht (.ref it) kf se tk) (he := by simp [putS, gbS]))))
  refine wpAny_execs_cons (wpAny_While (codeAny_whileLoop (fun n' s' => n' = 0 ∧ s' = s2) (fun n' s' hI => ?_) 0 ⟨rfl, rfl⟩))
  obtain ⟨-, rfl⟩ := hI
  refine wpAny_isTrue_value (wpAny_Constant_bool (wpAny_truthy_bool ?_))
  refine ite_yes' rfl ?_
  refine wpAny_passesOwn PassesOwn.leaving ?_
  refine wpAny_execs_cons (wpAny_If (wpAny_isTrue_value (C2.attr G 0 rfl rfl F.gb F.gb3 rfl rfl fun s3 C3 => wpAny_truthy_bool ?_)))
  refine ite_no' (by decide) ?_
  refine wpAny_execs_nil ?_
  refine wpAny_execs_cons (wpAny_Expr (C3.callMeth0 G 0 rfl rfl F.gb F.mgbS (wpAny_call ?_)))
  refine step_end G F C3.st (C3.ok 0 rfl) (C3.at 1 rfl) (C3.at 2 rfl) hHit hi hroom hh fun e t s4 F4 => ?_
  have F5 := (F4.lift C3.go (fun p hp => .inl (.tail _ hp))).with [(lst, lstO vs ep)] (fun p hp => .inl (.tail _ (.tail _ hp)))
  exact F5.leave C3.st.frames rfl fun s5 F6 => k e t s5 F6
end
end Mine
end
section
set_option maxRecDepth 100000
set_option autoImplicit false
namespace Mine
open PySem PySem.W PySem.Calls PyProof.Rows PySem.Spec
section
variable {K : Frag} {a : Adr} {H0 : Heap} {mg mb : Str → Option Value} {A : Around} {l : List Env} {M : List Addr} {s s1 : Shared} {L : Addr} {m : Str → Option Value} {prog : Program} {w : World} {E : Value → Shared → Prop} {cdv : Value}

theorem grNext_tail (G : Gl K H0 mg mb) (F : KF K a) {x dg : Addr} {cg ck cv it kf se tk : Value} {hk hv ht : Bool} {led : List (Addr × Obj)}
    (C : Cx H0 (A.deeper (envOf "_grouper.__next__" dGrNext.2.2 L a.grNext cdv)) (envOf "_grouper.__next__" dGrNext.2.2 L a.grNext cdv :: l) M s L m ((x, io a.gb dg (gbS cg ck cv hk hv ht it kf se tk)) :: led) s1)
    (hm : m "gbo" = some (.ref x)) (hM : x ∈ M) (hHx : H0.get? x = none) (hcv : handedIn cv = true) {Q : Flow → Shared → Prop}
    (k : ∀ s', Cx H0 (A.deeper (envOf "_grouper.__next__" dGrNext.2.2 L a.grNext cdv)) (envOf "_grouper.__next__" dGrNext.2.2 L a.grNext cdv :: l) M s L (updM m "r" cv)
      ((x, io a.gb dg (gbS cg .none .none false false ht it kf se tk)) :: led) s' → Q (.ret cv) s') :
    wpAny (model prog w) (A.deeper (envOf "_grouper.__next__" dGrNext.2.2 L a.grNext cdv)) (execs (dGrNext.2.1.drop 4) (envOf "_grouper.__next__" dGrNext.2.2 L a.grNext cdv)) Q E s1 := by
  refine wpAny_execs_cons (wpAny_Assign_Name (C.attr G 0 rfl hm F.gb F.gb2 rfl hcv fun s2 C2 => C2.set fun s3 C3 => ?_))
  have hm3 : (updM m (Str.ofString "r") cv) "gbo" = some (.ref x) := (if_neg (by decide)).trans hm
  refine wpAny_execs_cons (plainObj_wpAny_Assign_Attribute (wpAny_Constant_none (C3.setA G 0 rfl hm3 F.gb F.gb2 (.inl hM) hHx (fun s4 C4 => ?_) (sl' := gbS cg ck .none hk hv ht it kf se tk) (he := by simp [putS, gbS]))))
  refine wpAny_execs_cons (plainObj_wpAny_Assign_Attribute (wpAny_Constant_bool (C4.setA G 0 rfl hm3 F.gb F.gb4 (.inl hM) hHx (fun s5 C5 => ?_) (sl' := gbS cg ck .none hk false ht it kf se tk) (he := by simp [putS, gbS]))))
  refine wpAny_execs_cons (plainObj_wpAny_Assign_Attribute (wpAny_Constant_none (C5.setA G 0 rfl hm3 F.gb F.gb1 (.inl hM) hHx (fun s6 C6 => ?_) (sl' := gbS cg .none .none hk false ht it kf se tk) (he := by simp [putS, gbS]))))
  refine wpAny_execs_cons (plainObj_wpAny_Assign_Attribute (wpAny_Constant_bool (C6.setA G 0 rfl hm3 F.gb F.gb3 (.inl hM) hHx (fun s7 C7 => ?_) (sl' := gbS cg .none .none false false ht it kf se tk) (he := by simp [putS, gbS]))))
  exact wpAny_execs_cons (wpAny_Return_some (C7.name rfl (k s7 C7)))

set_option maxHeartbeats 1000000 in
theorem grNext_val (G : Gl K H0 mg mb) (F : KF K a) (S : St H0 A l s) (κ : KeyOps) {x dg y dy : Addr} {ck cv it kf se tk key : Value} {hk ht : Bool} {n : Int} {t₁ t₂ : Tok}
    (hx : Okk s.heap (x, io a.gb dg (gbS (.int n t₁) ck cv hk true ht it kf se tk))) (hy : Okk s.heap (y, io a.gr dy (grS (.int n t₂) (.ref x) key))) (hxy : x ≠ y) (hHx : H0.get? x = none)
    (hpk : κ.P key) (hpt : κ.P ck) (h1 : tokOf key ≠ 0) (h2 : tokOf ck ≠ 0) (hee : κ.eq key ck = true) (hd : handedIn ck = true) (hd' : handedIn key = true) (hcv : handedIn cv = true)
    (hroom : A.depth + 2 < recursionLimit) {R : Result → Shared → Prop}
    (k : ∀ s', Go H0 [x] s s' → Okk s'.heap (x, io a.gb dg (gbS (.int n t₁) .none .none false false ht it kf se tk)) → R (.ok (.ret cv)) s') :
    codeAny (model prog w) A (.call (.ref a.grNext) ⟨[.ref y], []⟩) R s := by
  refine enterF (binds := [(Str.ofString "self", .ref y)]) G S F.grNext [x] [(x, io a.gb dg (gbS (.int n t₁) ck cv hk true ht it kf se tk)), (y, io a.gr dy (grS (.int n t₂) (.ref x) key))] (fun p hp => ?_) (by simp [hxy]) (Nat.lt_of_succ_lt (Nat.lt_of_succ_lt hroom)) (fun _ _ _ _ _ _ => BindsTo.of_eq rfl) (by decide) (locs rfl) fun L cdv s1 _ C => ?_
  · rcases List.mem_cons.mp hp with rfl | hp
    · exact hx
    · rw [List.mem_singleton.mp hp]; exact hy
  refine wpAny_execs_cons (wpAny_Assign_Name (C.attr G 1 rfl rfl F.gr F.gr1 rfl rfl fun s2 C2 => C2.set fun s3 C3 => ?_))
  refine wpAny_execs_cons (wpAny_If (wpAny_isTrue_Compare1 (C3.attr G 0 rfl rfl F.gb F.gb0 rfl rfl fun s4 C4 => C4.attr G 1 rfl rfl F.gr F.gr0 rfl rfl fun s5 C5 => PyProof.Rows.ne_int (wpAny_truthy_bool ?_))))
  simp only [bne_self_eq_false, Bool.false_eq_true, if_false]
  refine wpAny_execs_nil ?_
  refine wpAny_execs_cons (wpAny_If (wpAny_isTrue_Not (wpAny_isTrue_value (C5.attr G 0 rfl rfl F.gb F.gb4 rfl rfl fun s6 C6 => wpAny_truthy_bool ?_))))
  (try simp only [Bool.not_true, Bool.false_eq_true, if_false])
  refine wpAny_execs_nil ?_
  refine wpAny_execs_cons (wpAny_If (wpAny_isTrue_Not (wpAny_isTrue_value (C6.callFn G F.nsame F.ksame (args_cons (C6.attr G 1 rfl rfl F.gr F.gr2 rfl hd' fun s7 C7 => args_cons (C7.attr G 0 rfl rfl F.gb F.gb1 rfl hd fun s8 C8 => args_nil ⟨C8.st.X G, ?_⟩)))))))
  refine same_spec G C8.st F.same κ hpk hpt h1 h2 (fun _ => hee) (Nat.lt_of_succ_lt hroom) fun s9 g9 => wpAny_truthy_bool ?_
  rw [hee]
  (try simp only [Bool.not_true, Bool.false_eq_true, if_false])
  refine wpAny_execs_nil ?_
  have C9 := C8.call g9
  refine grNext_tail G F C9 rfl (.head _) hHx hcv fun s10 C10 => k s10 C10.go (C10.ok 0 rfl)

set_option maxHeartbeats 2000000 in
theorem grNext_step (G : Gl K H0 mg mb) (F : KF K a) (S : St H0 A l s) (κ : KeyOps) {x dg y dy it lst ig di tp r : Addr} {i : Nat} {vs : List Value} {ep : Nat} {k₂ : Value} {rest : List Value} {u : Tok} {ck cv se tk key : Value} {hk ht : Bool} {n : Int} {t₁ t₂ : Tok}
    (Z : Step K a H0 s.heap x dg it lst ig di tp r i vs ep k₂ rest u (gbS (.int n t₁) ck cv hk false ht (.ref it) (.ref ig) se tk)) (hy : Okk s.heap (y, io a.gr dy (grS (.int n t₂) (.ref x) key))) (hxy : ∀ q ∈ [x, it, lst, ig, tp, r], q ≠ y)
    (hpk : κ.P key) (hpt : κ.P k₂) (h1 : tokOf key ≠ 0) (h2 : tokOf k₂ ≠ 0) (htok : tokOf key = tokOf k₂ → κ.eq key k₂ = true) (hd : handedIn k₂ = true) (hd' : handedIn key = true)
    (hroom : A.depth + 3 < recursionLimit) (hh : A.handled = none) {R : Result → Shared → Prop}
    (k1 : κ.eq key k₂ = true → ∀ s', Go H0 [x, it] s s' → Okk s'.heap (x, io a.gb dg (gbS (.int n t₁) .none .none false false ht (.ref it) (.ref ig) se tk)) → s'.heap.get? it = some (itO lst (i + 1)) → R (.ok (.ret (.ref r))) s')
    (k2 : κ.eq key k₂ = false → ∀ e t s', Fly H0 [x, it] s l e (.type "StopIteration") (.ref t) [(x, io a.gb dg (gbS (.int n t₁) k₂ (.ref r) true true ht (.ref it) (.ref ig) se tk)), (it, itO lst (i + 1))] s' → R (.error (.ref e)) s') :
    codeAny (model prog w) A (.call (.ref a.grNext) ⟨[.ref y], []⟩) R s := by
  refine enterF (binds := [(Str.ofString "self", .ref y)]) G S F.grNext [x, it] ([(x, io a.gb dg (gbS (.int n t₁) ck cv hk false ht (.ref it) (.ref ig) se tk)), (it, itO lst i), (lst, lstO vs ep), (ig, io a.ig di [some (.ref tp)]), (tp, tupO [.int 0 u]), (r, tupO (k₂ :: rest)), (y, io a.gr dy (grS (.int n t₂) (.ref x) key))]) (fun p hp => ?_) ?_ (Nat.lt_of_succ_lt (Nat.lt_of_succ_lt (Nat.lt_of_succ_lt hroom))) (fun _ _ _ _ _ _ => BindsTo.of_eq rfl) (by decide) (locs rfl) fun L cdv s1 _ C => ?_
  · rcases List.mem_append.mp (show p ∈ [(x, io a.gb dg (gbS (.int n t₁) ck cv hk false ht (.ref it) (.ref ig) se tk)), (it, itO lst i), (lst, lstO vs ep), (ig, io a.ig di [some (.ref tp)]), (tp, tupO [.int 0 u]), (r, tupO (k₂ :: rest))] ++ [(y, io a.gr dy (grS (.int n t₂) (.ref x) key))] from hp) with hp | hp
    · exact Z.has p hp
    · rw [List.mem_singleton.mp hp]; exact hy
  · show ([x, it, lst, ig, tp, r] ++ [y]).Nodup
    exact List.nodup_append.mpr ⟨Z.nodup, by simp, fun p hp q hq => by rw [List.mem_singleton.mp hq]; exact hxy p hp⟩
  refine wpAny_execs_cons (wpAny_Assign_Name (C.attr G 6 rfl rfl F.gr F.gr1 rfl rfl fun s2 C2 => C2.set fun s3 C3 => ?_))
  refine wpAny_execs_cons (wpAny_If (wpAny_isTrue_Compare1 (C3.attr G 0 rfl rfl F.gb F.gb0 rfl rfl fun s4 C4 => C4.attr G 6 rfl rfl F.gr F.gr0 rfl rfl fun s5 C5 => PyProof.Rows.ne_int (wpAny_truthy_bool ?_))))
  simp only [bne_self_eq_false, Bool.false_eq_true, if_false]
  refine wpAny_execs_nil ?_
  refine wpAny_execs_cons (wpAny_If (wpAny_isTrue_Not (wpAny_isTrue_value (C5.attr G 0 rfl rfl F.gb F.gb4 rfl rfl fun s6 C6 => wpAny_truthy_bool ?_))))
  (try simp only [Bool.not_false, if_true])
  refine wpAny_execs_cons (wpAny_Expr (C6.callMeth0 G 0 rfl rfl F.gb F.mgbS (wpAny_call ?_)))
  refine step_more G F C6.st (vs := vs) ⟨fun p hp => C6.has p (List.mem_append_left [(y, io a.gr dy (grS (.int n t₂) (.ref x) key))] hp), Z.nodup, Z.hx, Z.hit, Z.row⟩ (Nat.lt_of_succ_lt hroom) hh fun s7 g7 ox7 hit7 => ?_
  have C7 := C6.callAt2 0 1 rfl rfl (by decide) g7 ox7 (okk_it hit7) (fun p hp => .inl hp) rfl rfl
  refine wpAny_execs_nil ?_
  refine wpAny_execs_cons (wpAny_If (wpAny_isTrue_Not (wpAny_isTrue_value (C7.callFn G F.nsame F.ksame (args_cons (C7.attr G 6 rfl rfl F.gr F.gr2 rfl hd' fun s7 C7 => args_cons (C7.attr G 0 rfl rfl F.gb F.gb1 rfl hd fun s8 C8 => args_nil ⟨C8.st.X G, ?_⟩)))))))
  refine same_spec G C8.st F.same κ hpk hpt h1 h2 htok (Nat.lt_of_succ_lt (Nat.lt_of_succ_lt hroom)) fun s9 g9 => wpAny_truthy_bool ?_
  have C9 := C8.call g9
  cases he : κ.eq key k₂ with
  | true =>
    (try simp only [Bool.not_true, Bool.false_eq_true, if_false])
    refine wpAny_execs_nil ?_
    refine grNext_tail G F C9 rfl (.head _) Z.hx rfl fun s10 C10 => k1 he s10 C10.go (C10.ok 0 rfl) (C10.at 1 rfl)
  | false =>
    (try simp only [Bool.not_false, if_true])
    refine wpAny_execs_cons (owsi_raiseC hh (C9.boot G F.nstop Boot.«StopIteration» ⟨rfl, rfl⟩) fun h' e hm => ?_)
    refine C9.raised (cls := .type "StopIteration") ⟨hm.keeps, hm.new, hm.there⟩ rfl fun t s5 F5 _ => ?_
    refine k2 he e t s5 (F5.with _ fun p hp => .inl ?_)
    rcases List.mem_cons.mp hp with rfl | hp
    · exact .head _
    · rw [List.mem_singleton.mp hp]; exact .tail _ (.head _)

set_option maxHeartbeats 1000000 in
theorem grNext_end (G : Gl K H0 mg mb) (F : KF K a) (S : St H0 A l s) {x dg y dy it lst : Addr} {i : Nat} {vs : List Value} {ep : Nat} {ck cv kf se tk key : Value} {hk ht : Bool} {n : Int} {t₁ t₂ : Tok}
    (hx : Okk s.heap (x, io a.gb dg (gbS (.int n t₁) ck cv hk false ht (.ref it) kf se tk))) (hit : s.heap.get? it = some (itO lst i)) (hl : s.heap.get? lst = some (lstO vs ep)) (hy : Okk s.heap (y, io a.gr dy (grS (.int n t₂) (.ref x) key))) (hxy : x ≠ y) (hHit : H0.get? it = none) (hi : vs[i]? = none)
    (hroom : A.depth + 2 < recursionLimit) (hh : A.handled = none) {R : Result → Shared → Prop}
    (k : ∀ e t s', Fly H0 [it] s l e (.type "StopIteration") (.ref t) [(it, itE i)] s' → R (.error (.ref e)) s') :
    codeAny (model prog w) A (.call (.ref a.grNext) ⟨[.ref y], []⟩) R s := by
  have h1 : x ≠ it := ne_cls hx.at_ hit (by show Value.ref a.gb ≠ .type _; intro q; cases q)
  have h2 : x ≠ lst := ne_cls hx.at_ hl (by show Value.ref a.gb ≠ .type _; intro q; cases q)
  have h3 : it ≠ lst := ne_cls hit hl (by show Value.type "list_iterator" ≠ .type "list"; decide)
  have h4 : y ≠ it := ne_cls hy.at_ hit (by show Value.ref a.gr ≠ .type _; intro q; cases q)
  have h5 : y ≠ lst := ne_cls hy.at_ hl (by show Value.ref a.gr ≠ .type _; intro q; cases q)
  refine enterF (binds := [(Str.ofString "self", .ref y)]) G S F.grNext [it] [(x, io a.gb dg (gbS (.int n t₁) ck cv hk false ht (.ref it) kf se tk)), (it, itO lst i), (lst, lstO vs ep), (y, io a.gr dy (grS (.int n t₂) (.ref x) key))] (fun p hp => ?_) (by simp [h1, h2, h3, hxy, h4.symm, h5.symm]) (Nat.lt_of_succ_lt (Nat.lt_of_succ_lt hroom)) (fun _ _ _ _ _ _ => BindsTo.of_eq rfl) (by decide) (locs rfl) fun L cdv s1 _ C => ?_
  · rcases List.mem_cons.mp hp with rfl | hp
    · exact hx
    rcases List.mem_cons.mp hp with rfl | hp
    · exact okk_it hit
    rcases List.mem_cons.mp hp with rfl | hp
    · exact okk_lst hl
    · rw [List.mem_singleton.mp hp]; exact hy
  refine wpAny_execs_cons (wpAny_Assign_Name (C.attr G 3 rfl rfl F.gr F.gr1 rfl rfl fun s2 C2 => C2.set fun s3 C3 => ?_))
  refine wpAny_execs_cons (wpAny_If (wpAny_isTrue_Compare1 (C3.attr G 0 rfl rfl F.gb F.gb0 rfl rfl fun s4 C4 => C4.attr G 3 rfl rfl F.gr F.gr0 rfl rfl fun s5 C5 => PyProof.Rows.ne_int (wpAny_truthy_bool ?_))))
  simp only [bne_self_eq_false, Bool.false_eq_true, if_false]
  refine wpAny_execs_nil ?_
  refine wpAny_execs_cons (wpAny_If (wpAny_isTrue_Not (wpAny_isTrue_value (C5.attr G 0 rfl rfl F.gb F.gb4 rfl rfl fun s6 C6 => wpAny_truthy_bool ?_))))
  (try simp only [Bool.not_false, if_true])
  refine wpAny_execs_cons (wpAny_Expr (C6.callMeth0 G 0 rfl rfl F.gb F.mgbS (wpAny_call ?_)))
  refine step_end G F C6.st (C6.ok 0 rfl) (C6.at 1 rfl) (C6.at 2 rfl) hHit hi hroom hh fun e t s4 F4 => ?_
  have F5 := (F4.lift C6.go (fun p hp => .inl hp)).with [(it, itE i)] (fun p hp => .inl (.tail _ (by rw [List.mem_singleton.mp hp]; exact .head _)))
  exact F5.leave C6.st.frames rfl fun s5 F6 => k e t s5 F6
end
end Mine
end
section
set_option maxRecDepth 100000
set_option autoImplicit false
namespace Mine
open PySem PySem.W PySem.Calls PyProof.Rows PySem.Spec

theorem wpAny_runValue {M : Model} {A : Around} {E : Value → Shared → Prop} {s : Shared} {c : Code} {Q : Value → Shared → Prop} (hc : codeAny M A c (rCall Q E) s) : wpAny M A (runValue c) Q E s := PySem.wpAny_runValue hc
theorem codeAny_plain {prog : Program} {w : World} {A : Around} {s : Shared} {R : Result → Shared → Prop} {id : String} {args : Args} {b : Builtin} (hb : entryFor table id = some b) (hp : plainId id = true) (h : wpAny (model prog w) A.in1 (b args) (qFin prog w A R) (eErr R) s) : codeAny (model prog w) A (.builtin id args) R s :=
  codeAny_builtin hb (by rw [Around.under_plainId hp _]; exact h)
structure Lg (h : Heap) (led : List (Addr × Obj)) : Prop where
  has : ∀ p ∈ led, Okk h p
  nodup : (led.map (·.1)).Nodup
section
variable {H0 : Heap} {M : List Addr} {s s' : Shared} {led : List (Addr × Obj)}
theorem Lg.at (C : Lg s.heap led) (i : Nat) {a : Addr} {o : Obj} (h : led[i]? = some (a, o)) : s.heap.get? a = some o := (C.has _ (List.mem_of_getElem? h)).at_
theorem Lg.ok (C : Lg s.heap led) (i : Nat) {a : Addr} {o : Obj} (h : led[i]? = some (a, o)) : Okk s.heap (a, o) := C.has _ (List.mem_of_getElem? h)
theorem Lg.go (C : Lg s.heap led) (G : Go H0 [] s s') : Lg s'.heap led := ⟨fun p hp => (C.has p hp).go G (fun h => nomatch h), C.nodup⟩
theorem Lg.turn (C : Lg s.heap led) (G : Go H0 M s s') (led' : List (Addr × Obj)) (hs : led'.map (·.1) = led.map (·.1)) (h : ∀ p ∈ led', (p ∈ led ∧ p.1 ∉ M) ∨ Okk s'.heap p) : Lg s'.heap led' :=
  ⟨fun p hp => (h p hp).elim (fun q => (C.has p q.1).go G q.2) id, by rw [hs]; exact C.nodup⟩
theorem Lg.turn1 (C : Lg s.heap led) (i : Nat) {x : Addr} {ox ox' : Obj} (hi : led[i]? = some (x, ox)) (G : Go H0 [x] s s') (hox : Okk s'.heap (x, ox')) : Lg s'.heap (led.set i (x, ox')) := by
  refine C.turn G _ (set_map_fst hi) fun p hp => ?_
  obtain ⟨k, hk, e⟩ := List.mem_iff_getElem.mp hp
  have hk' : (led.set i (x, ox'))[k]? = some p := by rw [List.getElem?_eq_getElem hk, e]
  rw [List.getElem?_set] at hk'
  split at hk'
  · split at hk'
    · cases hk'; exact .inr hox
    · cases hk'
  · rename_i hik
    obtain ⟨u, v⟩ := p
    exact .inl ⟨List.mem_of_getElem? hk', fun q => nodup_ne C.nodup hi hk' hik (List.mem_singleton.mp q).symm⟩
theorem Lg.turn2 (C : Lg s.heap led) (i j : Nat) {x y : Addr} {ox oy ox' oy' : Obj} (hi : led[i]? = some (x, ox)) (hj : led[j]? = some (y, oy)) (hij : i ≠ j) (G : Go H0 [x, y] s s') (hox : Okk s'.heap (x, ox')) (hoy : Okk s'.heap (y, oy')) :
    Lg s'.heap ((led.set i (x, ox')).set j (y, oy')) := by
  have hj' : (led.set i (x, ox'))[j]? = some (y, oy) := by rw [List.getElem?_set_ne hij]; exact hj
  refine C.turn G _ (by rw [set_map_fst hj', set_map_fst hi]) fun p hp => ?_
  obtain ⟨k, hk, e⟩ := List.mem_iff_getElem.mp hp
  have hk' : ((led.set i (x, ox')).set j (y, oy'))[k]? = some p := by rw [List.getElem?_eq_getElem hk, e]
  rw [List.getElem?_set] at hk'
  split at hk'
  · split at hk'
    · cases hk'; exact .inr hoy
    · cases hk'
  · rename_i hjk
    rw [List.getElem?_set] at hk'
    split at hk'
    · split at hk'
      · cases hk'; exact .inr hox
      · cases hk'
    · rename_i hik
      obtain ⟨u, v⟩ := p
      refine .inl ⟨List.mem_of_getElem? hk', fun q => ?_⟩
      rcases List.mem_cons.mp q with q | q
      · exact nodup_ne C.nodup hi hk' hik q.symm
      · exact nodup_ne C.nodup hj hk' hjk (List.mem_singleton.mp q).symm
theorem Lg.add (C : Lg s.heap led) {a : Addr} {o : Obj} (h : Okk s.heap (a, o)) (hd : ∀ p ∈ led, p.1 ≠ a) : Lg s.heap ((a, o) :: led) := by
  refine ⟨fun p hp => (List.mem_cons.mp hp).elim (fun e => by rw [e]; exact h) (C.has p), ?_⟩
  rw [List.map_cons]
  refine List.nodup_cons.mpr ⟨fun hm => ?_, C.nodup⟩
  obtain ⟨p, hp, e⟩ := List.mem_map.mp hm
  exact hd p hp e
theorem Lg.sub (C : Lg s.heap led) {led' : List (Addr × Obj)} (h : led'.Sublist led) : Lg s.heap led' := ⟨fun p hp => C.has p (h.subset hp), C.nodup.sublist (h.map _)⟩
theorem Lg.upd (C : Lg s.heap led) (i : Nat) {a : Addr} {o : Obj} {f : Obj → Obj} (hi : led[i]? = some (a, o)) (hf : (f o).isFreed = false) (hn : nd (f o)) (hd : (f o).dict = o.dict) (hH : H0.get? a = none) :
    Go H0 [a] s { s with heap := s.heap.update a f } ∧ Lg (s.heap.update a f) (led.set i (a, f o)) := by
  have G : Go H0 [a] s { s with heap := s.heap.update a f } := .upd o (C.at i hi) (C.ok i hi).nd hf hn hH
  exact ⟨G, C.turn1 i hi G ⟨Heap.get?_update_self f (C.at i hi) hf, hn, fun dx e => ((C.ok i hi).dx dx (hd ▸ e)).go G⟩⟩
section
variable {MM : Model} {A : Around} {E : Value → Shared → Prop}
theorem Lg.setF (C : Lg s.heap led) (i j : Nat) {a : Addr} {o : Obj} {vs : Array Value} {v : Value} {Q : Unit → Shared → Prop} (hi : led[i]? = some (a, o)) (hd : o.data = .fields vs) (hj : j < vs.size) (hdx : (Obj.mapFields (·.setIfInBounds j v) o).dict = o.dict) (hH : H0.get? a = none)
    (k : ∀ s1, Go H0 [a] s s1 → Lg s1.heap (led.set i (a, Obj.mapFields (·.setIfInBounds j v) o)) → Q () s1) : wpAny MM A (setField (.ref a) j v) Q E s := by
  have h := C.upd (H0 := H0) (s := s) i (f := Obj.mapFields (·.setIfInBounds j v)) hi (Obj.isFreed_of_fields (Obj.data_mapFields hd _)) (fun es n e => by rw [Obj.data_mapFields hd] at e; cases e) hdx hH
  exact wpAny_setField (C.at i hi) hd hj (k _ h.1 h.2)
theorem Lg.setS (C : Lg s.heap led) (i j : Nat) {a : Addr} {o : Obj} {vs : Array Value} {n : Nat} {v : Value} {Q : Unit → Shared → Prop} (hi : led[i]? = some (a, o)) (hd : o.data = .seq vs n) (hz : vs.size ≤ sizeLine) (hf : (Obj.mapSeq (·.setIfInBounds j v) o).isFreed = false) (hn : nd (Obj.mapSeq (·.setIfInBounds j v) o))
    (hdx : (Obj.mapSeq (·.setIfInBounds j v) o).dict = o.dict) (hH : H0.get? a = none)
    (k : ∀ s1, Go H0 [a] s s1 → Lg s1.heap (led.set i (a, Obj.mapSeq (·.setIfInBounds j v) o)) → Q () s1) : wpAny MM A (updateSeq a (·.setIfInBounds j v)) Q E s := by
  have h := C.upd (H0 := H0) (s := s) i (f := Obj.mapSeq (·.setIfInBounds j v)) hi hf hn hdx hH
  exact wpAny_updateSeq (C.at i hi) hd (k _ h.1 h.2) hz (by rw [Array.size_setIfInBounds]; exact Nat.le_succ_of_le hz)
theorem Lg.push (C : Lg s.heap led) {o : Obj} {P : Addr → Shared → Prop} (hn : nd o) (hd : o.dict = none) (hf : o.isFreed = false) (k : ∀ a s1, Go H0 [] s s1 → Lg s1.heap ((a, o) :: led) → s.heap.get? a = none → P a s1) : P s.heap.objs.size { s with heap := s.heap.push o } := by
  have n1 : s.heap.get? s.heap.objs.size = none := not_at
  have g : Go H0 [] s { s with heap := s.heap.push o } := Go.push _
  exact k _ _ g ((C.go g).add (s := { s with heap := s.heap.push o }) (.of (Heap.get?_push_size _ hf) hn hd) (fun p hp => ne_nd (C.has p hp).at_ n1)) n1
theorem Lg.new (C : Lg s.heap led) {vs : List Value} {Q : Value → Shared → Prop} (k : ∀ a s1, Go H0 [] s s1 → Lg s1.heap ((a, tupO vs) :: led) → s.heap.get? a = none → Q (.ref a) s1) (hsz : vs.length ≤ sizeLine) : wpAny MM A (newTuple vs) Q E s :=
  wpAny_newTuple (C.push (P := fun a s1 => Q (.ref a) s1) nd_seq rfl rfl k) hsz
theorem new_lst {vs : List Value} {Q : Value → Shared → Prop} (k : ∀ D s1, Go H0 [] s s1 → s1.heap.get? D = some (lstO vs) → s.heap.get? D = none → Q (.ref D) s1) (hsz : vs.length ≤ sizeLine) : wpAny MM A (newList vs) Q E s :=
  wpAny_newObj_type (k _ _ (Go.push _) (Heap.get?_push_size _ rfl) not_at) (by show vs.toArray.size ≤ sizeLine; rw [List.size_toArray]; exact hsz)
end
end

section
variable {K : Frag} {a : Adr} {H0 : Heap} {mg mb : Str → Option Value} {A : Around} {l : List Env} {s : Shared} {prog : Program} {w : World} {E : Value → Shared → Prop}

theorem next_inst (X : K.In s.heap) {x c dx g : Addr} {sl : List (Option Value)} {Q : Option Value → Shared → Prop} (hx : Okk s.heap (x, io c dx sl)) (mk : MethK K c "__next__" g)
    (h : codeAny (model prog w) A (.call (.ref g) ⟨[.ref x], []⟩) (fun r s' => match r with | .ok (.ret v) => Q (some v) s' | .ok _ => False | .error e => OwitStop (model prog w) A Q E e s') s) : wpAny (model prog w) A (pyNext (.ref x)) Q E s := by
  obtain ⟨od, I, hod⟩ := instAt hx
  unfold pyNext
  refine wpAny_bind (wpAny_attempt (special_fn (name := "__next__") (args := []) X I mk.fi mk.ft (wpAny_mono (wpAny_call (Q := fun v s' => Q (some v) s') (E := OwitStop (model prog w) A Q E) h) (fun v s' hq => ?_) (fun e s' he => ?_))))
  · exact wpAny_pure hq
  · refine wpAny_bind (wpAny_mono he (fun b s₂ hb => ?_) fun _ _ z => z)
    cases b with
    | true => exact wpAny_pure hb
    | false => exact wpAny_throw hb
theorem stop_fly {M : List Addr} {s₀ : Shared} {e : Addr} {a0 : Value} {led : List (Addr × Obj)} {Q : Option Value → Shared → Prop} (F : Fly H0 M s₀ l e (.type "StopIteration") a0 led s) (h : Q none s) : OwitStop (model prog w) A Q E (.ref e) s := by
  unfold OwitStop
  refine wpAny_isInstance F.typ owsi_facts.sub ?_
  show (if true = true then Q none s else E (.ref e) s)
  rw [if_pos rfl]; exact h

theorem iter_inst (X : K.In s.heap) {x c dx g g' : Addr} {sl : List (Option Value)} {Q : Value → Shared → Prop} (hx : Okk s.heap (x, io c dx sl)) (mk : MethK K c "__iter__" g) (mk' : MethK K c "__next__" g')
    (h : wpAny (model prog w) A (call (.ref g) [.ref x]) (fun v s' => v = .ref x ∧ K.In s'.heap ∧ Okk s'.heap (x, io c dx sl) ∧ Q (.ref x) s') E s) : wpAny (model prog w) A (pyIter (.ref x)) Q E s := by
  obtain ⟨od, I, hod⟩ := instAt hx
  have fin : wpAny (model prog w) A (call (.ref g) [.ref x] >>= fun v => pure (some v)) (fun r s' => r = some (.ref x) ∧ K.In s'.heap ∧ Okk s'.heap (x, io c dx sl) ∧ Q (.ref x) s') E s :=
    wpAny_bind (wpAny_mono h (fun v s' ⟨h1, h2⟩ => wpAny_pure ⟨by rw [h1], h2⟩) fun _ _ z => z)
  have one : ∀ refuse : Sem Value, wpAny (model prog w) A (callSpecialIfBoundUnlessNone? (.ref x) "__iter__" refuse) (fun r s' => r = some (.ref x) ∧ K.In s'.heap ∧ Okk s'.heap (x, io c dx sl) ∧ Q (.ref x) s') E s := by
    intro refuse
    simp only [callSpecialIfBoundUnlessNone?, bindSpecialIfBound?]
    refine wpAny_holding (wpAny_bind (wpAny_bind (wpAny_bind (I.type.here ((looks_findIn X mk.fi).here ?_)))))
    refine wpAny_bind (wpAny_askSetting (wpAny_ite ?_))
    have fin2 : wpAny (model prog w) A (if (Value.ref g == Value.none) = true then (refuse >>= fun v => pure (some v)) else (call (.ref g) [.ref x] >>= fun v => pure (some v))) (fun r s' => r = some (.ref x) ∧ K.In s'.heap ∧ Okk s'.heap (x, io c dx sl) ∧ Q (.ref x) s') E s := by
      first | refine ite_no' rfl ?_ | refine ite_no (show ¬ ((Value.ref g == Value.none) = true) from Bool.false_ne_true) ?_ | rw [if_neg (show ¬ ((Value.ref g == Value.none) = true) from Bool.false_ne_true)]
      exact fin
    split
    · exact wpAny_bind ((bind_fn X _ mk.ft).here (wpAny_pure (by exact fin2)))
    · exact wpAny_tryCatch (wpAny_bind ((bind_fn X _ mk.ft).here (wpAny_pure (by exact fin2))))
  unfold pyIter
  refine wpAny_bind (wpAny_bind (I.type.here ((looks_findIn X mk.fi).here ?_)))
  show wpAny (model prog w) A (callSpecialIfBoundUnlessNone? (.ref x) "__iter__" _ >>= _) Q E s
  refine wpAny_bind (wpAny_mono (one _) (fun r s' hr => ?_) fun _ _ z => z)
  obtain ⟨rfl, hX, hO, hq⟩ := hr
  obtain ⟨od', I', _⟩ := instAt hO
  refine wpAny_bind (m := specialOf (.ref x) "__next__") (wpAny_bind (I'.type.here ((looks_findIn hX mk'.fi).here ?_)))
  exact wpAny_pure hq

inductive ExtTurn (S : Addr) (Inv : Nat → List Value → Shared → Prop) (n : Nat) (acc : List Value) (v : Value) (s' : Shared) : Prop
  | mk (c : Nat) (at_ : s'.heap.get? S = some (lstO acc c)) (room : acc.length < sizeLine) (n' : Nat) (lt : n' < n) (inv : Inv n' (acc ++ [v]) { s' with heap := s'.heap.update S (Obj.mapSeq (·.push v)) }) : ExtTurn S Inv n acc v s'
noncomputable abbrev qExt (S : Addr) (res : Value) (R : Result → Shared → Prop) (Inv : Nat → List Value → Shared → Prop) (n : Nat) (acc : List Value) : Option Value → Shared → Prop := fun r s' => match r with
  | none => R (.ok (.ret res)) s'
  | some v => ExtTurn S Inv n acc v s'
theorem ext_loop {S I : Addr} {res : Value} {R : Result → Shared → Prop} (Inv : Nat → List Value → Shared → Prop)
    (turn : ∀ n acc s, Inv n acc s → wpAny (model prog w) A.in1 (pyNext (.ref I)) (qExt S res R Inv n acc) (eErr R) s) :
    ∀ n acc s, Inv n acc s → codeAny (model prog w) A (.builtin "list.extend.loop" ⟨[.ref S, .ref I, res], []⟩) R s := by
  intro n
  induction n using Nat.strongRecOn with
  | ind n ih =>
    intro acc s hI
    refine codeAny_plain F.entry_extend_loop F.plain_extend_loop ?_
    show wpAny _ A.in1 (pyNext (.ref I) >>= _) _ _ s
    refine wpAny_bind (wpAny_mono (turn n acc s hI) (fun r s' hr => ?_) fun _ _ z => z)
    cases r with
    | none => exact wpAny_pure hr
    | some v =>
      obtain ⟨c, hS, hz, n', hn, hI'⟩ := hr
      show wpAny _ A.in1 (updateSeq S (·.push v) >>= _) _ _ _
      refine wpAny_bind ?_
      exact wpAny_updateSeq hS rfl (wpAny_pure ⟨plainId_quiet F.plain_extend_loop _, ih n' hn _ _ hI'⟩) (by rw [List.size_toArray]; lia  ) (by show (acc.toArray.push v).size ≤ sizeLine + 1; rw [Array.size_push, List.size_toArray]; lia  )
end
end Mine
end
section
set_option maxRecDepth 100000
set_option autoImplicit false
namespace Mine
open PySem PySem.W PySem.Calls PyProof.Rows PySem.Spec
section
variable {K : Frag} {a : Adr} {H0 : Heap} {mg mb : Str → Option Value} {A : Around} {l : List Env} {s : Shared} {prog : Program} {w : World} {E : Value → Shared → Prop}

theorem specialOf_inst {M : Model} (X : K.In s.heap) {x c dx : Addr} {sl : List (Option Value)} {name : Str} {r : Option Value} (hx : Okk s.heap (x, io c dx sl)) (e : findIn K (.ref c) name = some r) : Looks M s.heap (specialOf (.ref x) name) r := by
  obtain ⟨od, I, hod⟩ := instAt hx
  exact I.type.andThen (looks_findIn X e)

theorem touched {S : Addr} {c : Nat} (hS : s.heap.get? S = some (lstO [] c)) (hH : H0.get? S = none) {Q : Unit → Shared → Prop} {M : Model}
    (h : ∀ s' c', Go H0 [S] s s' → s'.heap.get? S = some (lstO [] c') → Q () s') : wpAny M A (Builtin.List.listTouch (.ref S)) Q E s := by
  show wpAny M A (updateSeq S (·.push .none) >>= fun _ => updateSeq S (·.pop)) Q E s
  refine wpAny_bind (wpAny_updateSeq hS rfl ?_)
  have hS₂ := Heap.get?_update_self (Obj.mapSeq (·.push Value.none)) hS rfl
  refine wpAny_updateSeq (hz := by seq_fits) hS₂ rfl ?_
  have hS₃ := Heap.get?_update_self (Obj.mapSeq (·.pop)) hS₂ rfl
  have G1 : Go H0 [S] s { s with heap := s.heap.update S (Obj.mapSeq (·.push Value.none)) } := .upd _ hS nd_seq rfl nd_seq hH
  have G2 : Go H0 [S] { s with heap := s.heap.update S (Obj.mapSeq (·.push Value.none)) } { s with heap := (s.heap.update S (Obj.mapSeq (·.push Value.none))).update S (Obj.mapSeq (·.pop)) } := .upd (s := { s with heap := s.heap.update S (Obj.mapSeq (·.push Value.none)) }) _ hS₂ nd_seq rfl nd_seq hH
  exact h _ _ (G1.trans G2) hS₃

theorem extend_inst {y c dy : Addr} {sl : List (Option Value)} {S g g' : Addr} {ep : Nat} {res : Value} {R : Result → Shared → Prop} (X : K.In s.heap) (hy : Okk s.heap (y, io c dy sl)) (mk : MethK K c "__iter__" g) (mk' : MethK K c "__next__" g')
    (hl : findIn K (.ref c) "__len__" = some none) (hh : findIn K (.ref c) "__length_hint__" = some none) (hS : s.heap.get? S = some (lstO [] ep)) (hH : H0.get? S = none) (hne : S ≠ y)
    (hit : ∀ (Q : Value → Shared → Prop) E, (∀ s', Go H0 [] s s' → Q (.ref y) s') → wpAny (model prog w) A.in1 (call (.ref g) [.ref y]) Q E s) (hX : ∀ s', Go H0 [] s s' → K.In s'.heap)
    (h : ∀ s' c', Go H0 [S] s s' → s'.heap.get? S = some (lstO [] c') → codeAny (model prog w) A (.builtin "list.extend.loop" ⟨[.ref S, .ref y, res], []⟩) R s') :
    wpAny (model prog w) A.in1 (Builtin.List.listExtendWith (.ref S) (.ref y) res)
      (fun fin s' => match fin with | .done f => R (.ok f) s' | .again c' => c'.quiet = true ∧ codeAny (model prog w) A c' R s') (eErr R) s := by
  obtain ⟨od, I, hod⟩ := instAt hy
  unfold Builtin.List.listExtendWith
  refine wpAny_bind (I.type.here ?_)
  have h1 : Builtin.List.listSameRef (.ref S) (.ref y) = false := by simp [Builtin.List.listSameRef, hne]
  have h2 : (Value.ref c == Value.type "list") = false := rfl
  have h3 : (Value.ref c == Value.type "tuple") = false := rfl
  simp only [h1, h2, h3, Bool.or_false, Bool.false_eq_true, if_false]
  refine wpAny_bind (iter_inst X hy mk mk' (hit _ _ fun s1 g1 => ⟨rfl, hX s1 g1, hy.go g1 (fun h => nomatch h), ?_⟩))
  have hy1 := hy.go g1 (fun h => nomatch h)
  have X1 := hX s1 g1
  refine wpAny_bind (wpAny_holding ?_)
  unfold Builtin.List.listLengthHint
  refine wpAny_bind ((specialOf_inst X1 hy1 hl).here ?_)
  show wpAny _ A.in1 (specialOf (Value.ref y) (Str.ofString "__length_hint__") >>= _) _ _ _
  refine wpAny_bind ((specialOf_inst X1 hy1 hh).here ?_)
  refine wpAny_pure ?_
  show wpAny _ A.in1 (rule "list.extend.makes-room" >>= fun _ => Builtin.List.listTouch (.ref S) >>= fun _ =>
    again (.builtin "list.extend.loop" ⟨[.ref S, .ref y, res], []⟩)) _ _ _
  refine wpAny_bind (wpAny_rule ?_)
  refine wpAny_bind (touched (H0 := H0) (g1.nd _ _ hS (fun h => nomatch h) nd_seq) hH fun s2 c2 g2 hS2 => ?_)
  exact wpAny_pure ⟨plainId_quiet F.plain_extend_loop _, h s2 c2 ((g1.mono (fun p h => nomatch h)).trans g2) hS2⟩

theorem list_inst {y c dy : Addr} {sl : List (Option Value)} {g g' : Addr} {Q : Value → Shared → Prop} (G : Gl K H0 mg mb) (S : St H0 A l s) (hy : Okk s.heap (y, io c dy sl)) (mk : MethK K c "__iter__" g) (mk' : MethK K c "__next__" g')
    (hl : findIn K (.ref c) "__len__" = some none) (hh : findIn K (.ref c) "__length_hint__" = some none)
    (hit : ∀ (s : Shared) (Q : Value → Shared → Prop) E, St H0 A l s → (∀ s', Go H0 [] s s' → Q (.ref y) s') → wpAny (model prog w) A.in1.in1 (call (.ref g) [.ref y]) Q E s)
    (h : ∀ D s' c', Go H0 [] s s' → s.heap.get? D = none → s'.heap.get? D = some (lstO [] c') → codeAny (model prog w) A.in1 (.builtin "list.extend.loop" ⟨[.ref D, .ref y, .none], []⟩) (wants (fun r s₂ => r = .none ∧ Q (.ref D) s₂) E) s') :
    wpAny (model prog w) A (call (.type "list") [.ref y]) Q E s := by
  refine callType_codes (Q₁ := fun obj s₁ => obj = .ref s.heap.objs.size ∧ s₁ = { s with heap := s.heap.push { cls := .type "list", data := .seq #[] } }) F.called_list (F.typeCall_list_1 _) F.entry_list_init
    (code_list_new _ ⟨rfl, rfl⟩) fun obj s₁ h₁ => ?_
  obtain ⟨rfl, rfl⟩ := h₁
  have nD : s.heap.get? s.heap.objs.size = none := not_at
  generalize hD : s.heap.objs.size = D at nD ⊢
  have hS : (s.heap.push (lstO [])).get? D = some (lstO []) := by rw [← hD]; exact Heap.get?_push_size _ rfl
  have hHD : H0.get? D = none := by
    cases q : H0.get? D with
    | none => rfl
    | some o => have := S.glob _ _ q; rw [nD] at this; cases this
  refine ⟨⟨_, hS, rfl⟩, F.args_list_init_2 _ _, ?_⟩
  show wpAny _ A.in1.in1 (do let old ← Builtin.List.listItems (.ref D); Builtin.List.listUpdate (.ref D) (fun _ => #[]); letGo old.toList.reverse; Builtin.List.listExtendWith (.ref D) (.ref y) .none) _ _ _
  refine wpAny_bind ?_
  unfold Builtin.List.listItems
  refine wpAny_bind (wpAny_seqItems (s := { s with heap := s.heap.push (lstO []) }) hS rfl (wpAny_pure ?_))
  show wpAny _ A.in1.in1 (updateSeq D (fun _ => #[]) >>= fun _ => letGo (#[] : Array Value).toList.reverse >>= fun _ => Builtin.List.listExtendWith (.ref D) (.ref y) .none) _ _ _
  refine wpAny_bind (wpAny_updateSeq hS rfl ?_)
  have hS₂ := Heap.get?_update_self (Obj.mapSeq (fun _ => (#[] : Array Value))) hS rfl
  refine wpAny_bind (wpAny_letGo ?_)
  have G0 : Go H0 [] s { s with heap := s.heap.push (lstO []) } := Go.push _
  have G1 : Go H0 [D] { s with heap := s.heap.push (lstO []) } { s with heap := (s.heap.push (lstO [])).update D (Obj.mapSeq (fun _ => (#[] : Array Value))) } := .upd (s := { s with heap := s.heap.push (lstO []) }) _ hS nd_seq rfl nd_seq hHD
  have hDn : ∀ p ∈ [D], p ∈ ([] : List Addr) ∨ s.heap.get? p = none := fun p hp => .inr (by rw [List.mem_singleton.mp hp]; exact nD)
  have G2 := G0.step G1 hDn
  have S2 := S.go G2
  refine extend_inst (H0 := H0) (s := { s with heap := (s.heap.push (lstO [])).update D (Obj.mapSeq (fun _ => (#[] : Array Value))) }) (S2.X G) (hy.go G2 (fun h => nomatch h)) mk mk' hl hh hS₂ hHD (fun q => ne_nd hy.at_ nD q.symm) (fun Q E hQ => hit _ Q E S2 hQ) (fun s' g => (S2.go g).X G) fun s' c' g hS' => ?_
  exact h D s' c' (G2.step g hDn) nD hS'
end
end Mine
end
section
set_option maxRecDepth 100000
set_option autoImplicit false
set_option genInjectivity false
set_option genSizeOf false
namespace Mine
open PySem PySem.W PySem.Calls PyProof.Rows PySem.Spec

structure Row where
  r : Addr
  key : Value
  pos : Value
noncomputable def rowL (rows : List Row) : List (Addr × Obj) := rows.map fun q => (q.r, tupO [q.key, q.pos])
noncomputable def refs (rows : List Row) : List Value := rows.map fun q => .ref q.r
theorem refs_get {rows : List Row} {i : Nat} {q : Row} (h : rows[i]? = some q) : (refs rows)[i]? = some (.ref q.r) := by simp [refs, h]
theorem refs_none {rows : List Row} {i : Nat} (h : rows[i]? = none) : (refs rows)[i]? = none := by simpa [refs] using h

structure GB where
  x : Addr
  dg : Addr
  it : Addr
  lst : Addr
  ig : Addr
  di : Addr
  tp : Addr
  u : Tok
  ep : Nat
  rows : List Row

section
variable (a : Adr) (b : GB)
noncomputable def GB.led (sl : List (Option Value)) (ito : Obj) : List (Addr × Obj) :=
  (b.x, io a.gb b.dg sl) :: (b.it, ito) :: (b.lst, lstO (refs b.rows) b.ep) :: (b.ig, io a.ig b.di [some (.ref b.tp)]) :: (b.tp, tupO [.int 0 b.u]) :: rowL b.rows
end
structure KeyR (κ : KeyOps) (rows : List Row) : Prop where
  all : ∀ q ∈ rows, κ.P q.key ∧ tokOf q.key ≠ 0
  tok : ∀ q ∈ rows, ∀ q' ∈ rows, tokOf q.key = tokOf q'.key → κ.eq q.key q'.key = true

section
variable {K : Frag} {a : Adr} {b : GB} {H0 : Heap} {mg mb : Str → Option Value} {A : Around} {l : List Env} {s : Shared} {prog : Program} {w : World} {E : Value → Shared → Prop}
theorem Lg.step {pre : List (Addr × Obj)} {sl : List (Option Value)} {i : Nat} {q : Row} (C : Lg s.heap (pre ++ b.led a sl (itO b.lst i))) (hq : b.rows[i]? = some q) (hx : H0.get? b.x = none) (hit : H0.get? b.it = none) :
    Step K a H0 s.heap b.x b.dg b.it b.lst b.ig b.di b.tp q.r i (refs b.rows) b.ep q.key [q.pos] b.u sl := by
  have hm : [(q.r, tupO [q.key, q.pos])].Sublist (rowL b.rows) := List.singleton_sublist.mpr (List.mem_map.mpr ⟨q, List.mem_of_getElem? hq, rfl⟩)
  have C' := C.sub (led' := [(b.x, io a.gb b.dg sl), (b.it, itO b.lst i), (b.lst, lstO (refs b.rows) b.ep), (b.ig, io a.ig b.di [some (.ref b.tp)]), (b.tp, tupO [.int 0 b.u]), (q.r, tupO [q.key, q.pos])])
    (List.Sublist.trans (.cons_cons _ (.cons_cons _ (.cons_cons _ (.cons_cons _ (.cons_cons _ hm))))) (List.sublist_append_right _ _))
  exact ⟨C'.has, C'.nodup, hx, hit, refs_get hq⟩

noncomputable abbrev GB.gr (b : GB) (n : Int) (t : Tok) (key : Value) : List (Option Value) := grS (.int n t) (.ref b.x) key
noncomputable abbrev GB.st (b : GB) (cg ck cv : Value) (hk hv ht : Bool) (se tk : Value) : List (Option Value) := gbS cg ck cv hk hv ht (.ref b.it) (.ref b.ig) se tk

noncomputable def After (a : Adr) (b : GB) (h : Heap) (pre : List (Addr × Obj)) (cg se key : Value) (j : Nat) : Prop :=
  (∃ q, b.rows[j]? = some q ∧ Lg h (pre ++ b.led a (b.st cg q.key (.ref q.r) true true true se key) (itO b.lst (j + 1)))) ∨
  (b.rows[j]? = none ∧ j = b.rows.length ∧ Lg h (pre ++ b.led a (b.st cg .none .none false false true se key) (itE j)))

set_option maxHeartbeats 1000000 in
noncomputable abbrev GLI (a : Adr) (b : GB) (κ : KeyOps) (H0 : Heap) (A : Around) (l : List Env) (s : Shared) (D y dy : Addr) (q : Row) (n : Int) (t₁ t₂ : Tok) (se : Value) (i : Nat) : Nat → List Value → Shared → Prop := fun n' acc s' => St H0 A l s' ∧ Go H0 [D, b.x, b.it] s s' ∧ ∃ c, (n' = b.rows.length + 1 ∧ acc = [] ∧ Lg s'.heap ((D, lstO acc c) :: (y, io a.gr dy (b.gr n t₂ q.key)) :: b.led a (b.st (.int n t₁) q.key (.ref q.r) true true true se q.key) (itO b.lst (i + 1)))) ∨
      ∃ j, i < j ∧ j ≤ b.rows.length ∧ n' = b.rows.length - j ∧ acc = refs ((b.rows.take j).drop i) ∧ (∀ m q', i ≤ m → m < j → b.rows[m]? = some q' → κ.eq q.key q'.key = true) ∧
        Lg s'.heap ((D, lstO acc c) :: (y, io a.gr dy (b.gr n t₂ q.key)) :: b.led a (b.st (.int n t₁) .none .none false false true se q.key) (itO b.lst j))
theorem group_loop (G : Gl K H0 mg mb) (F : KF K a) (S : St H0 A l s) (κ : KeyOps) (KR : KeyR κ b.rows) {y dy D : Addr} {i : Nat} {q : Row} {n : Int} {t₁ t₂ : Tok} {se : Value} {c : Nat} (hi : b.rows[i]? = some q)
    (C : Lg s.heap ((D, lstO [] c) :: (y, io a.gr dy (b.gr n t₂ q.key)) :: b.led a (b.st (.int n t₁) q.key (.ref q.r) true true true se q.key) (itO b.lst (i + 1))))
    (hHD : H0.get? D = none) (hHx : H0.get? b.x = none) (hHit : H0.get? b.it = none) (hz : b.rows.length < sizeLine)
    (hroom : A.depth + 3 < recursionLimit) (hh : A.handled = none) {R : Result → Shared → Prop} {res : Value}
    (k : ∀ j c' s', i < j → (∀ m q', i ≤ m → m < j → b.rows[m]? = some q' → κ.eq q.key q'.key = true) → (∀ q', b.rows[j]? = some q' → κ.eq q.key q'.key = false) → j ≤ b.rows.length → Go H0 [D, b.x, b.it] s s' →
      After a b s'.heap [(D, lstO (refs ((b.rows.take j).drop i)) c'), (y, io a.gr dy (b.gr n t₂ q.key))] (.int n t₁) se q.key j → R (.ok (.ret res)) s') :
    codeAny (model prog w) A (.builtin "list.extend.loop" ⟨[.ref D, .ref y, res], []⟩) R s := by
  have hilt : i < b.rows.length := (List.getElem?_eq_some_iff.mp hi).1
  have hqm : q ∈ b.rows := List.mem_of_getElem? hi
  have hqq : κ.eq q.key q.key = true := KR.tok q hqm q hqm rfl
  have base : ∀ j, ∀ q', b.rows[j]? = some q' → (refs ((b.rows.take j).drop i)) ++ [Value.ref q'.r] = refs ((b.rows.take (j + 1)).drop i) ∨ j < i := by
    intro j q' hj
    by_cases hij : j < i
    · exact .inr hij
    · left
      have hjl : j < b.rows.length := (List.getElem?_eq_some_iff.mp hj).1
      have e : (b.rows.take (j + 1)) = b.rows.take j ++ [q'] := by
        rw [List.take_add_one, hj]; rfl
      rw [e, List.drop_append_of_le_length (by rw [List.length_take]; grind)]
      simp [refs]
  refine ext_loop (GLI a b κ H0 A l s D y dy q n t₁ t₂ se i) ?_ (b.rows.length + 1) [] s ⟨S, .refl .., c, .inl ⟨rfl, rfl, C⟩⟩
  rintro n' acc s' ⟨S', g', c', ⟨rfl, rfl, C'⟩ | ⟨j, hij, hjl, rfl, hacc, heq, C'⟩⟩
  · refine next_inst (S'.X G) (C'.ok 1 rfl) F.mgrN ?_
    refine grNext_val G F (S'.around (A' := A.in1) rfl) κ (C'.ok 2 rfl) (C'.ok 1 rfl) (nodup_ne C'.nodup (i := 2) (j := 1) rfl rfl (by decide)) hHx (KR.all q hqm).1 (KR.all q hqm).1 (KR.all q hqm).2 (KR.all q hqm).2 hqq (κ.hd _ (KR.all q hqm).1) (κ.hd _ (KR.all q hqm).1) rfl (Nat.lt_of_succ_lt hroom) fun s2 g2 ox2 => ?_
    have C2 := C'.turn1 2 rfl g2 ox2
    refine ⟨c', C2.at 0 rfl, by rw [sizeLine_eq]; decide, b.rows.length - (i + 1), by omega, ?_⟩
    obtain ⟨g3, C3⟩ := C2.upd (H0 := H0) (s := s2) 0 (f := Obj.mapSeq (·.push (.ref q.r))) rfl rfl nd_seq rfl hHD
    have g4 := (g2.mono (M' := [D, b.x, b.it]) (by simp)).trans (g3.mono (M' := [D, b.x, b.it]) (by simp))
    refine ⟨S'.go g4, g'.trans g4, c' + 1, .inr ⟨i + 1, Nat.lt_succ_self i, hilt, rfl, ?_, ?_, C3⟩⟩
    · have := (base i q hi).resolve_right (Nat.lt_irrefl _)
      rw [← this]
      simp [refs]
    · intro m q' h1 h2 h3
      have : m = i := by lia
      subst this
      rw [hi] at h3; cases h3; exact hqq
  · cases hj : b.rows[j]? with
    | none =>
      have hjN : j = b.rows.length := by
        have := List.getElem?_eq_none_iff.mp hj
        lia
      refine next_inst (S'.X G) (C'.ok 1 rfl) F.mgrN ?_
      refine grNext_end G F (S'.around (A' := A.in1) rfl) (C'.ok 2 rfl) (C'.at 3 rfl) (C'.at 4 rfl) (C'.ok 1 rfl) (nodup_ne C'.nodup (i := 2) (j := 1) rfl rfl (by decide)) hHit (refs_none hj) (Nat.lt_of_succ_lt hroom) hh fun e t s2 F2 => ?_
      refine stop_fly F2 ?_
      have C2 := C'.turn1 3 rfl F2.go (F2.has _ (.head _))
      rw [hacc] at C2
      exact k j c' s2 hij heq (fun q' h => by rw [hj] at h; cases h) hjl (g'.trans (F2.go.mono (by simp))) (.inr ⟨hj, hjN, C2⟩)
    | some q' =>
      have hjN : j < b.rows.length := (List.getElem?_eq_some_iff.mp hj).1
      have hqm' : q' ∈ b.rows := List.mem_of_getElem? hj
      have Z := Lg.step (K := K) (H0 := H0) (s := s') (pre := [(D, lstO acc c'), (y, io a.gr dy (b.gr n t₂ q.key))]) (i := j) (q := q') C' hj hHx hHit
      refine next_inst (S'.X G) (C'.ok 1 rfl) F.mgrN ?_
      refine grNext_step G F (S'.around (A' := A.in1) rfl) κ Z (C'.ok 1 rfl) ?_ (KR.all q hqm).1 (KR.all q' hqm').1 (KR.all q hqm).2 (KR.all q' hqm').2 (KR.tok q hqm q' hqm') (κ.hd _ (KR.all q' hqm').1) (κ.hd _ (KR.all q hqm).1) hroom hh (fun he s2 g2 ox2 hit2 => ?_) (fun he e t s2 F2 => ?_)
      · intro p hp
        have C1 := C'.sub (led' := (y, io a.gr dy (b.gr n t₂ q.key)) :: [(b.x, io a.gb b.dg (b.st (.int n t₁) .none .none false false true se q.key)), (b.it, itO b.lst j), (b.lst, lstO (refs b.rows) b.ep), (b.ig, io a.ig b.di [some (.ref b.tp)]), (b.tp, tupO [.int 0 b.u]), (q'.r, tupO [q'.key, q'.pos])])
          (.cons _ (.cons_cons _ (.cons_cons _ (.cons_cons _ (.cons_cons _ (.cons_cons _ (.cons_cons _ (List.singleton_sublist.mpr (List.mem_map.mpr ⟨q', hqm', rfl⟩)))))))))
        have := (List.nodup_cons.mp C1.nodup).1
        exact fun z => this (by rw [← z]; exact hp)
      · have C2 := C'.turn2 2 3 rfl rfl (by decide) g2 ox2 (okk_it hit2)
        refine ⟨c', C2.at 0 rfl, ?_, b.rows.length - (j + 1), by grind, ?_⟩
        · rw [hacc]
          simp only [refs, List.length_map, List.length_drop, List.length_take]
          grind
        obtain ⟨g3, C3⟩ := C2.upd (H0 := H0) (s := s2) 0 (f := Obj.mapSeq (·.push (.ref q'.r))) rfl rfl nd_seq rfl hHD
        have g4 := (g2.mono (M' := [D, b.x, b.it]) (by simp)).trans (g3.mono (M' := [D, b.x, b.it]) (by simp))
        refine ⟨S'.go g4, g'.trans g4, c' + 1, .inr ⟨j + 1, by lia  , hjN, rfl, ?_, ?_, ?_⟩⟩
        · rw [hacc]; exact (base j q' hj).resolve_right (by lia  )
        · intro m q'' h1 h2 h3
          by_cases hm : m < j
          · exact heq m q'' h1 hm h3
          · have : m = j := by lia
            subst this
            rw [hj] at h3; cases h3; exact he
        · have e : Obj.mapSeq (fun x => x.push (Value.ref q'.r)) (lstO acc c') = lstO (acc ++ [Value.ref q'.r]) (c' + 1) := by simp [Obj.mapSeq]
          rw [e] at C3
          exact C3
      · refine stop_fly F2 ?_
        have C2 := C'.turn2 2 3 rfl rfl (by decide) F2.go (F2.has _ (.head _)) (F2.has _ (.tail _ (.head _)))
        rw [hacc] at C2
        exact k j c' s2 hij heq (fun q'' h => by rw [hj] at h; cases h; exact he) hjl (g'.trans (F2.go.mono (by simp))) (.inl ⟨q', hj, C2⟩)
end
end Mine
end
section
set_option maxRecDepth 100000
set_option autoImplicit false
namespace Mine
open PySem PySem.W PySem.Calls PyProof.Rows PySem.Spec
section
variable {K : Frag} {a : Adr} {H0 : Heap} {mg mb : Str → Option Value} {A : Around} {l : List Env} {s : Shared} {prog : Program} {w : World} {E : Value → Shared → Prop}

theorem is_type {x y : String} {b : Bool} {Q : Value → Shared → Prop} (e : (Value.type x == Value.type y) = b) (h : Q (.bool b) s) : wpAny (model prog w) A (compareOp .Is (.type x) (.type y)) Q E s := by
  show wpAny _ A (do return .bool (← isSame (.type x) (.type y))) Q E s
  have e' : isSame (.type x) (.type y) = pure b := by rw [← e]; rfl
  rw [e']; exact wpAny_bind (wpAny_pure (wpAny_pure h))

theorem kind_int (G : Gl K H0 mg mb) (F : KF K a) (S : St H0 A l s) {n : Int} {t : Tok} (hroom : A.depth < recursionLimit) {Q : Value → Shared → Prop} (k : ∀ u s', Go H0 [] s s' → Q (.int 0 u) s') : wpAny (model prog w) A (call (.ref a.kind) [.int n t]) Q E s := by
  refine wpAny_call (enterF (binds := [(Str.ofString "x", .int n t)]) G S F.kind [] [] (fun _ h => nomatch h) List.nodup_nil hroom (fun _ _ _ _ _ _ => BindsTo.of_eq rfl) (by decide) (locs rfl) fun L cdv s1 _ C => ?_)
  refine wpAny_execs_cons (wpAny_Assign_Name (Call_ (C.boot G F.ntype Boot.«type» (PySem.callWith_type rfl (evalArgs_plain (args_cons (C.name rfl (args_nil (call_type_of (typeIs_int _ _ _) (by decide) (C.set fun s2 C2 => ?_))))))))))
  refine wpAny_execs_cons (wpAny_If (wpAny_isTrue_BoolOp (wpAny_allTrue_Or_cons (wpAny_isTrue_Compare1 (C2.name rfl (C2.boot G F.nint Boot.«int» (is_type (b := true) (by decide) (wpAny_truthy_bool ?_))))))))
  (try simp only [if_true])
  exact wpAny_execs_cons (wpAny_Return_some (wpAny_Constant_int (k _ _ (C2.tok 1).go)))

noncomputable def ctS (cnt fast step : Value) : List (Option Value) := [some cnt, some fast, some step]
theorem truthy_true {b : Bool} {Q : Bool → Shared → Prop} {M : Model} (e : b = true) (h : Q true s) : wpAny M A (truthy (.bool b)) Q E s := by subst e; exact wpAny_truthy_bool h

set_option maxHeartbeats 2000000 in
theorem ctInit_spec (G : Gl K H0 mg mb) (F : KF K a) (S : St H0 A l s) {x dx : Addr} (hx : Okk s.heap (x, io a.ct dx [])) (hH : H0.get? x = none) (hroom : A.depth + 1 < recursionLimit) {R : Result → Shared → Prop}
    (k : ∀ t u s', Go H0 [x] s s' → Okk s'.heap (x, io a.ct dx (ctS (.int 0 t) (.bool true) (.int 1 u))) → R (.ok (.ret .none)) s') :
    codeAny (model prog w) A (.call (.ref a.ctInit) ⟨[.ref x], []⟩) R s := by
  obtain ⟨t0, u0, o, n, ho, hs⟩ := F.ctD
  obtain ⟨tm, hmax⟩ := F.nmax
  refine enterF (binds := [(Str.ofString "self", .ref x), (Str.ofString "start", .int 0 t0), (Str.ofString "step", .int 1 u0)]) G S F.ctInit [x] [(x, io a.ct dx [])] (fun p hp => by rw [List.mem_singleton.mp hp]; exact hx) (by simp) (Nat.lt_of_succ_lt hroom) (fun _ _ _ _ _ _ => binds_K (S.X G) rfl ho hs rfl rfl) (by decide) (locs rfl) fun L cdv s1 _ C => ?_
  refine wpAny_execs_cons (wpAny_Assign_Name (C.callFn G F.nkind F.kkind (args_cons (C.name rfl (args_nil ⟨C.st.X G, kind_int G F C.st hroom fun u1 s2 g2 => (C.call g2).set fun s3 C3 => ?_⟩)))))
  refine wpAny_execs_cons (wpAny_Assign_Name (C3.callFn G F.nkind F.kkind (args_cons (C3.name rfl (args_nil ⟨C3.st.X G, kind_int G F C3.st hroom fun u2 s4 g4 => (C3.call g4).set fun s5 C5 => ?_⟩)))))
  refine wpAny_execs_cons (wpAny_If (wpAny_isTrue_BoolOp (wpAny_allTrue_Or_cons (wpAny_isTrue_Compare1 (C5.name rfl (wpAny_Constant_int (PyProof.Rows.eq_int (wpAny_truthy_bool ?_))))))))
  refine ite_no' (by decide) ?_
  have C6 := C5.tok 1
  refine wpAny_allTrue_Or_cons (wpAny_isTrue_Compare1 (C6.name rfl (wpAny_Constant_int (PyProof.Rows.eq_int (wpAny_truthy_bool ?_)))))
  refine ite_no' (by decide) ?_
  have C7 := C6.tok 1
  refine wpAny_allTrue_Or_nil ?_
  (try simp only [Bool.false_eq_true, if_false])
  refine wpAny_execs_nil ?_
  refine wpAny_execs_cons (wpAny_Assign_Name (BoolOp_and (wpAny_Compare1 (C7.name rfl (wpAny_Constant_int (PyProof.Rows.eq_int (truthy_true (by decide) ?_)))))))
  first | refine ite_yes' rfl ?_ | refine ite_yes rfl ?_ | rw [if_pos rfl]
  have C8 := C7.tok 1
  refine BoolOp_and (wpAny_Compare1 (C8.name rfl (wpAny_Constant_int (PyProof.Rows.eq_int (truthy_true (by decide) ?_)))))
  first | refine ite_yes' rfl ?_ | refine ite_yes rfl ?_ | rw [if_pos rfl]
  have C9 := C8.tok 1
  refine BoolOp_and (wpAny_Compare1 (C9.name rfl (wpAny_Constant_int (PyProof.Rows.eq_int (truthy_true (by decide) ?_)))))
  first | refine ite_yes' rfl ?_ | refine ite_yes rfl ?_ | rw [if_pos rfl]
  have C10 := C9.tok 1
  refine BoolOp_and (wpAny_Compare1 (wpAny_BinOp (wpAny_UnaryOp (C10.global G hmax (P.neg_int (wpAny_Constant_int (P.sub_int ?_)))))))
  have C11 := C10.tok 3
  refine C11.name rfl (P.le_int (truthy_true (by decide) ?_))
  first | refine ite_yes' rfl ?_ | refine ite_yes rfl ?_ | rw [if_pos rfl]
  refine BoolOp_one (wpAny_Compare1 (C11.name rfl (C11.global G hmax (P.le_int ?_))))
  refine C11.set fun s12 C12 => ?_
  refine wpAny_execs_cons (wpAny_If (wpAny_isTrue_value (C12.name rfl (truthy_true (by decide) ?_))))
  refine ite_yes' rfl ?_
  refine wpAny_execs_cons (wpAny_Assign_Name (wpAny_BinOp (C12.name rfl (wpAny_Constant_int (P.add_int ?_)))))
  have C13 := C12.tok 2
  refine C13.set fun s14 C14 => wpAny_execs_nil ?_
  refine wpAny_execs_cons (plainObj_wpAny_Assign_Attribute (C14.name rfl (C14.setA G 0 rfl rfl F.ct F.ct1 (.inl (.head _)) hH (fun s15 C15 => ?_) (sl' := [none, some (.bool true)]) (he := by simp [putS]))))
  refine wpAny_execs_cons (plainObj_wpAny_Assign_Attribute (C15.name rfl (C15.setA G 0 rfl rfl F.ct F.ct0 (.inl (.head _)) hH (fun s16 C16 => ?_) (sl' := [some (.int 0 (s12.toks + 1)), some (.bool true)]) (he := by simp [putS]))))
  refine wpAny_execs_cons (plainObj_wpAny_Assign_Attribute (C16.name rfl (C16.setA G 0 rfl rfl F.ct F.ct2 (.inl (.head _)) hH (fun s17 C17 => ?_) (sl' := ctS (.int 0 (s12.toks + 1)) (.bool true) (.int 1 u0)) (he := by simp [putS, ctS]))))
  exact wpAny_execs_nil (k _ _ s17 C17.go (C17.ok 0 rfl))

theorem ct_make (G : Gl K H0 mg mb) (F : KF K a) (S : St H0 A l s) (hroom : A.depth + 2 < recursionLimit) {R : Result → Shared → Prop}
    (k : ∀ x dx t u s', Go H0 [] s s' → Okk s'.heap (x, io a.ct dx (ctS (.int 0 t) (.bool true) (.int 1 u))) → s.heap.get? x = none → s.heap.get? dx = none → R (.ok (.ret (.ref x))) s') :
    codeAny (model prog w) A (.call (.ref a.ct) ⟨[], []⟩) R s := by
  refine S.make G F.ct F.mctI fun x dx s1 g1 ox nx ndx => ?_
  have hH : H0.get? x = none := by
    cases q : H0.get? x with
    | none => rfl
    | some o => have := S.glob _ _ q; rw [nx] at this; cases this
  refine ctInit_spec G F ((S.go g1).around (A' := A.under (.builtin "type.__call__" ⟨[.ref a.ct], []⟩)) rfl) ox hH hroom fun t u s2 g2 ox2 => ⟨rfl, ?_⟩
  exact k x dx t u s2 (g1.step g2 fun p hp => .inr (by rw [List.mem_singleton.mp hp]; exact nx)) ox2 nx ndx

theorem ctNext_spec (G : Gl K H0 mg mb) (F : KF K a) (S : St H0 A l s) {x dx : Addr} {n : Int} {t u : Tok} {fa : Value} (hx : Okk s.heap (x, io a.ct dx (ctS (.int n t) fa (.int 1 u)))) (hH : H0.get? x = none) (hroom : A.depth < recursionLimit) {R : Result → Shared → Prop}
    (k : ∀ t' s', Go H0 [x] s s' → Okk s'.heap (x, io a.ct dx (ctS (.int (n + 1) t') fa (.int 1 u))) → R (.ok (.ret (.int n t))) s') :
    codeAny (model prog w) A (.call (.ref a.ctNext) ⟨[.ref x], []⟩) R s := by
  refine enterF (binds := [(Str.ofString "self", .ref x)]) G S F.ctNext [x] [(x, io a.ct dx (ctS (.int n t) fa (.int 1 u)))] (fun p hp => by rw [List.mem_singleton.mp hp]; exact hx) (by simp) hroom (fun _ _ _ _ _ _ => BindsTo.of_eq rfl) (by decide) (locs rfl) fun L cdv s1 _ C => ?_
  refine wpAny_execs_cons (wpAny_Assign_Name (C.attr G 0 rfl rfl F.ct F.ct0 rfl rfl fun s2 C2 => C2.set fun s3 C3 => ?_))
  refine wpAny_execs_cons (plainObj_wpAny_Assign_Attribute (wpAny_BinOp (C3.name rfl (C3.attr G 0 rfl rfl F.ct F.ct2 rfl rfl fun s4 C4 => P.add_int ?_))))
  have C5 := C4.tok 1
  refine C5.setA G 0 rfl rfl F.ct F.ct0 (.inl (.head _)) hH (fun s6 C6 => ?_) (sl' := ctS (.int (n + 1) s4.toks) fa (.int 1 u)) (he := by simp [putS, ctS])
  exact wpAny_execs_cons (wpAny_Return_some (C6.name rfl (k _ s6 C6.go (C6.ok 0 rfl))))
end
end Mine
end
section
set_option maxRecDepth 100000
set_option autoImplicit false
namespace Mine
open PySem PyProof.Rows

noncomputable def kv (ρ : Value → Int) (xs : Array Keyed) (i : Nat) : Int := match xs[i]? with
  | some p => ρ p.1
  | none => 0
theorem kv_congr {ρ : Value → Int} {xs ys : Array Keyed} {i j : Nat} (h : xs[i]? = ys[j]?) : kv ρ xs i = kv ρ ys j := by unfold kv; rw [h]
theorem kv_bubble {ρ : Value → Int} {xs : Array Keyed} {src d : Nat} (hs : src < xs.size) (hd : d ≤ src) (k : Nat) :
    kv ρ (bubble xs src d) k = if k = src - d then kv ρ xs src else if src - d < k ∧ k ≤ src then kv ρ xs (k - 1) else kv ρ xs k := by
  have e := getElem?_bubble hs d hd k
  split
  · rename_i h; rw [if_pos h] at e; exact kv_congr e
  · rename_i h
    rw [if_neg h] at e
    split
    · rename_i h'; rw [if_pos h'] at e; exact kv_congr e
    · rename_i h'; rw [if_neg h'] at e; exact kv_congr e
theorem kv_mirror {ρ : Value → Int} {xs : Array Keyed} {i j : Nat} (hj : j ≤ xs.size) (k : Nat) :
    kv ρ (mirror xs i j ((j - i) / 2)) k = if i ≤ k ∧ k < j then kv ρ xs (i + j - 1 - k) else kv ρ xs k := by
  have e := getElem?_mirror_all (i := i) hj k
  split
  · rename_i h; rw [if_pos h] at e; exact kv_congr e
  · rename_i h; rw [if_neg h] at e; exact kv_congr e

theorem wpS_yes {α : Type} {M : Model} {A : Around} {E : Value → Shared → Prop} {s : Shared} {c : Prop} [Decidable c] {t f : StateT SortSt Sem α} {Q : α → SortSt → Prop} {st : SortSt} (h : c) (k : wpS M A E s t Q st) : wpS M A E s (if c then t else f) Q st := by rw [if_pos h]; exact k
theorem wpS_no {α : Type} {M : Model} {A : Around} {E : Value → Shared → Prop} {s : Shared} {c : Prop} [Decidable c] {t f : StateT SortSt Sem α} {Q : α → SortSt → Prop} {st : SortSt} (h : ¬ c) (k : wpS M A E s f Q st) : wpS M A E s (if c then t else f) Q st := by rw [if_neg h]; exact k
structure SB (ρ : Value → Int) (kd : SortKind) (a₀ : Array Keyed) (st : SortSt) : Prop where
  perm : (arrOf st).Perm a₀
  kind : kindOf st = kd
  failed : failedOf st = none
  pend : pendingOf st = #[]
structure SI (M : Model) (A : Around) (s : Shared) (ρ : Value → Int) (kd : SortKind) (a₀ : Array Keyed) : Prop where
  nodup : a₀.toList.Nodup
  inj : ∀ x ∈ a₀.toList, ∀ y ∈ a₀.toList, ρ x.1 = ρ y.1 → x = y
  cmp : ∀ x ∈ a₀.toList, ∀ y ∈ a₀.toList, ∀ (E : Value → Shared → Prop) (Q : Bool → Shared → Prop), Q (decide (ρ x.1 < ρ y.1)) s → wpAny M A (keyLt' kd x.1 y.1) Q E s

section
variable {prog : Program} {w : World} {A : Around} {E : Value → Shared → Prop} {s : Shared} {ρ : Value → Int} {kd : SortKind} {a₀ : Array Keyed} {st : SortSt}

theorem SB.size (h : SB ρ kd a₀ st) : (arrOf st).size = a₀.size := h.perm.size_eq
theorem SB.setArr (h : SB ρ kd a₀ st) {xs : Array Keyed} (hp : xs.Perm (arrOf st)) : SB ρ kd a₀ (setArr st xs) := ⟨hp.trans h.perm, h.kind, h.failed, h.pend⟩
theorem SB.mem (h : SB ρ kd a₀ st) {i : Nat} (hi : i < a₀.size) : ∃ p, (arrOf st)[i]? = some p ∧ p ∈ a₀.toList ∧ kv ρ (arrOf st) i = ρ p.1 := by
  have hi' : i < (arrOf st).size := by rw [h.size]; exact hi
  refine ⟨(arrOf st)[i], getElem?_pos _ i hi', (Array.perm_iff_toList_perm.mp h.perm).mem_iff.mp (by simp), ?_⟩
  unfold kv; rw [getElem?_pos _ i hi']
theorem SB.ne (h : SB ρ kd a₀ st) {M : Model} (I : SI M A s ρ kd a₀) {i j : Nat} (hi : i < a₀.size) (hj : j < a₀.size) (hij : i ≠ j) : kv ρ (arrOf st) i ≠ kv ρ (arrOf st) j := by
  obtain ⟨p, h1, h2, h3⟩ := h.mem hi
  obtain ⟨q, h4, h5, h6⟩ := h.mem hj
  rw [h3, h6]
  intro e
  have := I.inj p h2 q h5 e
  subst this
  have hn : (arrOf st).toList.Nodup := (Array.perm_iff_toList_perm.mp h.perm).nodup_iff.mpr I.nodup
  rw [← Array.getElem?_toList] at h1 h4
  obtain ⟨a1, b1⟩ := List.getElem?_eq_some_iff.mp h1
  obtain ⟨a2, b2⟩ := List.getElem?_eq_some_iff.mp h4
  rcases Nat.lt_or_gt_of_ne hij with z | z
  · exact List.pairwise_iff_getElem.mp hn i j a1 a2 z (b1.trans b2.symm)
  · exact List.pairwise_iff_getElem.mp hn j i a2 a1 z (b2.trans b1.symm)

theorem sLt (h : SB ρ kd a₀ st) (I : SI (model prog w) A s ρ kd a₀) {i j : Nat} {Q : Option Bool → SortSt → Prop} (hi : i < a₀.size) (hj : j < a₀.size)
    (hq : Q (some (decide (kv ρ (arrOf st) i < kv ρ (arrOf st) j))) st) : wpS (model prog w) A E s (ltAt' i j) Q st := by
  obtain ⟨p, h1, h2, h3⟩ := h.mem hi
  obtain ⟨q, h4, h5, h6⟩ := h.mem hj
  rw [h3, h6] at hq
  rw [ltAt'_eq]
  refine wpS_bind (wpS_get ?_)
  show wpS _ _ _ _ (do let x ← elem' (arrOf st) i; let y ← elem' (arrOf st) j; lt' x y) Q st
  rw [elem'_eq, elem'_eq, h1, h4]
  refine wpS_bind (wpS_pure (wpS_bind (wpS_pure ?_)))
  rw [lt'_eq]
  refine wpS_bind (wpS_get ?_)
  rw [h.kind]
  exact wpS_bind (wpS_lift (wpAny_attempt (I.cmp p h2 q h5 _ _ ⟨rfl, wpS_pure hq⟩)))

noncomputable def Inc (ρ : Value → Int) (xs : Array Keyed) (k : Nat) : Prop := ∀ i j, i < j → j < k → kv ρ xs i < kv ρ xs j
noncomputable def Dec (ρ : Value → Int) (xs : Array Keyed) (k : Nat) : Prop := ∀ i j, i < j → j < k → kv ρ xs j < kv ρ xs i

theorem sAsc (I : SI (model prog w) A s ρ kd a₀) (h : SB ρ kd a₀ st) {b nrem : Nat} (hn : nrem ≤ a₀.size) (hb : 1 ≤ b) (hbn : b ≤ nrem) (hs : Inc ρ (arrOf st) b) {Q : AscSt → SortSt → Prop}
    (k : ∀ n, b ≤ n → n ≤ nrem → Inc ρ (arrOf st) n → (n = nrem ∨ kv ρ (arrOf st) n < kv ρ (arrOf st) (n - 1)) → Q (none, n) st) : wpS (model prog w) A E s (ascLoop b nrem) Q st := by
  unfold ascLoop
  refine wpS_forRange (I := fun x c st' => st' = st ∧ c = (none, x) ∧ Inc ρ (arrOf st) x) (fun x c st' hx1 hx2 hI => ?_) (fun c st' hI => ?_) ⟨rfl, rfl, hs⟩
  · obtain ⟨rfl, rfl, hs'⟩ := hI
    dsimp only
    refine wpS_bind (sLt h I (by lia  ) (by lia  ) ?_)
    by_cases hl : kv ρ (arrOf st') x < kv ρ (arrOf st') (x - 1)
    · simp only [hl, decide_true, if_true]
      exact wpS_pure (k x hx1 (by lia  ) hs' (.inr hl))
    · simp only [hl, decide_false, Bool.false_eq_true, if_false]
      refine wpS_pure ⟨rfl, rfl, fun i j hij hj => ?_⟩
      have hne := h.ne I (i := x) (j := x - 1) (by lia  ) (by lia  ) (by lia  )
      by_cases hjx : j < x
      · exact hs' i j hij hjx
      · have : j = x := by lia
        subst this
        by_cases hi : i = j - 1
        · subst hi; lia
        · have := hs' i (j - 1) (by lia  ) (by lia  )
          lia
  · obtain ⟨rfl, rfl, hs'⟩ := hI
    rw [show max b nrem = nrem by lia  ] at hs' ⊢
    exact k nrem hbn (Nat.le_refl _) hs' (.inl rfl)

theorem sTail (I : SI (model prog w) A s ρ kd a₀) (h : SB ρ kd a₀ st) {n nrem : Nat} (hn : nrem ≤ a₀.size) (h1 : 1 ≤ n) (hnn : n ≤ nrem) (hs : Dec ρ (arrOf st) n) {Q : Option Nat → SortSt → Prop}
    (k : ∀ m st', SB ρ kd a₀ st' → 1 ≤ m → m ≤ nrem → Inc ρ (arrOf st') m → Q (some m) st') : wpS (model prog w) A E s (tail3 n nrem) Q st := by
  unfold tail3
  have hsz : n ≤ (arrOf st).size := by rw [h.size]; lia
  refine wpS_bind (wpS_reverse ?_)
  have h' : SB ρ kd a₀ (PyProof.Rows.setArr st (mirror (arrOf st) 0 n ((n - 0) / 2))) := h.setArr (mirror_perm _ _ _ _)
  refine wpS_bind (sAsc I h' hn h1 hnn ?_ fun m hm1 hm2 hsm _ => wpS_pure (k m _ h' (by lia  ) hm2 hsm))
  intro i j hij hj
  show kv ρ (mirror (arrOf st) 0 n ((n - 0) / 2)) i < kv ρ (mirror (arrOf st) 0 n ((n - 0) / 2)) j
  rw [kv_mirror hsz, kv_mirror hsz, if_pos ⟨Nat.zero_le _, by lia  ⟩, if_pos ⟨Nat.zero_le _, hj⟩]
  exact hs _ _ (by grind) (by (clear hj; omega))

theorem sDesc (I : SI (model prog w) A s ρ kd a₀) (h : SB ρ kd a₀ st) {n nrem : Nat} (hn : nrem ≤ a₀.size) (h1 : 1 ≤ n) (hnn : n ≤ nrem) (hs : Dec ρ (arrOf st) n) {Q : DescSt → SortSt → Prop}
    (k : ∀ m, n ≤ m → m ≤ nrem → Dec ρ (arrOf st) m → Q (none, m, 0) st) : wpS (model prog w) A E s (descLoop n nrem) Q st := by
  unfold descLoop
  refine wpS_forRange (I := fun x c st' => st' = st ∧ c = (none, x, 0) ∧ Dec ρ (arrOf st) x) (fun x c st' hx1 hx2 hI => ?_) (fun c st' hI => ?_) ⟨rfl, rfl, hs⟩
  · obtain ⟨rfl, rfl, hs'⟩ := hI
    dsimp only
    refine wpS_bind (sLt h I (by lia  ) (by lia  ) ?_)
    have hne := h.ne I (i := x) (j := x - 1) (by lia  ) (by lia  ) (by grind)
    by_cases hl : kv ρ (arrOf st') x < kv ρ (arrOf st') (x - 1)
    · simp only [hl, decide_true, if_true]
      first | refine wpS_no (by lia  ) ?_ | rw [if_neg (by lia  )]
      refine wpS_pure ⟨rfl, rfl, fun i j hij hj => ?_⟩
      by_cases hjx : j < x
      · exact hs' i j hij hjx
      · have : j = x := by lia
        subst this
        by_cases hi : i = j - 1
        · subst hi; omega
        · have := hs' i (j - 1) (by lia  ) (by lia  )
          lia
    · simp only [hl, decide_false, Bool.false_eq_true, if_false]
      refine wpS_bind (sLt h I (by lia  ) (by lia  ) ?_)
      have hg : kv ρ (arrOf st') (x - 1) < kv ρ (arrOf st') x := by lia
      simp only [hg, decide_true, if_true]
      exact wpS_pure (k x hx1 (by lia  ) hs')
  · obtain ⟨rfl, rfl, hs'⟩ := hI
    rw [show max n nrem = nrem by lia  ] at hs' ⊢
    exact k nrem hnn (Nat.le_refl _) hs'

theorem sDescPart (I : SI (model prog w) A s ρ kd a₀) (h : SB ρ kd a₀ st) {n nrem : Nat} (hn : nrem ≤ a₀.size) (hnn : n + 1 ≤ nrem) (hs : Dec ρ (arrOf st) (n + 1)) {Q : Option Nat → SortSt → Prop}
    (k : ∀ m st', SB ρ kd a₀ st' → 1 ≤ m → m ≤ nrem → Inc ρ (arrOf st') m → Q (some m) st') : wpS (model prog w) A E s (descPart n nrem) Q st := by
  unfold descPart
  refine wpS_bind (wpS_lift (wpAny_rule ⟨rfl, ?_⟩))
  refine wpS_bind (sDesc I h hn (by lia  ) hnn hs fun m hm1 hm2 hs' => ?_)
  dsimp only
  first | refine wpS_no (by lia  ) ?_ | rw [if_neg (by lia  )]
  exact sTail I h hn (by lia  ) hm2 hs' k

theorem sCount (I : SI (model prog w) A s ρ kd a₀) (h : SB ρ kd a₀ st) {nrem : Nat} (hn : nrem ≤ a₀.size) (h1 : 1 ≤ nrem) {Q : Option Nat → SortSt → Prop}
    (k : ∀ m st', SB ρ kd a₀ st' → 1 ≤ m → m ≤ nrem → Inc ρ (arrOf st') m → Q (some m) st') : wpS (model prog w) A E s (countRun' 0 nrem) Q st := by
  rw [countRun0_eq]
  refine wpS_bind (sAsc I h hn (Nat.le_refl 1) h1 (fun i j hij hj => by lia  ) fun n hn1 hn2 hsn hor => ?_)
  dsimp only
  by_cases hnn : n = nrem
  · first | refine wpS_yes (by simpa using hnn) ?_ | rw [if_pos (by simpa using hnn)]
    exact wpS_pure (k n st h hn1 hn2 hsn)
  · first | refine wpS_no (by simpa using hnn) ?_ | rw [if_neg (by simpa using hnn)]
    have hlt := hor.resolve_left hnn
    by_cases hgt : n > 1
    · first | refine wpS_yes hgt ?_ | rw [if_pos hgt]
      refine wpS_bind (sLt h I (by lia  ) (by (clear hgt hlt; omega)  ) ?_)
      have hr : kv ρ (arrOf st) 0 < kv ρ (arrOf st) (n - 1) := hsn 0 (n - 1) (by lia  ) (by lia  )
      simp only [hr, decide_true, if_true]
      exact wpS_pure (k n st h hn1 hn2 hsn)
    · first | refine wpS_no hgt ?_ | rw [if_neg hgt]
      have : n = 1 := by lia
      subst this
      refine sDescPart I h hn (by lia  ) (fun i j hij hj => ?_) k
      have hi : i = 0 := by lia
      have hj' : j = 1 := by lia
      subst hi; subst hj'
      exact hlt

theorem sIns (I : SI (model prog w) A s ρ kd a₀) (h : SB ρ kd a₀ st) {n ok : Nat} (hn : n ≤ a₀.size) (hok : ok ≤ n) (hs : Inc ρ (arrOf st) ok) {Q : Bool → SortSt → Prop}
    (k : ∀ st', SB ρ kd a₀ st' → Inc ρ (arrOf st') n → Q true st') : wpS (model prog w) A E s (binarySort' 0 n ok) Q st := by
  rw [binarySort'_eq]
  simp only [Nat.zero_add]
  refine wpS_bind (wpS_mono (wpS_forRange (I := fun x c st' => c = (none, ()) ∧ SB ρ kd a₀ st' ∧ Inc ρ (arrOf st') (min x n)) (Q := fun c st' => c = (none, ()) ∧ SB ρ kd a₀ st' ∧ Inc ρ (arrOf st') n)
    (fun x c st' hx1 hx2 hI => ?_) (fun c st' hI => ?_) ⟨rfl, h, fun i j hij hj => ?_⟩) fun c st' hI => ?_)
  · obtain ⟨rfl, h', hs'⟩ := hI
    rw [show min x n = x by lia  ] at hs'
    refine wpS_bind (wpS_mono (wpS_forRange (I := fun y c st'' => st'' = st' ∧ ∃ l r, c = (none, l, r) ∧ l ≤ r ∧ r ≤ x ∧ r - l ≤ x - y ∧ (∀ i, i < l → kv ρ (arrOf st') i < kv ρ (arrOf st') x) ∧ (∀ i, r ≤ i → i < x → kv ρ (arrOf st') x < kv ρ (arrOf st') i))
      (Q := fun c st'' => st'' = st' ∧ ∃ l r, c = (none, l, r) ∧ l ≤ x ∧ (∀ i, i < l → kv ρ (arrOf st') i < kv ρ (arrOf st') x) ∧ (∀ i, l ≤ i → i < x → kv ρ (arrOf st') x < kv ρ (arrOf st') i))
      (fun y c st'' hy1 hy2 hI => ?_) (fun c st'' hI => ?_) ⟨rfl, 0, x, rfl, Nat.zero_le _, Nat.le_refl _, by lia  , fun i hi => by lia  , fun i h1 h2 => by grind⟩) fun c st'' hI => ?_)
    · obtain ⟨rfl, l, r, rfl, hlr, hrx, hm, hlo, hhi⟩ := hI
      dsimp only
      by_cases hge : l ≥ r
      · first | refine wpS_yes hge ?_ | rw [if_pos hge]
        exact wpS_pure ⟨rfl, l, r, rfl, by lia  , hlo, fun i h1 h2 => hhi i (by lia  ) h2⟩
      · first | refine wpS_no hge ?_ | rw [if_neg hge]
        refine wpS_bind (sLt h' I (by lia  ) (by lia  ) ?_)
        have hne := h'.ne I (i := x) (j := (l + r) / 2) (by lia  ) (by lia  ) (by lia  )
        by_cases hl : kv ρ (arrOf st'') x < kv ρ (arrOf st'') ((l + r) / 2)
        · simp only [hl, decide_true, if_true]
          refine wpS_pure ⟨rfl, l, (l + r) / 2, rfl, by lia  , by lia  , by grind, hlo, fun i h1 h2 => ?_⟩
          by_cases hi : i = (l + r) / 2
          · subst hi; exact hl
          · have := hs' ((l + r) / 2) i (by lia  ) (by omega)
            lia
        · simp only [hl, decide_false, Bool.false_eq_true, if_false]
          refine wpS_pure ⟨rfl, (l + r) / 2 + 1, r, rfl, by lia  , by omega, by grind, fun i h1 => ?_, hhi⟩
          by_cases hi : i = (l + r) / 2
          · subst hi; lia
          · have := hs' i ((l + r) / 2) (by lia  ) (by lia  )
            lia
    · obtain ⟨rfl, l, r, rfl, hlr, hrx, hm, hlo, hhi⟩ := hI
      exact ⟨rfl, l, r, rfl, by lia  , hlo, fun i h1 h2 => hhi i (by lia  ) h2⟩
    · obtain ⟨rfl, l, r, rfl, hlx, hlo, hhi⟩ := hI
      show wpS _ _ _ _ (do moveDown' x l; pure (ForInStep.yield (none, ()))) _ _
      rw [moveDown'_eq]
      refine wpS_bind (wpS_modify (wpS_pure ⟨rfl, h'.setArr (bubble_perm _ _ _), fun i j hij hj => ?_⟩))
      have hxs : x < (arrOf st'').size := by rw [h'.size]; lia
      show kv ρ (bubble (arrOf st'') x (x - l)) i < kv ρ (bubble (arrOf st'') x (x - l)) j
      rw [kv_bubble hxs (by grind), kv_bubble hxs (by grind), show x - (x - l) = l by lia  ]
      repeat' split
      all_goals first
        | (exfalso; lia  )
        | exact hlo _ (by lia  )
        | exact hhi _ (by lia  ) (by omega)
        | exact hs' _ _ (by lia  ) (by omega)
  · obtain ⟨hc, h', hs'⟩ := hI
    rw [show min (max (max ok 1) n) n = n by lia  ] at hs'
    exact ⟨hc, h', hs'⟩
  · by_cases h0 : ok = 0
    · lia
    · exact hs i j hij (by lia  )
  · obtain ⟨rfl, h', hs'⟩ := hI
    exact wpS_pure (k st' h' hs')

theorem sRuns (I : SI (model prog w) A s ρ kd a₀) (h : SB ρ kd a₀ st) (h2 : 2 ≤ a₀.size) (h64 : a₀.size < 64) {Q : Unit → SortSt → Prop}
    (k : ∀ st', (arrOf st').Perm a₀ → failedOf st' = none → Inc ρ (arrOf st') a₀.size → Q () st') : wpS (model prog w) A E s sortRuns' Q st := by
  rw [sortRuns'_eq]
  refine wpS_bind (wpS_get ?_)
  dsimp only
  have hmr : minRun' a₀.size a₀.size 0 = a₀.size := by
    obtain ⟨f, hf⟩ : ∃ f, a₀.size = f + 1 := ⟨a₀.size - 1, by lia  ⟩
    have : minRun' (f + 1) a₀.size 0 = a₀.size := by rw [minRun'_succ, if_pos h64]; rfl
    rwa [← hf] at this
  rw [h.size, hmr]
  let D : SortSt → Prop := fun st' => (arrOf st').Perm a₀ ∧ failedOf st' = none ∧ (pendingOf st').size = 1 ∧ Inc ρ (arrOf st') a₀.size
  have done : ∀ st', SB ρ kd a₀ st' → Inc ρ (arrOf st') a₀.size → D (setPending st' ((pendingOf st').push (0, a₀.size, 0))) := fun st' h' hs' => ⟨h'.perm, h'.failed, by show ((pendingOf st').push _).size = 1; rw [h'.pend]; rfl, hs'⟩
  refine wpS_bind (wpS_mono (wpS_forRange (I := fun x c st' => (x = 0 ∧ c = (none, 0) ∧ SB ρ kd a₀ st') ∨ (1 ≤ x ∧ c = (none, a₀.size) ∧ D st')) (Q := fun c st' => c = (none, a₀.size) ∧ D st')
    (fun x c st' hx1 hx2 hI => ?_) (fun c st' hI => ?_) (.inl ⟨rfl, rfl, h⟩)) fun c st' hI => ?_)
  · rcases hI with ⟨rfl, rfl, h'⟩ | ⟨hx1, rfl, hD⟩
    · dsimp only
      refine wpS_no (by lia) ?_
      rw [show min (a₀.size - 0) a₀.size = a₀.size from Nat.min_self _]
      refine wpS_bind (sCount I h' (Nat.le_refl _) (by lia  ) fun m st2 hB2 hm1 hm2 hs2 => ?_)
      dsimp only
      by_cases hlt : m < a₀.size
      · refine wpS_yes hlt ?_
        refine wpS_bind (wpS_lift (wpAny_rule ⟨rfl, ?_⟩))
        refine wpS_bind (sIns I hB2 (Nat.le_refl _) hm2 hs2 fun st3 hB3 hs3 => ?_)
        (try simp only [Bool.not_true, Bool.false_eq_true, if_false])
        refine wpS_bind (wpS_get ?_)
        have hb : (pendingOf st3).back? = none := by rw [hB3.pend]; rfl
        rw [hb]
        dsimp only
        exact wpS_bind (wpS_modify (wpS_pure (.inr ⟨by lia  , by rw [Nat.zero_add], done st3 hB3 hs3⟩)))
      · refine wpS_no hlt ?_
        have hm : m = a₀.size := by lia
        subst hm
        refine wpS_bind (wpS_get ?_)
        have hb : (pendingOf st2).back? = none := by rw [hB2.pend]; rfl
        rw [hb]
        dsimp only
        exact wpS_bind (wpS_modify (wpS_pure (.inr ⟨by lia  , by rw [Nat.zero_add], done st2 hB2 hs2⟩)))
    · dsimp only
      refine wpS_yes (Nat.le_refl _) ?_
      exact wpS_pure ⟨rfl, hD⟩
  · rcases hI with ⟨hx, _, _⟩ | ⟨_, hc, hD⟩
    · lia
    · exact ⟨hc, hD⟩
  · obtain ⟨rfl, hD⟩ := hI
    dsimp only
    refine wpS_bind (wpS_mono (wpS_forRange (I := fun _ c st'' => st'' = st' ∧ c = (none, ())) (Q := fun c st'' => st'' = st' ∧ c = (none, ())) (fun x c st'' _ _ hI => ?_) (fun _ _ hh => hh) ⟨rfl, rfl⟩) fun c st'' hI => ?_)
    · obtain ⟨rfl, rfl⟩ := hI
      refine wpS_bind (wpS_get ?_)
      refine wpS_yes (by rw [hD.2.2.1]; exact Nat.le_refl 1) ?_
      exact wpS_pure ⟨rfl, rfl⟩
    · obtain ⟨rfl, rfl⟩ := hI
      exact wpS_pure (k _ hD.1 hD.2.1 hD.2.2.2)
end
end Mine
end
section
set_option maxRecDepth 100000
set_option autoImplicit false
namespace Mine
open PySem PySem.W PySem.Calls PyProof.Rows PySem.Spec

theorem perm_map_inv {α β : Type} {f : α → β} : ∀ {l : List α} {m : List β}, (l.map f).Perm m → ∃ l', l.Perm l' ∧ l'.map f = m := by
  intro l m h
  generalize hx : l.map f = x at h
  induction h generalizing l with
  | nil => exact ⟨[], by rw [List.map_eq_nil_iff.mp hx], rfl⟩
  | cons a _ ih =>
    obtain ⟨b, r, rfl, rfl, hr⟩ := List.map_eq_cons_iff.mp hx
    obtain ⟨l', h1, h2⟩ := ih hr
    exact ⟨b :: l', h1.cons b, by rw [List.map_cons, h2]⟩
  | swap a b t =>
    obtain ⟨b', r, rfl, rfl, hr⟩ := List.map_eq_cons_iff.mp hx
    obtain ⟨a', r', rfl, rfl, hr'⟩ := List.map_eq_cons_iff.mp hr
    exact ⟨a' :: b' :: r', List.Perm.swap _ _ _, by rw [List.map_cons, List.map_cons, hr']⟩
  | trans _ _ ih1 ih2 =>
    obtain ⟨l1, h1, h2⟩ := ih1 hx
    obtain ⟨l2, h3, h4⟩ := ih2 h2
    exact ⟨l2, h1.trans h3, h4⟩

noncomputable def posI (q : Row) : Int := match q.pos with | .int i _ => i | _ => 0
noncomputable def ltR (κ : KeyOps) (x y : Row) : Bool := κ.lt x.key y.key || (κ.eq x.key y.key && decide (posI x < posI y))
structure PosR (rows : List Row) : Prop where
  int : ∀ q ∈ rows, ∃ t, q.pos = .int (posI q) t
  ne : ∀ q ∈ rows, ∀ q' ∈ rows, posI q = posI q' → q = q'
theorem ltR_irrefl (κ : KeyOps) {x : Row} (hx : κ.P x.key) : ltR κ x x = false := by simp [ltR, κ.irrefl x.key hx]
theorem ltR_trans (κ : KeyOps) {x y z : Row} (hx : κ.P x.key) (hy : κ.P y.key) (hz : κ.P z.key) (h1 : ltR κ x y = true) (h2 : ltR κ y z = true) : ltR κ x z = true := by
  simp only [ltR, Bool.or_eq_true, Bool.and_eq_true, decide_eq_true_eq] at h1 h2 ⊢
  have e1 := κ.eq_iff x.key y.key hx hy
  have e2 := κ.eq_iff y.key z.key hy hz
  have e3 := κ.eq_iff x.key z.key hx hz
  rcases h1 with h1 | ⟨h1, p1⟩ <;> rcases h2 with h2 | ⟨h2, p2⟩
  · exact .inl (κ.trans _ _ _ hx hy hz h1 h2)
  · obtain ⟨a, b⟩ := e2.mp h2
    rcases κ.neg x.key z.key y.key hx hz hy h1 with q | q
    · exact .inl q
    · rw [b] at q; cases q
  · obtain ⟨a, b⟩ := e1.mp h1
    rcases κ.neg y.key x.key z.key hy hx hz h2 with q | q
    · rw [b] at q; cases q
    · exact .inl q
  · refine .inr ⟨e3.mpr ⟨?_, ?_⟩, by lia  ⟩
    · cases q : κ.lt x.key z.key
      · rfl
      · rcases κ.neg x.key y.key z.key hx hy hz q with r | r
        · rw [(e1.mp h1).1] at r; cases r
        · rw [(e2.mp h2).1] at r; cases r
    · cases q : κ.lt z.key x.key
      · rfl
      · rcases κ.neg z.key y.key x.key hz hy hx q with r | r
        · rw [(e2.mp h2).2] at r; cases r
        · rw [(e1.mp h1).2] at r; cases r
theorem ltR_total (κ : KeyOps) {x y : Row} (hx : κ.P x.key) (hy : κ.P y.key) (hp : posI x ≠ posI y) : ltR κ x y = true ∨ ltR κ y x = true := by
  simp only [ltR, Bool.or_eq_true, Bool.and_eq_true, decide_eq_true_eq]
  have e1 := κ.eq_iff x.key y.key hx hy
  have e2 := κ.eq_iff y.key x.key hy hx
  cases q : κ.lt x.key y.key
  · cases q' : κ.lt y.key x.key
    · rcases Int.lt_or_gt_of_ne hp with z | z
      · exact .inl (.inr ⟨e1.mpr ⟨q, q'⟩, z⟩)
      · exact .inr (.inr ⟨e2.mpr ⟨q', q⟩, z⟩)
    · exact .inr (.inl rfl)
  · exact .inl (.inl rfl)

noncomputable def rk (κ : KeyOps) (rows : List Row) (x : Row) : Int := ((rows.countP fun q => ltR κ q x : Nat) : Int)
noncomputable def rkV (κ : KeyOps) (rows : List Row) (v : Value) : Int := match v with
  | .ref a => match rows.find? (·.r == a) with
    | some q => rk κ rows q
    | none => 0
  | _ => 0
theorem countP_le_of {α : Type} {p q : α → Bool} : ∀ {l : List α}, (∀ x ∈ l, p x = true → q x = true) → l.countP p ≤ l.countP q
  | [], _ => Nat.le_refl _
  | x :: l, h => by
    rw [List.countP_cons, List.countP_cons]
    have ih := countP_le_of (l := l) fun y hy => h y (.tail _ hy)
    have hx := h x (.head _)
    by_cases c : p x = true
    · simp [c, hx c]; exact ih
    · simp [c]; split <;> (clear c; lia)
theorem countP_lt_of {α : Type} {p q : α → Bool} {z : α} : ∀ {l : List α}, (∀ x ∈ l, p x = true → q x = true) → z ∈ l → p z = false → q z = true → l.countP p < l.countP q
  | [], _, h, _, _ => nomatch h
  | x :: l, h, hz, h1, h2 => by
    rw [List.countP_cons, List.countP_cons]
    have le := countP_le_of (l := l) fun y hy => h y (.tail _ hy)
    rcases List.mem_cons.mp hz with rfl | hz
    · simp [h1, h2]; lia
    · have ih := countP_lt_of (l := l) (fun y hy => h y (.tail _ hy)) hz h1 h2
      have hx := h x (.head _)
      by_cases c : p x = true
      · simp [c, hx c]; exact ih
      · simp [c]; split <;> (clear c; lia)
theorem rk_lt {κ : KeyOps} {rows : List Row} (hk : ∀ q ∈ rows, κ.P q.key) {x y : Row} (hx : x ∈ rows) (hy : y ∈ rows) (h : ltR κ x y = true) : rk κ rows x < rk κ rows y := by
  unfold rk
  have := countP_lt_of (p := fun q => ltR κ q x) (q := fun q => ltR κ q y) (l := rows) (z := x) (fun q hq hqx => ltR_trans κ (hk q hq) (hk x hx) (hk y hy) hqx h) hx (ltR_irrefl κ (hk x hx)) h
  exact Int.ofNat_lt.mpr this
theorem rk_iff {κ : KeyOps} {rows : List Row} (hk : ∀ q ∈ rows, κ.P q.key) (P : PosR rows) {x y : Row} (hx : x ∈ rows) (hy : y ∈ rows) : decide (rk κ rows x < rk κ rows y) = ltR κ x y := by
  by_cases hxy : x = y
  · subst hxy; rw [ltR_irrefl κ (hk x hx)]; simp
  · have hp : posI x ≠ posI y := fun e => hxy (P.ne x hx y hy e)
    rcases ltR_total κ (hk x hx) (hk y hy) hp with h | h
    · rw [h]; exact decide_eq_true (rk_lt hk hx hy h)
    · have h2 := rk_lt hk hy hx h
      have : ltR κ x y = false := by
        cases q : ltR κ x y
        · rfl
        · have := rk_lt hk hx hy q; lia
      rw [this]; exact decide_eq_false (by lia  )
theorem find_row {rows : List Row} (hn : (rows.map (·.r)).Nodup) {q : Row} (hq : q ∈ rows) : rows.find? (·.r == q.r) = some q := by
  induction rows with
  | nil => cases hq
  | cons x l ih =>
    rw [List.map_cons] at hn
    obtain ⟨h1, h2⟩ := List.nodup_cons.mp hn
    rcases List.mem_cons.mp hq with rfl | hq
    · simp
    · rw [List.find?_cons]
      have : (x.r == q.r) = false := by
        rw [beq_eq_false_iff_ne]
        exact fun e => h1 (e ▸ List.mem_map.mpr ⟨q, hq, rfl⟩)
      rw [this]; exact ih h2 hq
theorem rkV_row {κ : KeyOps} {rows : List Row} (hn : (rows.map (·.r)).Nodup) {q : Row} (hq : q ∈ rows) : rkV κ rows (.ref q.r) = rk κ rows q := by
  unfold rkV; dsimp only; rw [find_row hn hq]
end Mine
end
section
set_option maxRecDepth 100000
set_option autoImplicit false
namespace Mine
open PySem PySem.W PySem.Calls PyProof.Rows PySem.Spec

noncomputable def pairR (q : Row) : Keyed := (.ref q.r, .ref q.r)
noncomputable def OrdR (κ : KeyOps) (b : Bool) (rows : List Row) : Prop := if b = true then rows.Pairwise (fun x y => ltR κ y x = true) else rows.Pairwise (fun x y => ltR κ x y = true)
theorem zip_refs (rows : List Row) : (refs rows).toArray.zip (refs rows).toArray = (rows.map pairR).toArray := by
  apply Array.toList_inj.mp
  simp only [Array.toList_zip]
  unfold refs
  rw [List.zip_map', ]
  rfl

theorem short_cases {α : Type} (l : List α) (h : l.length < 2) : l = [] ∨ ∃ q, l = [q] := by
  cases l with
  | nil => exact .inl rfl
  | cons q r =>
    cases r with
    | nil => exact .inr ⟨q, rfl⟩
    | cons p t => simp only [List.length_cons] at h; lia
theorem short_ez (b : Bool) {rows : List Row} (h : rows.length < 2) : (if b = true then ((rows.map pairR).toArray).reverse else (rows.map pairR).toArray).map (·.2) = (refs rows).toArray := by
  rcases short_cases rows h with rfl | ⟨q, rfl⟩
  · cases b <;> simp [refs]
  · cases b <;> simp [pairR, refs]
theorem short_pw {R : Row → Row → Prop} {rows : List Row} (h : rows.length < 2) : rows.Pairwise R := by
  rcases short_cases rows h with rfl | ⟨q, rfl⟩
  · exact List.Pairwise.nil
  · exact List.pairwise_singleton _ _
section
variable {H0 : Heap} {A : Around} {s : Shared} {prog : Program} {w : World} {E : Value → Shared → Prop}

theorem row_lt (κ : KeyOps) {rows : List Row} (KR : KeyR κ rows) (P : PosR rows) (nb : NoneBooked s.heap) (hr : ∀ q ∈ rows, s.heap.get? q.r = some (tupO [q.key, q.pos])) {x y : Row} (hx : x ∈ rows) (hy : y ∈ rows) {Q : Bool → Shared → Prop} (h : Q (ltR κ x y) s) :
    wpAny (model prog w) A (keyLt' (tuples' true) (.ref x.r) (.ref y.r)) Q E s := by
  obtain ⟨t, ex⟩ := P.int x hx
  obtain ⟨u, ey⟩ := P.int y hy
  refine kat_lt (hr x hx) rfl (hr y hy) rfl ?_
  show KatLex prog w A true (decide (2 < 2)) Q [(x.key, y.key), (x.pos, y.pos)] 0 s
  have e1 := κ.eq_iff x.key y.key (KR.all x hx).1 (KR.all y hy).1
  refine kat_cons (κ.eqR _ _ _ _ _ _ _ _ nb (KR.all x hx).1 (KR.all y hy).1 (KR.all x hx).2 (KR.all y hy).2 (KR.tok x hx y hy) ?_)
  unfold ltR at h
  cases he : κ.eq x.key y.key with
  | true =>
    rw [he, (e1.mp he).1, Bool.false_or, Bool.true_and] at h
    refine kat_yes (kat_cons ?_)
    rw [ex, ey]
    refine wpAny_eqBool_int ?_
    cases hp : posI x == posI y with
    | true =>
      have : posI x = posI y := by simpa using hp
      refine kat_yes (kat_nil ?_)
      rw [this] at h
      simpa using h
    | false =>
      refine kat_no (kat_one _ _ (PyProof.Rows.lt_int ?_))
      exact h
  | false =>
    rw [he, Bool.false_and, Bool.or_false] at h
    exact kat_no (κ.ltR _ _ _ _ _ _ _ _ _ (KR.all x hx).1 (KR.all y hy).1 h)

theorem rows_tups {h : Heap} : ∀ {rows : List Row}, (∀ q ∈ rows, h.get? q.r = some (tupO [q.key, q.pos])) → KatTups h (refs rows) (rows.map (·.key))
  | [], _ => .nil
  | q :: r, hr => KatTups.cons (hr q (.head _)) rfl rfl rfl (rows_tups fun p hp => hr p (.tail _ hp))

theorem rows_si (κ : KeyOps) {rows : List Row} (KR : KeyR κ rows) (P : PosR rows) (nb : NoneBooked s.heap) (hr : ∀ q ∈ rows, s.heap.get? q.r = some (tupO [q.key, q.pos])) (hn : (rows.map (·.r)).Nodup) {a₀ : Array Keyed} (hp : a₀.toList.Perm (rows.map pairR)) :
    SI (model prog w) A s (rkV κ rows) (tuples' true) a₀ := by
  have hk : ∀ q ∈ rows, κ.P q.key := fun q hq => (KR.all q hq).1
  have mem : ∀ x ∈ a₀.toList, ∃ q ∈ rows, x = pairR q := fun x hx => by
    obtain ⟨q, hq, e⟩ := List.mem_map.mp (hp.mem_iff.mp hx)
    exact ⟨q, hq, e.symm⟩
  refine ⟨?_, ?_, ?_⟩
  · refine hp.nodup_iff.mpr ?_
    have : (rows.map pairR) = (rows.map (·.r)).map (fun a => ((.ref a, .ref a) : Keyed)) := by rw [List.map_map]; rfl
    rw [this]
    exact List.Pairwise.map _ (fun a b hab e => hab (by cases e; rfl)) hn
  · intro x hx y hy e
    obtain ⟨q, hq, rfl⟩ := mem x hx
    obtain ⟨q', hq', rfl⟩ := mem y hy
    have e' : rk κ rows q = rk κ rows q' := by rw [← rkV_row hn hq, ← rkV_row hn hq']; exact e
    by_cases hqq : q = q'
    · rw [hqq]
    · exfalso
      rcases ltR_total κ (hk q hq) (hk q' hq') (fun z => hqq (P.ne q hq q' hq' z)) with z | z
      · have := rk_lt hk hq hq' z; lia
      · have := rk_lt hk hq' hq z; lia
  · intro x hx y hy E Q hQ
    obtain ⟨q, hq, rfl⟩ := mem x hx
    obtain ⟨q', hq', rfl⟩ := mem y hy
    refine row_lt κ KR P nb hr hq hq' ?_
    have : decide (rkV κ rows (pairR q).1 < rkV κ rows (pairR q').1) = ltR κ q q' := by
      show decide (rkV κ rows (.ref q.r) < rkV κ rows (.ref q'.r)) = _
      rw [rkV_row hn hq, rkV_row hn hq', rk_iff hk P hq hq']
    rw [← this]; exact hQ

theorem rows_out (κ : KeyOps) {rows : List Row} (KR : KeyR κ rows) (P : PosR rows) (hn : (rows.map (·.r)).Nodup) {xs : Array Keyed} (hp : xs.toList.Perm (rows.map pairR)) (hs : Inc (rkV κ rows) xs rows.length) :
    ∃ rows', rows'.Perm rows ∧ (xs.map (·.2)) = (refs rows').toArray ∧ rows'.Pairwise (fun x y => ltR κ x y = true) := by
  have hk : ∀ q ∈ rows, κ.P q.key := fun q hq => (KR.all q hq).1
  obtain ⟨rows', h1, h2⟩ := perm_map_inv hp.symm
  have hm : ∀ q ∈ rows', q ∈ rows := fun q hq => h1.mem_iff.mpr hq
  have hl : rows'.length = rows.length := h1.length_eq.symm
  refine ⟨rows', h1.symm, ?_, ?_⟩
  · apply Array.toList_inj.mp
    rw [Array.toList_map, ← h2, List.map_map]
    rfl
  · have get : ∀ i (hi : i < rows'.length), kv (rkV κ rows) xs i = rk κ rows rows'[i] := by
      intro i hi
      have e : xs[i]? = some (pairR rows'[i]) := by
        rw [← Array.getElem?_toList, ← h2, List.getElem?_map, List.getElem?_eq_getElem hi]; rfl
      unfold kv; rw [e]
      exact rkV_row hn (hm _ (List.getElem_mem hi))
    refine List.pairwise_iff_getElem.mpr fun i j hi hj hij => ?_
    have := hs i j hij (by lia  )
    rw [get i hi, get j hj] at this
    have e := rk_iff hk P (hm _ (List.getElem_mem hi)) (hm _ (List.getElem_mem hj))
    rw [← e]; exact decide_eq_true this

theorem size_rev (b : Bool) {z : Array Value} {n : Nat} (h : z.size ≤ n) : (if b = true then z.reverse else z).size ≤ n := by
  split
  · rw [Array.size_reverse]; exact h
  · exact h
theorem le_of_size {z y : Array Value} {n : Nat} (e : z = y) (h : y.size ≤ n) : z.size ≤ n := e ▸ h
theorem sort_rows (κ : KeyOps) {rows : List Row} (KR : KeyR κ rows) (P : PosR rows) {D : Addr} {n : Nat} {b : Bool} (nb : NoneBooked H0) (hg : ∀ x o, H0.get? x = some o → s.heap.get? x = some o) (hD : s.heap.get? D = some (lstO (refs rows) n)) (hHD : H0.get? D = none)
    (hr : ∀ q ∈ rows, s.heap.get? q.r = some (tupO [q.key, q.pos])) (hn : (rows.map (·.r)).Nodup) (h64 : rows.length < 64) {T : PySem.Fin → Shared → Prop}
    (h : ∀ rows' n' s', rows'.Perm rows → OrdR κ b rows' → Go H0 [D] s s' → s'.heap.get? D = some (lstO (refs rows') n') → T (.done (.ret .none)) s') :
    wpAny (model prog w) A (Builtin.«list.sort» ⟨[.ref D], [(Str.ofString "reverse", .bool b)]⟩) T E s := by
  have hlen : (refs rows).toArray.size = rows.length := by simp [refs]
  rw [list_sort_rev]
  refine wpAny_bind (listItems_at hD rfl ?_)
  refine wpAny_bind (listUpdate_at hD rfl ?_ (by rw [hlen, sizeLine_eq]; lia  ) (Nat.zero_le _))
  obtain ⟨e1, ho1⟩ : ∃ e1, (s.heap.update D (Obj.mapSeq fun _ => #[])).get? D = some (seqObj "list" #[] e1) := ⟨_, get?_update_seq hD (fun _ => #[])⟩
  have g1 : Go H0 [D] s { s with heap := s.heap.update D (Obj.mapSeq fun _ => #[]) } := .upd _ hD nd_seq rfl nd_seq hHD
  refine wpAny_bind (seqEpoch_at ho1 rfl ?_)
  refine wpAny_bind (wpAny_newTuple ?_ (by show (refs rows).toArray.toList.length ≤ _; rw [Array.length_toList, hlen, sizeLine_eq]; lia  ))
  refine wpAny_bind (wpAny_newList ?_ (Nat.zero_le _))
  refine wpAny_holding ?_
  obtain ⟨s6, es6⟩ : ∃ s6 : Shared, s6 = { s with heap := ((s.heap.update D (Obj.mapSeq fun _ => #[])).push { cls := .type "tuple", data := .seq (refs rows).toArray.toList.toArray }).push { cls := .type "list", data := .seq ([] : List Value).toArray } } := ⟨_, rfl⟩
  show wpAny (model prog w) A _ T E { s with heap := ((s.heap.update D (Obj.mapSeq fun _ => #[])).push { cls := .type "tuple", data := .seq (refs rows).toArray.toList.toArray }).push { cls := .type "list", data := .seq ([] : List Value).toArray } }
  rw [← es6]
  have g6 : Go H0 [D] s s6 := by
    rw [es6]
    exact g1.trans ((Go.push (s := { s with heap := s.heap.update D (Obj.mapSeq fun _ => #[]) }) _).trans (Go.push (s := { s with heap := (s.heap.update D (Obj.mapSeq fun _ => #[])).push { cls := .type "tuple", data := .seq (refs rows).toArray.toList.toArray } }) _))
  have ho6 : s6.heap.get? D = some (seqObj "list" #[] e1) := by rw [es6]; exact Heap.get?_push_of_some _ (Heap.get?_push_of_some _ ho1)
  have hr6 : ∀ q ∈ rows, s6.heap.get? q.r = some (tupO [q.key, q.pos]) := fun q hq => g6.nd _ _ (hr q hq) (fun hm => ne_cls (hr q hq) hD (by show Value.type "tuple" ≠ .type "list"; decide) (List.mem_singleton.mp hm)) nd_seq
  have nb6 : NoneBooked s6.heap := let ⟨mc, p, q⟩ := nb; ⟨mc, p.keeps (g6.glob hg), q⟩
  have step : ∀ t : Sem PySem.Fin, wpAny (model prog w) A t T E s6 → wpAny (model prog w) A (if b = true then (do let _ ← rule "list.sort.reverse"; t) else t) T E s6 := by
    intro t ht
    split
    · exact wpAny_bind (wpAny_rule ht)
    · exact ht
  have fin : ∀ rows' : List Row, rows'.Perm rows → rows'.Pairwise (fun x y => ltR κ x y = true) → ∀ xs : Array Value, xs = (refs rows').toArray →
      T (.done (.ret .none)) { s6 with heap := s6.heap.update D (Obj.mapSeq fun _ => if b = true then xs.reverse else xs) } := by
    intro rows' h1 h2 xs hxs
    have g7 : Go H0 [D] s6 { s6 with heap := s6.heap.update D (Obj.mapSeq fun _ => if b = true then xs.reverse else xs) } := .upd _ ho6 nd_seq rfl nd_seq hHD
    have ho7 := get?_update_seq ho6 fun _ => if b = true then xs.reverse else xs
    cases b with
    | false =>
      obtain ⟨n7, ho8⟩ : ∃ n7, (s6.heap.update D (Obj.mapSeq fun _ => if false = true then xs.reverse else xs)).get? D = some (lstO (refs rows') n7) := ⟨_, by rw [ho7]; simp only [Bool.false_eq_true, if_false, hxs]; rfl⟩
      exact h rows' n7 _ h1 h2 (g6.trans g7) ho8
    | true =>
      have e : xs.reverse = (refs rows'.reverse).toArray := by
        rw [hxs]; simp [refs]
      obtain ⟨n7, ho8⟩ : ∃ n7, (s6.heap.update D (Obj.mapSeq fun _ => if true = true then xs.reverse else xs)).get? D = some (lstO (refs rows'.reverse) n7) := ⟨_, by rw [ho7]; simp only [if_true, e]; rfl⟩
      exact h rows'.reverse n7 _ ((List.reverse_perm _).trans h1) (List.pairwise_reverse.mpr h2) (g6.trans g7) ho8
  refine step _ ?_
  by_cases h2 : (refs rows).toArray.size < 2
  · rw [if_pos h2, if_pos h2]
    refine wpAny_bind (wpAny_pure (wpAny_bind ?_))
    rw [StateT.run_pure]
    refine wpAny_pure ?_
    dsimp only
    refine wpAny_bind (seqEpoch_at ho6 rfl ?_)
    have ez : (if b = true then ((refs rows).toArray.zip (refs rows).toArray).reverse else (refs rows).toArray.zip (refs rows).toArray).map (·.2) = (refs rows).toArray := by
      rw [zip_refs]
      exact short_ez b (by rw [← hlen]; exact h2)
    refine wpAny_bind (listUpdate_at ho6 rfl ?_ (Nat.zero_le _) ?_)
    · simp only [bne_self_eq_false, Bool.false_eq_true, if_false]
      refine wpAny_pure ?_
      exact fin rows (List.Perm.refl _) (short_pw (by rw [← hlen]; exact h2)) _ ez
    · exact size_rev b (le_of_size ez (by rw [hlen, sizeLine_eq]; lia  ))
  · rw [if_neg h2, if_neg h2]
    have hne : 0 < (rows.map (·.key)).length := by rw [List.length_map]; lia
    refine wpAny_bind (kat_kind (rows_tups hr6) hne (T := κ.ty) (fun v hv => ?_) (by simp) ?_)
    · obtain ⟨q, hq, rfl⟩ := List.mem_map.mp hv
      exact κ.hty _ _ _ (KR.all q hq).1
    have hkt : (κ.ty != Value.type "tuple") = true := by simpa using κ.nty
    rw [hkt]
    have hperm : (if b = true then ((refs rows).toArray.zip (refs rows).toArray).reverse else (refs rows).toArray.zip (refs rows).toArray).toList.Perm (rows.map pairR) := by
      rw [zip_refs]
      split
      · rw [Array.toList_reverse]; exact List.reverse_perm _
      · exact List.Perm.refl _
    generalize (if b = true then ((refs rows).toArray.zip (refs rows).toArray).reverse else (refs rows).toArray.zip (refs rows).toArray) = a₀ at hperm ⊢
    have ha0 : a₀.size = rows.length := by rw [← Array.length_toList, hperm.length_eq, List.length_map]
    have I := rows_si (prog := prog) (w := w) (A := A) κ KR P nb6 hr6 hn hperm
    refine wpAny_bind (wpAny_mono (sRuns (a₀ := a₀) (st := SortSt.mk' (tuples' true) a₀ #[] 7 none) I ⟨Array.Perm.refl _, rfl, rfl, rfl⟩ (by lia  ) (by lia  )
      (Q := fun _ st' => (arrOf st').Perm a₀ ∧ failedOf st' = none ∧ Inc (rkV κ rows) (arrOf st') a₀.size) fun st' a1 a2 a3 => ⟨a1, a2, a3⟩) ?_ fun _ _ e => e)
    rintro ⟨⟨⟩, st'⟩ s' ⟨rfl, hp, hf, hs⟩
    rw [ha0] at hs
    obtain ⟨rows', r1, r2, r3⟩ := rows_out κ KR P hn ((Array.perm_iff_toList_perm.mp hp).trans hperm) hs
    dsimp only
    refine wpAny_bind (seqEpoch_at ho6 rfl ?_)
    refine wpAny_bind (listUpdate_at ho6 rfl ?_ (Nat.zero_le _) ?_)
    · rw [hf]
      simp only [bne_self_eq_false, Bool.false_eq_true, if_false]
      exact wpAny_pure (fin rows' r1 r3 _ r2)
    · exact size_rev b (le_of_size r2 (by have : (refs rows').toArray.size = rows.length := by simp [refs, r1.length_eq]
                                          rw [this, sizeLine_eq]; lia  ))
end
end Mine
end
section
set_option maxRecDepth 100000
set_option autoImplicit false
namespace Mine
open PySem PySem.W PySem.Calls PyProof.Rows PySem.Spec

structure Src (prog : Program) (w : World) (H0 : Heap) (l : List Env) (d : Nat) (I : Addr) (own chg : List Addr) (n : Nat) (Inv Fi : List Value → Shared → Prop) : Prop where
  item : ∀ (A : Around) (acc : List Value) (s : Shared) (Q : Value → Shared → Prop) (E : Value → Shared → Prop), St H0 A l s → A.handled = none → A.depth + d < recursionLimit → acc.length < n → Inv acc s →
    (∀ v s', Go H0 chg s s' → Inv (acc ++ [v]) s' → Q v s') → wpAny (model prog w) A (Builtin.SmallTypes.nextOf (.ref I)) Q E s
  done : ∀ (A : Around) (acc : List Value) (s : Shared) (Q : Value → Shared → Prop) (E : Value → Shared → Prop), St H0 A l s → A.handled = none → A.depth + d < recursionLimit → acc.length = n → Inv acc s →
    (∀ e s', Go H0 chg s s' → s'.TypeIs (.ref e) "StopIteration" → Fi acc s' → E (.ref e) s') → wpAny (model prog w) A (Builtin.SmallTypes.nextOf (.ref I)) Q E s
  keepF : ∀ acc s s' M, Fi acc s → Go H0 M s s' → (∀ p ∈ M, p ∉ own) → Fi acc s'
  keep : ∀ acc s s' M, Inv acc s → Go H0 M s s' → (∀ p ∈ M, p ∉ own) → Inv acc s'
  sub : ∀ p ∈ chg, p ∈ own
  there : ∀ acc s p, Inv acc s → p ∈ own → ∃ o, s.heap.get? p = some o

section
variable {prog : Program} {w : World} {A : Around} {E : Value → Shared → Prop} {s : Shared} {H0 : Heap} {l : List Env}
theorem nextOf_list {it lst : Addr} {i : Nat} {vs : List Value} {n : Nat} {x : Value} {Q : Value → Shared → Prop} (hit : s.heap.get? it = some (itO lst i)) (hl : s.heap.get? lst = some (lstO vs n)) (hx : vs[i]? = some x)
    (hQ : Q x { s with heap := s.heap.update it (Obj.mapFields (·.setIfInBounds 1 (rawInt ((i : Int) + 1)))) }) : wpAny (model prog w) A (Builtin.SmallTypes.nextOf (.ref it)) Q E s := by
  have hT : s.TypeIs (.ref it) "list_iterator" := ⟨_, hit, rfl⟩
  unfold Builtin.SmallTypes.nextOf
  refine wpAny_bind (wpAny_callSpecial?_slot (name := Str.ofString "__next__") hT slot_listiter_next (wpAny_call_entry slot_listiter_next hT entry_listiter_next ?_ (args_listiter_next _)))
  show wpAny _ _ (field (.ref it) 0 >>= _) _ _ s
  refine wpAny_bind (wpAny_field hit rfl (x := .ref lst) rfl ?_)
  show wpAny _ _ (if (Value.ref lst == Value.none) = true then _ else _) _ _ s
  first | refine ite_no' rfl ?_ | refine ite_no (show ¬ ((Value.ref lst == Value.none) = true) from Bool.false_ne_true) ?_ | rw [if_neg (show ¬ ((Value.ref lst == Value.none) = true) from Bool.false_ne_true)]
  show wpAny _ _ (field (.ref it) 1 >>= _) _ _ s
  refine wpAny_bind (wpAny_field hit rfl (x := .int i 0) rfl ?_)
  show wpAny _ _ (seqItems? (.ref lst) >>= _) _ _ s
  refine wpAny_bind (wpAny_seqItems hl rfl ?_)
  simp only [Int.toNat_natCast, List.getElem?_toArray, hx]
  exact wpAny_bind (wpAny_setField hit rfl (by simp) (wpAny_pure ⟨x, rfl, wpAny_pure hQ⟩))
theorem nextOf_list_end {it lst : Addr} {i : Nat} {vs : List Value} {n : Nat} {Q : Value → Shared → Prop} (hh : A.handled = none) (hit : s.heap.get? it = some (itO lst i)) (hl : s.heap.get? lst = some (lstO vs n)) (hx : vs[i]? = none)
    (hE : ∀ h' e, Heap.MadeExc (s.heap.update it (Obj.mapFields (·.setIfInBounds 0 .none))) h' e "StopIteration" [] → E (.ref e) { s with heap := h' }) : wpAny (model prog w) A (Builtin.SmallTypes.nextOf (.ref it)) Q E s := by
  have hT : s.TypeIs (.ref it) "list_iterator" := ⟨_, hit, rfl⟩
  unfold Builtin.SmallTypes.nextOf
  refine wpAny_bind (wpAny_callSpecial?_slot (name := Str.ofString "__next__") hT slot_listiter_next (wpAny_call_entry slot_listiter_next hT entry_listiter_next ?_ (args_listiter_next _)))
  show wpAny _ _ (field (.ref it) 0 >>= _) _ _ s
  refine wpAny_bind (wpAny_field hit rfl (x := .ref lst) rfl ?_)
  show wpAny _ _ (if (Value.ref lst == Value.none) = true then _ else _) _ _ s
  first | refine ite_no' rfl ?_ | refine ite_no (show ¬ ((Value.ref lst == Value.none) = true) from Bool.false_ne_true) ?_ | rw [if_neg (show ¬ ((Value.ref lst == Value.none) = true) from Bool.false_ne_true)]
  show wpAny _ _ (field (.ref it) 1 >>= _) _ _ s
  refine wpAny_bind (wpAny_field hit rfl (x := .int i 0) rfl ?_)
  show wpAny _ _ (seqItems? (.ref lst) >>= _) _ _ s
  refine wpAny_bind (wpAny_seqItems hl rfl ?_)
  simp only [Int.toNat_natCast, List.getElem?_toArray, hx]
  refine wpAny_bind (wpAny_rule (wpAny_bind (wpAny_setField hit rfl (by simp) ?_)))
  show wpAny _ _ (newExc (.type "StopIteration") [] >>= _) _ _ _
  refine wpAny_bind (newExc_stop (fun h' e hm => ?_))
  simp only [raiseNew]
  refine wpAny_bind (wpAny_handled ?_)
  rw [show A.in1.handled = none from hh]
  exact wpAny_bind (wpAny_pure (wpAny_throw (hE _ _ hm)))

theorem made_go {M : List Addr} {h' : Heap} {e : Addr} {cls : String} {args : List Value} (hm : Heap.MadeExc s.heap h' e cls args) : Go H0 M s { s with heap := h' } := .ext (s' := { s with heap := h' }) hm.keeps (Nat.le_refl _) rfl rfl _

theorem srcList {I lst : Addr} {vals : List Value} {ep : Nat} (d : Nat) (hI : H0.get? I = none) :
    Src prog w H0 l d I [I, lst] [I] vals.length (fun acc s => Lg s.heap [(I, itO lst acc.length), (lst, lstO vals ep)] ∧ acc = vals.take acc.length) (fun acc _ => acc = vals) where
  item := fun A acc s Q E S hh hd hlt ⟨C, ha⟩ k => by
    obtain ⟨x, hx⟩ : ∃ x, vals[acc.length]? = some x := ⟨vals[acc.length], List.getElem?_eq_getElem hlt⟩
    refine nextOf_list (C.at 0 rfl) (C.at 1 rfl) hx ?_
    obtain ⟨g, C'⟩ := C.upd (H0 := H0) (s := s) 0 (f := Obj.mapFields (·.setIfInBounds 1 (rawInt ((acc.length : Int) + 1)))) rfl rfl nd_fields rfl hI
    refine k x _ (g.mono (by simp)) ⟨?_, ?_⟩
    · have : (acc ++ [x]).length = acc.length + 1 := by simp
      rw [this]; exact C'
    · have : (acc ++ [x]).length = acc.length + 1 := by simp
      rw [this, List.take_add_one, hx, ← ha]; rfl
  done := fun A acc s Q E S hh hd hlt ⟨C, ha⟩ k => by
    refine nextOf_list_end hh (C.at 0 rfl) (C.at 1 rfl) (List.getElem?_eq_none (Nat.le_of_eq hlt.symm)) fun h' e hm => ?_
    obtain ⟨g, C'⟩ := C.upd (H0 := H0) (s := s) 0 (f := Obj.mapFields (·.setIfInBounds 0 .none)) rfl rfl nd_fields rfl hI
    obtain ⟨t, ht, _⟩ := hm.there
    exact k e _ ((g.mono (by simp)).trans (made_go (s := { s with heap := s.heap.update I (Obj.mapFields (·.setIfInBounds 0 .none)) }) hm)) ⟨_, ht, rfl⟩ (by rw [ha, hlt, List.take_length])
  keepF := fun _ _ _ _ h _ _ => h
  keep := fun acc s s' M ⟨C, ha⟩ g hM => ⟨C.turn g _ rfl fun p hp => .inl ⟨hp, fun q => by
    rcases List.mem_cons.mp hp with rfl | hp
    · exact hM _ q (by simp)
    · rw [List.mem_singleton.mp hp] at q; exact hM _ q (by simp)⟩, ha⟩
  sub := by simp
  there := fun acc s p ⟨C, ha⟩ hp => by
    rcases List.mem_cons.mp hp with rfl | hp
    · exact ⟨_, C.at 0 rfl⟩
    · rw [List.mem_singleton.mp hp]; exact ⟨_, C.at 1 rfl⟩
end
end Mine
end
section
set_option maxRecDepth 100000
set_option autoImplicit false
set_option genInjectivity false
set_option genSizeOf false
namespace Mine
open PySem PySem.W PySem.Calls PyProof.Rows PySem.Spec

noncomputable abbrev zO (f0 : Value) (fl : Bool) (TI TO : Addr) : Obj := { cls := .type "zip", data := .fields #[f0, .bool fl, .bool false, .ref TI, .ref TO] }
noncomputable abbrev tO (xs : Array Value) (n : Nat) : Obj := { cls := .type "tuple", data := .seq xs n }

structure ZA where
  z : Addr
  TI : Addr
  TO : Addr
  ct : Addr
  dc : Addr
  I : Addr
noncomputable abbrev zl (a : Adr) (b : ZA) (f0 : Value) (fl : Bool) (xs : Array Value) (e : Nat) (c : List (Option Value)) : List (Addr × Obj) := [(b.z, zO f0 fl b.TI b.TO), (b.TI, tupO [.ref b.I, .ref b.ct]), (b.TO, tO xs e), (b.ct, io a.ct b.dc c)]
structure ZSt (a : Adr) (b : ZA) (own : List Addr) (Inv : List Value → Shared → Prop) (acc : List Value) (f0 : Value) (fl : Bool) (s : Shared) : Prop where
  lg : ∃ xs e t u, Lg s.heap (zl a b f0 fl xs e (ctS (.int acc.length t) (.bool true) (.int 1 u))) ∧ xs.size = 2
  inv : Inv acc s
  f0 : (f0 = .none ∧ acc = []) ∨ ∃ T o, f0 = .int (T : Nat) 0 ∧ s.heap.get? T = some o

section
variable {K : Frag} {a : Adr} {H0 : Heap} {mg mb : Str → Option Value} {A : Around} {l : List Env} {s : Shared} {prog : Program} {w : World} {E : Value → Shared → Prop}
variable {b : ZA} {own chg : List Addr} {Inv Fi : List Value → Shared → Prop} {n d : Nat}

theorem nextOf_inst (X : K.In s.heap) {x c dx g : Addr} {sl : List (Option Value)} {Q : Value → Shared → Prop} (hx : Okk s.heap (x, io c dx sl)) (mk : MethK K c "__next__" g)
    (h : codeAny (model prog w) A (.call (.ref g) ⟨[.ref x], []⟩) (fun r s' => match r with | .ok (.ret v) => Q v s' | .ok _ => False | .error e => E e s') s) : wpAny (model prog w) A (Builtin.SmallTypes.nextOf (.ref x)) Q E s := by
  obtain ⟨od, I, hod⟩ := instAt hx
  unfold Builtin.SmallTypes.nextOf
  exact wpAny_bind (special_fn (name := "__next__") (args := []) X I mk.fi mk.ft (wpAny_mono (wpAny_call (Q := Q) (E := E) h) (fun v s' hq => wpAny_pure hq) fun _ _ z => z))

theorem inv_push (Sr : Src prog w H0 l d b.I own chg n Inv Fi) {acc : List Value} {M : List Addr} {s' : Shared} (h : Inv acc s) (g : Go H0 M s s') (hM : ∀ p ∈ M, p ∉ own) : Inv acc s' := Sr.keep acc s s' M h g hM

set_option maxHeartbeats 2000000 in
theorem arr2 {xs : Array Value} (h : xs.size = 2) : ∃ q0 q1, xs = #[q0, q1] := by
  obtain ⟨ys⟩ := xs
  cases ys with
  | nil => cases h
  | cons a r => cases r with
    | nil => cases h
    | cons c r => cases r with
      | nil => exact ⟨a, c, rfl⟩
      | cons => cases h
theorem zip_item1 (G : Gl K H0 mg mb) (F : KF K a) (S : St H0 A l s) (Sr : Src prog w H0 l d b.I own chg n Inv Fi) (Z : ZSt a b own Inv [] .none false s) (hn : 0 < n) (hH : ∀ p ∈ [b.z, b.TI, b.TO, b.ct], H0.get? p = none ∧ p ∉ own)
    (hh : A.handled = none) (hd : A.depth + d < recursionLimit) (hd1 : A.depth < recursionLimit) {Q : Value → Shared → Prop}
    (k : ∀ T v t s', Go H0 (b.z :: b.TO :: b.ct :: chg) s s' → s'.heap.get? T = some (tupO [v, .int 0 t]) → s.heap.get? T = none → ZSt a b own Inv [v] (.int (T : Nat) 0) false s' → Q (.ref T) s') :
    wpAny (model prog w) A (Builtin.«zip.__next__» ⟨[.ref b.z], []⟩) (qDone Q) E s := by
  obtain ⟨xs, e, t, u, C, hxs⟩ := Z.lg
  obtain ⟨q0, q1, eq2⟩ := arr2 hxs
  subst eq2
  have hz := hH b.z (by simp)
  have hTO := hH b.TO (by simp)
  have hct := hH b.ct (by simp)
  have ownd : ∀ {p : Addr} {o : Obj}, (p, o) ∈ (zl a b .none false #[q0, q1] e (ctS (.int 0 t) (.bool true) (.int 1 u))) → p ∉ own := by
    intro p o hp
    simp only [zl, List.mem_cons, Prod.mk.injEq, List.not_mem_nil, or_false] at hp
    rcases hp with ⟨rfl, _⟩ | ⟨rfl, _⟩ | ⟨rfl, _⟩ | ⟨rfl, _⟩
    · exact hz.2
    · exact (hH b.TI (by simp)).2
    · exact hTO.2
    · exact hct.2
  have m1 : ∀ p ∈ [b.z], p ∈ b.z :: b.TO :: b.ct :: chg := by simp
  have m2 : ∀ p ∈ [b.TO], p ∈ b.z :: b.TO :: b.ct :: chg := by simp
  have m3 : ∀ p ∈ [b.ct], p ∈ b.z :: b.TO :: b.ct :: chg := by simp
  have m4 : ∀ p ∈ chg, p ∈ b.z :: b.TO :: b.ct :: chg := fun p hp => by simp [hp]
  show wpAny _ _ (field (.ref b.z) 2 >>= _) _ _ _
  refine wpAny_bind (wpAny_field (C.at 0 rfl) rfl (x := .bool false) rfl ?_)
  show wpAny _ _ (field (.ref b.z) 3 >>= _) _ _ _
  refine wpAny_bind (wpAny_field (C.at 0 rfl) rfl (x := .ref b.TI) rfl ?_)
  refine wpAny_bind (wpAny_seqItems (C.at 1 rfl) rfl ?_)
  show wpAny _ _ (Builtin.SmallTypes.ownedTupleIsFree (.ref b.z) >>= _) _ _ _
  refine wpAny_bind ?_
  unfold Builtin.SmallTypes.ownedTupleIsFree
  refine wpAny_bind (wpAny_field (C.at 0 rfl) rfl (x := .none) rfl (wpAny_pure ?_))
  (try simp only [if_true])
  refine wpAny_bind (wpAny_rule ?_)
  refine wpAny_bind (wpAny_field (C.at 0 rfl) rfl (x := .ref b.TO) rfl ?_)
  refine wpAny_bind (C.setF (H0 := H0) 0 0 rfl rfl (by show 0 < 5; decide) rfl hz.1 fun s1 g1 C1 => ?_)
  have i1 := inv_push Sr Z.inv g1 (fun p hp => by rw [List.mem_singleton.mp hp]; exact hz.2)
  have C1' : Lg s1.heap (zl a b .ellipsis false #[q0, q1] e (ctS (.int 0 t) (.bool true) (.int 1 u))) := C1
  refine wpAny_bind (wp_forIn_cons (wpAny_bind (wpAny_onRaise ?_)))
  show wpAny _ _ (Builtin.SmallTypes.nextOf (.ref b.I) >>= _) _ _ _
  refine wpAny_bind (Sr.item A [] s1 _ _ (S.go g1) hh hd hn i1 fun v s2 g2 i2 => wpAny_pure ?_)
  have C2 := C1'.turn g2 _ rfl fun p hp => .inl ⟨hp, fun q => by
    obtain ⟨p1, p2⟩ := p
    simp only [zl, List.mem_cons, Prod.mk.injEq, List.not_mem_nil, or_false] at hp
    rcases hp with ⟨rfl, _⟩ | ⟨rfl, _⟩ | ⟨rfl, _⟩ | ⟨rfl, _⟩
    · exact hz.2 (Sr.sub _ q)
    · exact (hH b.TI (by simp)).2 (Sr.sub _ q)
    · exact hTO.2 (Sr.sub _ q)
    · exact hct.2 (Sr.sub _ q)⟩
  refine wpAny_bind (wpAny_seqItems (C2.at 2 rfl) rfl ?_)
  refine wpAny_bind (C2.setS (H0 := H0) 2 0 rfl rfl (by show 2 ≤ _; rw [sizeLine_eq]; decide) rfl nd_seq rfl hTO.1 fun s3 g3 C3 => ?_)
  have i3 := inv_push Sr i2 g3 (fun p hp => by rw [List.mem_singleton.mp hp]; exact hTO.2)
  refine wpAny_bind (wpAny_letGo (wpAny_pure ?_))
  obtain ⟨e3, C3'⟩ : ∃ e3, Lg s3.heap (zl a b .ellipsis false #[v, q1] e3 (ctS (.int 0 t) (.bool true) (.int 1 u))) := ⟨_, C3⟩
  refine wp_forIn_cons (wpAny_bind (wpAny_onRaise ?_))
  show wpAny _ _ (Builtin.SmallTypes.nextOf (.ref b.ct) >>= _) _ _ _
  have S3 := ((S.go g1).go g2).go g3
  refine wpAny_bind (nextOf_inst (S3.X G) (C3'.ok 3 rfl) F.mctN (ctNext_spec G F S3 (C3'.ok 3 rfl) hct.1 hd1 fun t' s4 g4 ox4 => wpAny_pure ?_))
  have C4 := C3'.turn1 3 rfl g4 ox4
  have i4 := inv_push Sr i3 g4 (fun p hp => by rw [List.mem_singleton.mp hp]; exact hct.2)
  refine wpAny_bind (wpAny_seqItems (C4.at 2 rfl) rfl ?_)
  refine wpAny_bind (C4.setS (H0 := H0) 2 1 rfl rfl (by show 2 ≤ _; rw [sizeLine_eq]; decide) rfl nd_seq rfl hTO.1 fun s5 g5 C5 => ?_)
  have i5 := inv_push Sr i4 g5 (fun p hp => by rw [List.mem_singleton.mp hp]; exact hTO.2)
  refine wpAny_bind (wpAny_letGo (wpAny_pure (wp_forIn_nil ?_)))
  obtain ⟨e5, C5'⟩ : ∃ e5, Lg s5.heap (zl a b .ellipsis false #[v, .int 0 t] e5 (ctS (.int (0 + 1) t') (.bool true) (.int 1 u))) := ⟨_, C5⟩
  refine wpAny_bind (wpAny_seqItems (C5'.at 2 rfl) rfl ?_)
  have g05 : Go H0 (b.z :: b.TO :: b.ct :: chg) s s5 := ((((g1.mono m1).trans (g2.mono m4)).trans (g3.mono m2)).trans (g4.mono m3)).trans (g5.mono m2)
  refine wpAny_bind (C5'.new (H0 := H0) (fun T s6 gp C6' nT => ?_) (by show 2 ≤ _; rw [sizeLine_eq]; decide))
  have C6 := C5'.go gp
  have hT6 := C6'.at 0 rfl
  have i6 := inv_push Sr i5 gp (fun p hp => nomatch hp)
  show wpAny _ _ (Builtin.SmallTypes.ownedTupleHandOut (.ref b.z) (.ref T) >>= _) _ _ s6
  refine wpAny_bind ?_
  unfold Builtin.SmallTypes.ownedTupleHandOut
  refine wpAny_bind (C6.setF (H0 := H0) 0 0 rfl rfl (by show 0 < 5; decide) rfl hz.1 fun s7 g7 C7 => ?_)
  have i7 := inv_push Sr i6 g7 (fun p hp => by rw [List.mem_singleton.mp hp]; exact hz.2)
  refine C7.setF (H0 := H0) 0 1 rfl rfl (by show 1 < 5; decide) rfl hz.1 fun s8 g8 C8 => ?_
  have i8 := inv_push Sr i7 g8 (fun p hp => by rw [List.mem_singleton.mp hp]; exact hz.2)
  have hzT : T ∉ [b.z] := fun hm => by
    have := C5'.at 0 rfl
    rw [← List.mem_singleton.mp hm, nT] at this; cases this
  have hT8 := g8.nd _ _ (g7.nd _ _ hT6 hzT nd_seq) hzT nd_seq
  have nTs : s.heap.get? T = none := by
    cases q : s.heap.get? T with
    | none => rfl
    | some o => obtain ⟨o', z⟩ := g05.there _ _ q; rw [nT] at z; cases z
  refine wpAny_pure ⟨_, rfl, k T v t _ (((g05.trans (gp.mono (fun p hp => nomatch hp))).trans (g7.mono m1)).trans (g8.mono m1)) hT8 nTs ⟨⟨_, _, t', u, C8, rfl⟩, i8, .inr ⟨T, _, rfl, hT8⟩⟩⟩

theorem wpAny_alive {M : Model} {x : Addr} {Q : Option Obj → Shared → Prop} (h : Q (s.heap.get? x) s) : wpAny M A (loadIfAlive x) Q E s := fun Γ p hΓ => by
  unfold loadIfAlive
  simp only [Sem.wp_loadIfAlive]
  exact h

theorem own2 {z TI TO T0 : Addr} {fl : Bool} {oT : Obj} {M : Model} {led : List (Addr × Obj)} (C : Lg s.heap ((z, zO (.int (T0 : Nat) 0) fl TI TO) :: led)) (hT0 : s.heap.get? T0 = some oT) (hz : H0.get? z = none) :
    wpAny M A (Builtin.SmallTypes.ownedTupleIsFree (.ref z)) (fun r s1 => r = false ∧ Go H0 [z] s s1 ∧ Lg s1.heap ((z, zO (.int (T0 : Nat) 0) true TI TO) :: led)) E s := by
  unfold Builtin.SmallTypes.ownedTupleIsFree
  refine wpAny_bind (wpAny_field (C.at 0 rfl) rfl (x := .int (T0 : Nat) 0) rfl ?_)
  dsimp only
  refine wpAny_bind (wpAny_alive ?_)
  simp only [Int.toNat_natCast, hT0, Option.isNone_some, Bool.false_eq_true, if_false]
  refine wpAny_bind (wpAny_field (C.at 0 rfl) rfl (x := .bool fl) rfl ?_)
  cases fl with
  | true =>
    first | refine ite_no' (by decide) ?_ | refine ite_no (by decide) ?_ | rw [if_neg (by decide)]
    exact wpAny_pure ⟨rfl, .refl .., C⟩
  | false =>
    first | refine ite_yes' (by decide) ?_ | refine ite_yes (by decide) ?_ | rw [if_pos (by decide)]
    obtain ⟨g1, C1⟩ := C.upd (H0 := H0) (s := s) 0 (f := Obj.mapFields (·.setIfInBounds 1 (.bool true))) rfl rfl nd_fields rfl hz
    exact wpAny_bind (wpAny_setField (C.at 0 rfl) rfl (by show 1 < 5; decide) (wpAny_pure ⟨rfl, g1, C1⟩))

set_option maxHeartbeats 2000000 in
theorem zip_item2 (G : Gl K H0 mg mb) (F : KF K a) (S : St H0 A l s) (Sr : Src prog w H0 l d b.I own chg n Inv Fi) {acc : List Value} {T0 : Addr} {fl : Bool} {oT : Obj} (hT0 : s.heap.get? T0 = some oT) (ntT : nd oT) (Z : ZSt a b own Inv acc (.int (T0 : Nat) 0) fl s) (hn : acc.length < n) (hH : ∀ p ∈ [b.z, b.TI, b.TO, b.ct], H0.get? p = none ∧ p ∉ own)
    (hT0m : T0 ∉ b.z :: b.TO :: b.ct :: chg)
    (hh : A.handled = none) (hd : A.depth + d < recursionLimit) (hd1 : A.depth < recursionLimit) {Q : Value → Shared → Prop}
    (k : ∀ T v t s', Go H0 (b.z :: b.TO :: b.ct :: chg) s s' → s'.heap.get? T = some (tupO [v, .int acc.length t]) → s.heap.get? T = none → ZSt a b own Inv (acc ++ [v]) (.int (T0 : Nat) 0) true s' → Q (.ref T) s') :
    wpAny (model prog w) A (Builtin.«zip.__next__» ⟨[.ref b.z], []⟩) (qDone Q) E s := by
  obtain ⟨xs, e, t, u, C, hxs⟩ := Z.lg
  have hz := hH b.z (by simp)
  have hTO := hH b.TO (by simp)
  have hct := hH b.ct (by simp)
  have m1 : ∀ p ∈ [b.z], p ∈ b.z :: b.TO :: b.ct :: chg := by simp
  have m3 : ∀ p ∈ [b.ct], p ∈ b.z :: b.TO :: b.ct :: chg := by simp
  have m4 : ∀ p ∈ chg, p ∈ b.z :: b.TO :: b.ct :: chg := fun p hp => by simp [hp]
  show wpAny _ _ (field (.ref b.z) 2 >>= _) _ _ _
  refine wpAny_bind (wpAny_field (C.at 0 rfl) rfl (x := .bool false) rfl ?_)
  show wpAny _ _ (field (.ref b.z) 3 >>= _) _ _ _
  refine wpAny_bind (wpAny_field (C.at 0 rfl) rfl (x := .ref b.TI) rfl ?_)
  refine wpAny_bind (wpAny_seqItems (C.at 1 rfl) rfl ?_)
  show wpAny _ _ (Builtin.SmallTypes.ownedTupleIsFree (.ref b.z) >>= _) _ _ _
  have rest : ∀ s1 : Shared, Go H0 (b.z :: b.TO :: b.ct :: chg) s s1 → Inv acc s1 → Lg s1.heap (zl a b (.int (T0 : Nat) 0) true xs e (ctS (.int acc.length t) (.bool true) (.int 1 u))) →
      wpAny (model prog w) A (Builtin.SmallTypes.nextOf (.ref b.I)) (fun v s2 => wpAny (model prog w) A (Builtin.SmallTypes.nextOf (.ref b.ct)) (fun c s3 => wpAny (model prog w) A (newTuple [v, c]) Q E s3) E s2) E s1 := by
    intro s1 g1 i1 C1
    refine Sr.item A acc s1 _ _ (S.go g1) hh hd hn i1 fun v s2 g2 i2 => ?_
    have C2 := C1.turn g2 _ rfl fun p hp => .inl ⟨hp, fun q => by
      obtain ⟨p1, p2⟩ := p
      simp only [zl, List.mem_cons, Prod.mk.injEq, List.not_mem_nil, or_false] at hp
      rcases hp with ⟨rfl, _⟩ | ⟨rfl, _⟩ | ⟨rfl, _⟩ | ⟨rfl, _⟩
      · exact hz.2 (Sr.sub _ q)
      · exact (hH b.TI (by simp)).2 (Sr.sub _ q)
      · exact hTO.2 (Sr.sub _ q)
      · exact hct.2 (Sr.sub _ q)⟩
    have S2 := (S.go g1).go g2
    refine nextOf_inst (S2.X G) (C2.ok 3 rfl) F.mctN (ctNext_spec G F S2 (C2.ok 3 rfl) hct.1 hd1 fun t' s4 g4 ox4 => ?_)
    have C4 := C2.turn1 3 rfl g4 ox4
    have i4 := inv_push Sr i2 g4 (fun p hp => by rw [List.mem_singleton.mp hp]; exact hct.2)
    have g04 := (g1.trans (g2.mono m4)).trans (g4.mono m3)
    refine C4.new (H0 := H0) (fun T s6 gp C6' nT => ?_) (by show 2 ≤ _; rw [sizeLine_eq]; decide)
    have nTs : s.heap.get? T = none := by
      cases q : s.heap.get? T with
      | none => rfl
      | some o => obtain ⟨o', z⟩ := g04.there _ _ q; rw [nT] at z; cases z
    have C6 := C4.go gp
    have i6 := inv_push Sr i4 gp (fun p hp => nomatch hp)
    have hl : (acc ++ [v]).length = acc.length + 1 := by simp
    exact k _ v t _ (g04.trans (gp.mono (fun p hp => nomatch hp))) (C6'.at 0 rfl) nTs ⟨⟨xs, e, t', u, by rw [hl]; exact C6, hxs⟩, i6, .inr ⟨T0, _, rfl, (gp.nd _ _ (g04.nd _ _ hT0 hT0m ntT) (fun h => nomatch h) ntT)⟩⟩
  refine wpAny_bind (wpAny_mono (own2 C hT0 hz.1) (fun r s1 h1 => ?_) fun _ _ z => z)
  obtain ⟨rfl, g1, C1⟩ := h1
  have R := rest s1 (g1.mono m1) (inv_push Sr Z.inv g1 (fun p hp => by rw [List.mem_singleton.mp hp]; exact hz.2)) C1
  first | refine ite_no' (by decide) ?_ | refine ite_no (by decide) ?_ | rw [if_neg (by decide)]
  refine wpAny_bind (wp_forIn_arr (wp_forIn_cons (wpAny_bind (wpAny_holding ?_))))
  show wpAny _ _ (Builtin.SmallTypes.nextOf (.ref b.I) >>= _) _ _ _
  refine wpAny_bind (wpAny_mono R (fun v s2 h2 => wpAny_pure (wpAny_pure ?_)) fun _ _ z => z)
  refine wp_forIn_cons (wpAny_bind (wpAny_holding ?_))
  show wpAny _ _ (Builtin.SmallTypes.nextOf (.ref b.ct) >>= _) _ _ _
  refine wpAny_bind (wpAny_mono h2 (fun c s3 h3 => wpAny_pure (wpAny_pure (wp_forIn_nil ?_))) fun _ _ z => z)
  exact wpAny_bind (wpAny_mono h3 (fun r s4 h4 => wpAny_pure ⟨_, rfl, h4⟩) fun _ _ z => z)
end
end Mine
end
section
set_option maxRecDepth 100000
set_option autoImplicit false
namespace Mine
open PySem PySem.W PySem.Calls PyProof.Rows PySem.Spec

theorem zip_no_len : typeLookup (.type "zip") "__len__" = pure none := by rw [typeLookup_type, builtinLookup_eq_fast]; kernel_rfl
theorem zip_no_hint : typeLookup (.type "zip") "__length_hint__" = pure none := by rw [typeLookup_type, builtinLookup_eq_fast]; kernel_rfl

section
variable {K : Frag} {a : Adr} {H0 : Heap} {mg mb : Str → Option Value} {A : Around} {l : List Env} {s : Shared} {prog : Program} {w : World} {E : Value → Shared → Prop}
variable {b : ZA} {own chg : List Addr} {Inv Fi : List Value → Shared → Prop} {n d : Nat}

noncomputable abbrev ZA.M (b : ZA) (chg : List Addr) : List Addr := b.z :: b.TO :: b.ct :: chg

theorem ZSt.keep (Sr : Src prog w H0 l d b.I own chg n Inv Fi) {acc : List Value} {f0 : Value} {fl : Bool} {s' : Shared} {M : List Addr} (Z : ZSt a b own Inv acc f0 fl s) (g : Go H0 M s s') (h1 : ∀ p ∈ M, p ∉ [b.z, b.TI, b.TO, b.ct]) (h2 : ∀ p ∈ M, p ∉ own) : ZSt a b own Inv acc f0 fl s' := by
  obtain ⟨xs, e, t, u, C, hxs⟩ := Z.lg
  refine ⟨⟨xs, e, t, u, C.turn g _ rfl fun p hp => .inl ⟨hp, fun q => h1 _ q ?_⟩, hxs⟩, Sr.keep _ _ _ _ Z.inv g h2, ?_⟩
  · obtain ⟨p1, p2⟩ := p
    simp only [List.mem_cons, Prod.mk.injEq, List.not_mem_nil, or_false] at hp ⊢
    rcases hp with ⟨rfl, _⟩ | ⟨rfl, _⟩ | ⟨rfl, _⟩ | ⟨rfl, _⟩ <;> simp
  · rcases Z.f0 with h | ⟨T, o, h, hT⟩
    · exact .inl h
    · obtain ⟨o', ho'⟩ := g.there _ _ hT
      exact .inr ⟨T, o', h, ho'⟩

set_option maxHeartbeats 1000000 in
theorem zip_done (S : St H0 A l s) (Sr : Src prog w H0 l d b.I own chg n Inv Fi) {acc : List Value} {f0 : Value} {fl : Bool} (Z : ZSt a b own Inv acc f0 fl s) (hn : acc.length = n) (hH : ∀ p ∈ [b.z, b.TI, b.TO, b.ct], H0.get? p = none ∧ p ∉ own)
    (hf : f0 = .none → fl = false) (hh : A.handled = none) (hd : A.depth + d < recursionLimit) {Q : PySem.Fin → Shared → Prop}
    (k : ∀ e s', Go H0 (b.M chg) s s' → s'.TypeIs (.ref e) "StopIteration" → Fi acc s' → E (.ref e) s') :
    wpAny (model prog w) A (Builtin.«zip.__next__» ⟨[.ref b.z], []⟩) Q E s := by
  obtain ⟨xs, e, t, u, C, hxs⟩ := Z.lg
  have hz := hH b.z (by simp)
  have m1 : ∀ p ∈ [b.z], p ∈ b.M chg := by simp [ZA.M]
  have m4 : ∀ p ∈ chg, p ∈ b.M chg := fun p hp => by simp [ZA.M, hp]
  have hown : ∀ p ∈ [b.z], p ∉ own := fun p hp => by rw [List.mem_singleton.mp hp]; exact hz.2
  show wpAny _ _ (field (.ref b.z) 2 >>= _) _ _ _
  refine wpAny_bind (wpAny_field (C.at 0 rfl) rfl (x := .bool false) rfl ?_)
  show wpAny _ _ (field (.ref b.z) 3 >>= _) _ _ _
  refine wpAny_bind (wpAny_field (C.at 0 rfl) rfl (x := .ref b.TI) rfl ?_)
  refine wpAny_bind (wpAny_seqItems (C.at 1 rfl) rfl ?_)
  show wpAny _ _ (Builtin.SmallTypes.ownedTupleIsFree (.ref b.z) >>= _) _ _ _
  rcases Z.f0 with ⟨rfl, rfl⟩ | ⟨T, oT, rfl, hT⟩
  · obtain rfl := hf rfl
    refine wpAny_bind ?_
    unfold Builtin.SmallTypes.ownedTupleIsFree
    refine wpAny_bind (wpAny_field (C.at 0 rfl) rfl (x := .none) rfl (wpAny_pure ?_))
    (try simp only [if_true])
    refine wpAny_bind (wpAny_rule ?_)
    refine wpAny_bind (wpAny_field (C.at 0 rfl) rfl (x := .ref b.TO) rfl ?_)
    refine wpAny_bind (C.setF (H0 := H0) 0 0 rfl rfl (by show 0 < 5; decide) rfl hz.1 fun s1 g1 C1 => ?_)
    have i1 := inv_push Sr Z.inv g1 hown
    refine wpAny_bind (wp_forIn_cons (wpAny_bind (wpAny_onRaise ?_)))
    show wpAny _ _ (Builtin.SmallTypes.nextOf (.ref b.I) >>= _) _ _ _
    refine wpAny_bind (Sr.done A [] s1 _ _ (S.go g1) hh hd hn i1 fun e2 s2 g2 h2 hfi => ?_)
    have C2 : Lg s2.heap [(b.z, zO .ellipsis false b.TI b.TO)] := (C1.sub (led' := [(b.z, zO .ellipsis false b.TI b.TO)]) (.cons_cons _ (List.nil_sublist _))).turn (s := s1) g2 _ rfl fun p hp => .inl ⟨hp, fun q => by
      rw [List.mem_singleton.mp hp] at q; exact hz.2 (Sr.sub _ q)⟩
    refine wpAny_setField (C2.at 0 rfl) rfl (by show 0 < 5; decide) ?_
    obtain ⟨g3, C3⟩ := C2.upd (H0 := H0) (s := s2) 0 (f := Obj.mapFields (·.setIfInBounds 0 .none)) rfl rfl nd_fields rfl hz.1
    obtain ⟨oe, h3, h4⟩ := h2
    refine k e2 _ (((g1.mono m1).trans (g2.mono m4)).trans (g3.mono m1)) ?_ ?_
    · have hne : e2 ≠ b.z := ne_cls h3 (C2.at 0 rfl) (by rw [h4]; show Value.type "StopIteration" ≠ .type "zip"; decide)
      exact ⟨oe, (Heap.get?_update_other _ _ hne.symm).trans h3, h4⟩
    · exact Sr.keepF _ _ _ _ hfi g3 hown
  · refine wpAny_bind (wpAny_mono (own2 C hT hz.1) (fun r s1 h1 => ?_) fun _ _ z => z)
    obtain ⟨rfl, g1, C1⟩ := h1
    have i1 := inv_push Sr Z.inv g1 hown
    first | refine ite_no' (by decide) ?_ | refine ite_no (by decide) ?_ | rw [if_neg (by decide)]
    refine wpAny_bind (wp_forIn_arr (wp_forIn_cons (wpAny_bind (wpAny_holding ?_))))
    show wpAny _ _ (Builtin.SmallTypes.nextOf (.ref b.I) >>= _) _ _ _
    exact wpAny_bind (Sr.done A acc s1 _ _ (S.go g1) hh hd hn i1 fun e2 s2 g2 h2 hfi => k e2 s2 ((g1.mono m1).trans (g2.mono m4)) h2 hfi)

structure ZL (a : Adr) (b : ZA) (own : List Addr) (Inv : List Value → Shared → Prop) (rows : List Row) (s : Shared) : Prop where
  st : ∃ f0 fl, ZSt a b own Inv (rows.map (·.key)) f0 fl s ∧ ((rows = [] ∧ f0 = .none ∧ fl = false) ∨ ∃ q, q ∈ rows ∧ f0 = .int (q.r : Nat) 0)
  lg : Lg s.heap (rowL rows)
  pos : ∀ (j : Nat) (q : Row), rows[j]? = some q → ∃ t, q.pos = .int j t
  out : ∀ q ∈ rows, q.r ∉ b.z :: b.TI :: b.TO :: b.ct :: own

theorem ZL.keep (Sr : Src prog w H0 l d b.I own chg n Inv Fi) {rows : List Row} {s' : Shared} {M : List Addr} (Z : ZL a b own Inv rows s) (g : Go H0 M s s') (h1 : ∀ p ∈ M, p ∉ [b.z, b.TI, b.TO, b.ct]) (h2 : ∀ p ∈ M, p ∉ own) (h3 : ∀ p ∈ M, ∀ q ∈ rows, p ≠ q.r) : ZL a b own Inv rows s' := by
  obtain ⟨f0, fl, Z1, Z2⟩ := Z.st
  refine ⟨⟨f0, fl, Z1.keep Sr g h1 h2, Z2⟩, Z.lg.turn g _ rfl fun p hp => .inl ⟨hp, fun q => ?_⟩, Z.pos, Z.out⟩
  obtain ⟨r, hr, rfl⟩ := List.mem_map.mp hp
  exact h3 _ q r hr rfl

theorem zip_next (G : Gl K H0 mg mb) (F : KF K a) (S : St H0 A l s) (Sr : Src prog w H0 l d b.I own chg n Inv Fi) {rows : List Row} (Z : ZL a b own Inv rows s) (hH : ∀ p ∈ [b.z, b.TI, b.TO, b.ct], H0.get? p = none ∧ p ∉ own)
    (hh : A.handled = none) (hd : A.depth + d < recursionLimit) (hd1 : A.depth < recursionLimit) {Q : Option Value → Shared → Prop} (hn : rows.length ≤ n)
    (k1 : rows.length < n → ∀ (q : Row) s', Go H0 (b.M chg) s s' → s.heap.get? q.r = none → ZL a b own Inv (rows ++ [q]) s' → Q (some (.ref q.r)) s')
    (k2 : rows.length = n → ∀ s', Go H0 (b.M chg) s s' → (∀ p ∈ rowL rows, Okk s'.heap p) → Fi (rows.map (·.key)) s' → Q none s') : wpAny (model prog w) A (pyNext (.ref b.z)) Q E s := by
  obtain ⟨f0, fl, Z1, Z2⟩ := Z.st
  have hT : s.TypeIs (.ref b.z) "zip" := by
    obtain ⟨xs, e, t, u, C, hxs⟩ := Z1.lg
    exact ⟨_, C.at 0 rfl, rfl⟩
  have hl : (rows.map (·.key)).length = rows.length := List.length_map _
  have fresh : ∀ T, s.heap.get? T = none → T ∉ b.z :: b.TI :: b.TO :: b.ct :: own := fun T hT hm => by
    obtain ⟨xs, e, t, u, C, hxs⟩ := Z1.lg
    simp only [List.mem_cons] at hm
    rcases hm with rfl | rfl | rfl | rfl | hm
    · have := C.at 0 rfl; rw [hT] at this; cases this
    · have := C.at 1 rfl; rw [hT] at this; cases this
    · have := C.at 2 rfl; rw [hT] at this; cases this
    · have := C.at 3 rfl; rw [hT] at this; cases this
    · obtain ⟨o, ho⟩ := Sr.there _ _ T Z1.inv hm; rw [hT] at ho; cases ho
  have sub : ∀ p, p ∈ b.M chg → p ∈ b.z :: b.TI :: b.TO :: b.ct :: own := fun p hp => by
    simp only [ZA.M, List.mem_cons] at hp ⊢
    rcases hp with h | h | h | h <;> first | (simp [h]; done) | (have h := Sr.sub _ h; simp [h])
  have rowsKeep : ∀ s', Go H0 (b.M chg) s s' → Lg s'.heap (rowL rows) := fun s' g => Z.lg.turn g _ rfl fun p hp => .inl ⟨hp, fun q => by
    obtain ⟨r, hr, rfl⟩ := List.mem_map.mp hp
    exact Z.out r hr (sub _ q)⟩
  have push : ∀ T v t s', Go H0 (b.M chg) s s' → s'.heap.get? T = some (tupO [v, .int rows.length t]) → s.heap.get? T = none → (∃ f1 fl1, ZSt a b own Inv (rows.map (·.key) ++ [v]) f1 fl1 s' ∧ ∃ q ∈ rows ++ [⟨T, v, .int rows.length t⟩], f1 = .int (q.r : Nat) 0) →
      ZL a b own Inv (rows ++ [⟨T, v, .int rows.length t⟩]) s' := by
    rintro T v t s' g hTs nT ⟨f1, fl1, Z3, q, hq, rfl⟩
    refine ⟨⟨_, fl1, by rw [List.map_append]; exact Z3, .inr ⟨q, hq, rfl⟩⟩, ?_, fun j q' hj => ?_, fun q' hq' => ?_⟩
    · have L1 := rowsKeep s' g
      unfold rowL at L1 ⊢
      rw [List.map_append]
      refine ⟨fun p hp => (List.mem_append.mp hp).elim (L1.has p) fun hp => by rw [List.mem_singleton.mp hp]; exact okk_tup hTs, ?_⟩
      rw [List.map_append]
      refine List.nodup_append.mpr ⟨L1.nodup, by simp, fun x hx y hy e => ?_⟩
      obtain ⟨p, hp, rfl⟩ := List.mem_map.mp hx
      have hy' : y = T := by simpa using hy
      subst hy'
      have := (Z.lg.has p hp).at_
      rw [e, nT] at this; cases this
    · rw [List.getElem?_append] at hj
      split at hj
      · exact Z.pos j q' hj
      · rename_i hlt
        have hj0 : j = rows.length := by
          obtain ⟨h1, _⟩ := List.getElem?_eq_some_iff.mp hj
          simp at h1; grind
        subst hj0
        simp at hj
        subst hj
        exact ⟨t, rfl⟩
    · rcases List.mem_append.mp hq' with h | h
      · exact Z.out q' h
      · rw [List.mem_singleton.mp h]; exact fresh T nT
  unfold pyNext
  by_cases hlt : rows.length < n
  · refine wpAny_bind (wpAny_attempt (wpAny_callSpecial?_slot (name := Str.ofString "__next__") hT PySem.F.slot_zip_next (wpAny_call_entry PySem.F.slot_zip_next hT PySem.F.entry_zip_next ?_ (PySem.F.args_zip_next_1 _))))
    rcases Z2 with ⟨rfl, rfl, rfl⟩ | ⟨q, hq, rfl⟩
    · refine zip_item1 G F (S.around (A' := A.in1) rfl) Sr Z1 (by simpa using hlt) hH hh hd hd1 fun T v t s' g h1 h2 h3 => wpAny_pure ?_
      exact k1 hlt ⟨T, v, .int 0 t⟩ s' g h2 (push T v t s' g h1 h2 ⟨_, _, h3, ⟨T, v, .int 0 t⟩, by simp, rfl⟩)
    · have hqo := (Z.lg.has _ (List.mem_map.mpr ⟨q, hq, rfl⟩)).at_
      refine zip_item2 G F (S.around (A' := A.in1) rfl) Sr hqo nd_seq Z1 (by rw [hl]; exact hlt) hH (fun hm => Z.out q hq (sub _ hm)) hh hd hd1 fun T v t s' g h1 h2 h3 => wpAny_pure ?_
      rw [hl] at h1
      exact k1 hlt ⟨T, v, .int rows.length t⟩ s' g h2 (push T v t s' g h1 h2 ⟨_, _, h3, q, by simp [hq], rfl⟩)
  · have hN : rows.length = n := by lia
    refine wpAny_bind (wpAny_attempt (wpAny_callSpecial?_slot (name := Str.ofString "__next__") hT PySem.F.slot_zip_next (wpAny_call_entry PySem.F.slot_zip_next hT PySem.F.entry_zip_next ?_ (PySem.F.args_zip_next_1 _))))
    refine zip_done (S.around (A' := A.in1) rfl) Sr Z1 (by rw [hl]; exact hN) hH (fun e => ?_) hh hd fun e s' g h hfi => ?_
    · rcases Z2 with ⟨_, _, h⟩ | ⟨q, _, h⟩
      · exact h
      · rw [h] at e; cases e
    · refine wpAny_bind (wpAny_isInstance h owsi_facts.sub ?_)
      (try simp only [if_true])
      exact wpAny_pure (k2 hN s' g (rowsKeep s' g).has hfi)
end
end Mine
end
section
set_option maxRecDepth 100000
set_option autoImplicit false
namespace Mine
open PySem PySem.W PySem.Calls PyProof.Rows PySem.Spec

section
variable {K : Frag} {a : Adr} {H0 : Heap} {mg mb : Str → Option Value} {A : Around} {l : List Env} {s : Shared} {prog : Program} {w : World} {E : Value → Shared → Prop}
variable {b : ZA} {own chg : List Addr} {Inv Fi : List Value → Shared → Prop} {n d : Nat}

theorem rowsPos {rows : List Row} (h : ∀ (j : Nat) (q : Row), rows[j]? = some q → ∃ t, q.pos = .int j t) : PosR rows where
  int := fun q hq => by
    obtain ⟨j, hj, e⟩ := List.mem_iff_getElem.mp hq
    obtain ⟨t, ht⟩ := h j q (by rw [List.getElem?_eq_getElem hj, e])
    exact ⟨t, by unfold posI; rw [ht]⟩
  ne := fun q hq q' hq' e => by
    obtain ⟨j, hj, e1⟩ := List.mem_iff_getElem.mp hq
    obtain ⟨j', hj', e2⟩ := List.mem_iff_getElem.mp hq'
    obtain ⟨t, ht⟩ := h j q (by rw [List.getElem?_eq_getElem hj, e1])
    obtain ⟨t', ht'⟩ := h j' q' (by rw [List.getElem?_eq_getElem hj', e2])
    unfold posI at e
    rw [ht, ht'] at e
    have : j = j' := Int.ofNat.inj e
    subst this
    rw [← e1, ← e2]

set_option maxHeartbeats 1000000 in
inductive CZI (a : Adr) (b : ZA) (own chg : List Addr) (Inv : List Value → Shared → Prop) (n : Nat) (H0 : Heap) (A : Around) (l : List Env) (s : Shared) (D : Addr) (n' : Nat) (acc : List Value) (s' : Shared) : Prop
  | mk (rows : List Row) (c : Nat) (ha : acc = refs rows) (hn : n' = n - rows.length) (hle : rows.length ≤ n) (S : St H0 A l s') (g : Go H0 (D :: b.M chg) s s') (Z : ZL a b own Inv rows s') (hD : s'.heap.get? D = some (lstO acc c)) (hr : ∀ q ∈ rows, q.r ≠ D ∧ s.heap.get? q.r = none) : CZI a b own chg Inv n H0 A l s D n' acc s'
theorem collect_zip (G : Gl K H0 mg mb) (F : KF K a) (S : St H0 A l s) (Sr : Src prog w H0 l d b.I own chg n Inv Fi) (Z : ZL a b own Inv [] s) (hH : ∀ p ∈ [b.z, b.TI, b.TO, b.ct], H0.get? p = none ∧ p ∉ own) (hz : n ≤ 1000)
    (hh : A.handled = none) (hd : A.depth + d < recursionLimit) (hd1 : A.depth < recursionLimit) {Q : List Value → Shared → Prop}
    (k : ∀ rows s', rows.length = n → Go H0 (b.M chg) s s' → Lg s'.heap (rowL rows) → (∀ (j : Nat) (q : Row), rows[j]? = some q → ∃ t, q.pos = .int j t) → (∀ q ∈ rows, s.heap.get? q.r = none) → Fi (rows.map (·.key)) s' → Q (refs rows) s') :
    wpAny (model prog w) A (collect (.ref b.z)) Q E s := by
  unfold collect
  refine wpAny_bind (wpAny_runValue (codeAny_plain PySem.F.entry_proto_collect PySem.F.plain_proto_collect ?_))
  show wpAny _ A.in1 (newList [] >>= fun l => again (.builtin "list.__iadd__" ⟨[l, .ref b.z], []⟩)) _ _ s
  refine wpAny_bind (new_lst (H0 := H0) (fun D s1 g1 hD1 nD => ?_) (Nat.zero_le _))
  have hHD : H0.get? D = none := by
    cases q : H0.get? D with
    | none => rfl
    | some o => have := S.glob _ _ q; rw [nD] at this; cases this
  obtain ⟨f0, fl, Z1, Z2⟩ := Z.st
  obtain ⟨xs, e, t, u, C, hxs⟩ := Z1.lg
  have hDm : D ∉ [b.z, b.TI, b.TO, b.ct] := fun hm => by
    simp only [List.mem_cons, List.not_mem_nil, or_false] at hm
    rcases hm with rfl | rfl | rfl | rfl
    · have := C.at 0 rfl; rw [nD] at this; cases this
    · have := C.at 1 rfl; rw [nD] at this; cases this
    · have := C.at 2 rfl; rw [nD] at this; cases this
    · have := C.at 3 rfl; rw [nD] at this; cases this
  have hDo : D ∉ own := fun hm => by obtain ⟨o, ho⟩ := Sr.there _ _ D Z1.inv hm; rw [nD] at ho; cases ho
  have hDM : D ∉ b.M chg := fun hm => by
    simp only [ZA.M, List.mem_cons] at hm
    rcases hm with h | h | h | h
    · exact hDm (by simp [h])
    · exact hDm (by simp [h])
    · exact hDm (by simp [h])
    · exact hDo (Sr.sub _ h)
  have Zk : ∀ s', Go H0 [D] s s' → ZL a b own Inv [] s' := fun s' g => Z.keep Sr g (fun p hp => by rw [List.mem_singleton.mp hp]; exact hDm) (fun p hp => by rw [List.mem_singleton.mp hp]; exact hDo) (fun p hp q hq => nomatch hq)
  refine wpAny_pure ⟨plainId_quiet PySem.F.plain_list_iadd _, codeAny_plain PySem.F.entry_list_iadd PySem.F.plain_list_iadd ?_⟩
  show wpAny _ A.in1 (Builtin.List.listExtendWith (.ref D) (.ref b.z) (.ref D)) _ _ s1
  have hT1 : s1.TypeIs (.ref b.z) "zip" := ⟨_, (C.go g1).at 0 rfl, rfl⟩
  unfold Builtin.List.listExtendWith
  refine wpAny_bind (wpAny_typeOf hT1 ?_)
  have h1 : Builtin.List.listSameRef (.ref D) (.ref b.z) = false := by
    simp only [Builtin.List.listSameRef, beq_eq_false_iff_ne]; exact fun e => hDm (by simp [e])
  have h2 : (Value.type "zip" == Value.type "list") = false := by decide
  have h3 : (Value.type "zip" == Value.type "tuple") = false := by decide
  simp only [h1, h2, h3, Bool.or_false, Bool.false_eq_true, if_false]
  refine wpAny_bind (wpAny_pyIter_slot hT1 PySem.F.slot_zip_iter (wpAny_call_entry PySem.F.slot_zip_iter hT1 PySem.F.entry_zip_iter ?_ (PySem.F.args_zip_iter_1 _)))
  show wpAny _ _ (ret (.ref b.z)) _ _ _
  refine wpAny_pure ⟨_, rfl, "zip", _, hT1, PySem.F.slot_zip_next.lookup, ?_⟩
  refine wpAny_bind (wpAny_holding ?_)
  unfold Builtin.List.listLengthHint
  refine wpAny_bind (wpAny_specialOf hT1 zip_no_len ?_)
  show wpAny _ A.in1 (specialOf (Value.ref b.z) (Str.ofString "__length_hint__") >>= _) _ _ _
  refine wpAny_bind (wpAny_specialOf hT1 zip_no_hint ?_)
  refine wpAny_pure ?_
  show wpAny _ A.in1 (rule "list.extend.makes-room" >>= fun _ => Builtin.List.listTouch (.ref D) >>= fun _ =>
    again (.builtin "list.extend.loop" ⟨[.ref D, .ref b.z, .ref D], []⟩)) _ _ _
  refine wpAny_bind (wpAny_rule ?_)
  refine wpAny_bind (touched (H0 := H0) (s := s1) hD1 hHD fun s2 c2 g2 hS2 => ?_)
  have hDn : ∀ p ∈ [D], p ∈ ([D] : List Addr) ∨ s.heap.get? p = none := fun p hp => .inl hp
  have g02 : Go H0 [D] s s2 := (g1.mono (M' := [D]) (fun p h => nomatch h)).trans g2
  refine wpAny_pure ⟨plainId_quiet PySem.F.plain_extend_loop _, ?_⟩
  refine ext_loop (CZI a b own chg Inv n H0 A l s D) ?_ n [] s2
    ⟨[], c2, rfl, rfl, Nat.zero_le _, S.go g02, g02.mono (by simp), Zk s2 g02, hS2, fun q hq => nomatch hq⟩
  rintro n' acc s' ⟨rows, c, rfl, rfl, hle, S', g', Z', hD', hr⟩
  have hm : ∀ p ∈ b.M chg, p ∈ D :: b.M chg := fun p hp => .tail _ hp
  refine zip_next G F (S'.around (A' := A.in1) rfl) Sr Z' hH hh hd hd1 hle (fun hlt q s3 g3 nq Z3 => ?_) (fun hN s3 g3 hrows hfi => ?_)
  · have hqD : q.r ≠ D := fun e => by rw [e, hD'] at nq; cases nq
    have hD3 := g3.nd _ _ hD' hDM nd_seq
    have g4 : Go H0 [D] s3 { s3 with heap := s3.heap.update D (Obj.mapSeq (·.push (.ref q.r))) } := .upd _ hD3 nd_seq rfl nd_seq hHD
    have nqs : s.heap.get? q.r = none := by
      cases z : s.heap.get? q.r with
      | none => rfl
      | some o => obtain ⟨o', y⟩ := g'.there _ _ z; rw [nq] at y; cases y
    have hr' : ∀ q' ∈ rows ++ [q], q'.r ≠ D ∧ s.heap.get? q'.r = none := fun q' hq' => (List.mem_append.mp hq').elim (hr q') fun h => by rw [List.mem_singleton.mp h]; exact ⟨hqD, nqs⟩
    have e : Obj.mapSeq (fun x => x.push (Value.ref q.r)) (lstO (refs rows) c) = lstO (refs rows ++ [Value.ref q.r]) (c + 1) := by simp [Obj.mapSeq]
    have hf := Heap.get?_update_self (Obj.mapSeq (·.push (.ref q.r))) hD3 rfl
    rw [e] at hf
    exact ⟨c, hD3, by simp only [refs, List.length_map]; rw [sizeLine_eq]; lia  , n - (rows.length + 1), by grind, ⟨rows ++ [q], c + 1, by simp [refs], by simp, by simp; lia  , (S'.go g3).go g4, (g'.trans (g3.mono hm)).trans (g4.mono (by simp)), Z3.keep Sr g4 (fun p hp => by rw [List.mem_singleton.mp hp]; exact hDm) (fun p hp => by rw [List.mem_singleton.mp hp]; exact hDo) (fun p hp q' hq' => by rw [List.mem_singleton.mp hp]; exact (hr' q' hq').1.symm), hf, hr'⟩⟩
  · have hD3 := g3.nd _ _ hD' hDM nd_seq
    show wpAny _ A (load D >>= _) _ _ s3
    refine wpAny_bind (wpAny_load hD3 ?_)
    have g03 : Go H0 (b.M chg) s s3 := by
      have g := g'.trans (g3.mono hm)
      have := (Go.refl H0 (b.M chg) s).step g (fun p hp => by
        rcases List.mem_cons.mp hp with rfl | hp
        · exact .inr nD
        · exact .inl hp)
      exact this
    exact wpAny_pure (k rows s3 hN g03 ⟨hrows, Z'.lg.nodup⟩ Z'.pos (fun q hq => (hr q hq).2) hfi)

theorem sorted_zip (G : Gl K H0 mg mb) (F : KF K a) (S : St H0 A l s) (κ : KeyOps) (Sr : Src prog w H0 l d b.I own chg n Inv Fi) (Z : ZL a b own Inv [] s) (hH : ∀ p ∈ [b.z, b.TI, b.TO, b.ct], H0.get? p = none ∧ p ∉ own) (h64 : n < 64) {rv : Bool}
    (hh : A.handled = none) (hd : A.depth + d < recursionLimit) (hd1 : A.depth < recursionLimit) {Q : Value → Shared → Prop}
    (hKR : ∀ rows s', rows.length = n → Fi (rows.map (·.key)) s' → KeyR κ rows)
    (k : ∀ D rows rows' n' s', rows.length = n → (∀ (j : Nat) (q : Row), rows[j]? = some q → ∃ t, q.pos = .int j t) → Fi (rows.map (·.key)) s' → rows'.Perm rows → OrdR κ rv rows' → Go H0 (b.M chg) s s' → Lg s'.heap ((D, lstO (refs rows') n') :: rowL rows') → (∀ q ∈ rows, s.heap.get? q.r = none) → s.heap.get? D = none → Q (.ref D) s') :
    wpAny (model prog w) A (call (.builtin "sorted") [.ref b.z] [(Str.ofString "reverse", .bool rv)]) Q E s := by
  refine call_function_entry_kw kind_sorted plain_sorted entry_sorted (args_sorted_rev _ _) ?_
  unfold Builtin.«sorted»
  refine wpAny_bind (m := checkCount "sorted" 1 1 _) (wpAny_pure ?_)
  refine wpAny_bind (collect_zip G F (S.around (A' := A.in1) rfl) Sr Z hH (by lia  ) hh hd hd1 fun rows s1 hN g1 L1 hp hf hfi => ?_)
  have hlen : (refs rows).length = n := by simp [refs, hN]
  refine wpAny_bind (new_lst (H0 := H0) (fun D s2 gp hD2 nD1 => ?_) (by rw [hlen, sizeLine_eq]; lia  ))
  have S1 := S.go g1
  have hHD : H0.get? D = none := by
    cases q : H0.get? D with
    | none => rfl
    | some o => have := S1.glob _ _ q; rw [nD1] at this; cases this
  have nD : s.heap.get? D = none := by
    cases q : s.heap.get? D with
    | none => rfl
    | some o => obtain ⟨o', z⟩ := g1.there _ _ q; rw [nD1] at z; cases z
  have L2 := L1.go gp
  have hrow : ∀ q ∈ rows, s2.heap.get? q.r = some (tupO [q.key, q.pos]) := fun q hq => (L2.has _ (List.mem_map.mpr ⟨q, hq, rfl⟩)).at_
  have hnod : (rows.map (·.r)).Nodup := by
    have := L1.nodup
    unfold rowL at this
    rw [List.map_map] at this
    exact this
  have KR := hKR rows s1 hN hfi
  have hDown : ∀ p ∈ [D], p ∉ own := fun p hp hm => by
    rw [List.mem_singleton.mp hp] at hm
    obtain ⟨f0, fl, Z1, _⟩ := Z.st
    obtain ⟨o, ho⟩ := Sr.there _ _ D Z1.inv hm
    rw [nD] at ho; cases ho
  refine wpAny_bind (wpAny_holding (wpAny_call_entry_kw slot_list_sort ⟨_, hD2, rfl⟩ entry_list_sort (sort_rows (s := s2) κ KR (rowsPos hp) G.nob (fun x o e => (S1.go gp).glob x o e) hD2 hHD hrow hnod (by lia  ) fun rows' n' s3 r1 r2 g3 hD3 => ⟨_, rfl, ?_⟩) (args_list_sort_rev _ _)))
  refine wpAny_pure ⟨_, rfl, ?_⟩
  have g13 : Go H0 [D] s1 s3 := (gp.mono (M' := [D]) (fun p h => nomatch h)).trans g3
  refine k D rows rows' n' s3 hN hp (Sr.keepF _ _ _ _ hfi g13 hDown) r1 r2 (g1.step g13 fun p hp => .inr (by rw [List.mem_singleton.mp hp]; exact nD)) ?_ hf nD
  have L3 : Lg s3.heap (rowL rows) := L1.turn g13 _ rfl fun p hp => .inl ⟨hp, fun q => by
    have := (L1.has p hp).at_
    rw [List.mem_singleton.mp q, nD1] at this; cases this⟩
  have pm : (rowL rows').Perm (rowL rows) := r1.map _
  refine ⟨fun p hp => (List.mem_cons.mp hp).elim (fun e => by rw [e]; exact okk_lst hD3) fun h => L3.has p (pm.mem_iff.mp h), ?_⟩
  rw [List.map_cons]
  refine List.nodup_cons.mpr ⟨fun hm => ?_, (pm.map _).nodup_iff.mpr L3.nodup⟩
  obtain ⟨p, hp, e⟩ := List.mem_map.mp hm
  have := (L1.has p (pm.mem_iff.mp hp)).at_
  rw [e, nD1] at this; cases this
end
end Mine
end
section
set_option maxRecDepth 100000
set_option autoImplicit false
namespace Mine
open PySem PySem.W PySem.Calls PyProof.Rows PySem.Spec

theorem plain_zip_new : plainId "zip.__new__" = true := by decide +kernel
section
variable {K : Frag} {a : Adr} {H0 : Heap} {mg mb : Str → Option Value} {A : Around} {l : List Env} {s : Shared} {prog : Program} {w : World} {E : Value → Shared → Prop}

theorem zip_new {v : Value} {ct : Addr} {Q : Value → Shared → Prop}
    (h : wpAny (model prog w) A.in1 (pyIter v) (fun i1 s1 => wpAny (model prog w) A.in1 (pyIter (.ref ct)) (fun i2 s2 => wpAny (model prog w) A.in1 (newTuple [i1, i2]) (fun TI s3 => wpAny (model prog w) A.in1 (newTuple [.none, .none]) (fun TO s4 =>
      Q (.ref s4.heap.objs.size) { s4 with heap := s4.heap.push { cls := .type "zip", data := .fields #[.none, .bool false, .bool false, TI, TO] } }) (fun e s' => wants Q E (.error e) s') s3) (fun e s' => wants Q E (.error e) s') s2) (fun e s' => wants Q E (.error e) s') s1) (fun e s' => wants Q E (.error e) s') s) :
    codeAny (model prog w) A (.call (.builtin "zip.__new__") ⟨[.type "zip", v, .ref ct], []⟩) (wants Q E) s := by
  refine codeAny_of_tree ?_
  show wpAny _ A.in1 (do checkBuiltinCall "zip.__new__" ⟨[.type "zip", v, .ref ct], []⟩; again (.builtin "zip.__new__" ⟨[.type "zip", v, .ref ct], []⟩)) _ _ s
  refine wpAny_bind (wpAny_of_eq (PySem.F.newCall_zip_2 _ _) (wpAny_pure ⟨plainId_quiet plain_zip_new _, codeAny_plain PySem.F.entry_zip_new plain_zip_new ?_⟩))
  have hsub := sub_zip
  unfold Builtin.«zip.__new__»
  refine wpAny_bind ?_
  unfold Builtin.SmallTypes.newClass
  dsimp only
  refine wpAny_bind (m := isType (.type "zip")) (wpAny_pure ?_)
  (try simp only [Bool.not_true, Bool.false_eq_true, if_false])
  rw [hsub]
  refine wpAny_bind (wpAny_pure ?_)
  (try simp only [Bool.not_true, Bool.false_eq_true, if_false])
  refine wpAny_pure ?_
  dsimp only
  first | refine ite_no' (by decide) ?_ | refine ite_no (by decide) ?_ | rw [if_neg (by decide)]
  refine wpAny_bind ?_
  unfold Builtin.SmallTypes.iterAll
  simp only [List.forIn_cons, List.forIn_nil]
  refine wpAny_bind (wpAny_bind (wpAny_bind (wpAny_holding (wpAny_mono h (fun i1 s1 h1 => wpAny_pure ?_) fun _ _ z => z))))
  dsimp only
  refine wpAny_bind (wpAny_bind (wpAny_holding (wpAny_mono h1 (fun i2 s2 h2 => wpAny_pure (wpAny_pure (wpAny_pure ?_))) fun _ _ z => z)))
  refine wpAny_bind (wpAny_mono h2 (fun TI s3 h3 => wpAny_bind (wpAny_mono h3 (fun TO s4 h4 => wpAny_bind ?_) fun _ _ z => z)) fun _ _ z => z)
  show wpAny _ _ (newObj (.type "zip") (.fields #[.none, .bool false, .bool false, TI, TO])) _ _ _
  exact wpAny_newObj_type (wpAny_pure h4) (by size_fits)

theorem zip_make {v : Value} {I ct dc : Addr} {own chg : List Addr} {Inv Fi : List Value → Shared → Prop} {n d : Nat} {t u : Tok} (G : Gl K H0 mg mb) (F : KF K a) (S : St H0 A l s) (Sr : Src prog w H0 l d I own chg n Inv Fi)
    (hct : Okk s.heap (ct, io a.ct dc (ctS (.int 0 t) (.bool true) (.int 1 u)))) (hHct : H0.get? ct = none) (hcto : ct ∉ own) (hroom : A.depth < recursionLimit)
    (hit : ∀ (A' : Around) (Q : Value → Shared → Prop) (E : Value → Shared → Prop), A'.handled = A.handled → A'.depth = A.depth → A'.frames = A.frames → (∀ s1, Go H0 [] s s1 → Inv [] s1 → Q (.ref I) s1) → wpAny (model prog w) A' (pyIter v) Q E s) {Q : Value → Shared → Prop}
    (k : ∀ b : ZA, ∀ s', b.ct = ct → b.dc = dc → b.I = I → Go H0 [] s s' → ZL a b own Inv [] s' → (∀ p ∈ [b.z, b.TI, b.TO], s.heap.get? p = none) → (∀ p ∈ [b.z, b.TI, b.TO, b.ct], H0.get? p = none ∧ p ∉ own) → Q (.ref b.z) s') :
    wpAny (model prog w) A (call (.type "zip") [v, .ref ct]) Q E s := by
  refine callType_codes (Q₁ := fun obj s₁ => s₁.TypeIs obj "zip" ∧ Q obj s₁) PySem.F.called_zip (PySem.F.typeCall_zip_2 _ _) PySem.F.entry_object_init (zip_new ?_) fun obj s₁ h₁ => ⟨h₁.1, PySem.F.args_object_init_3 obj _ _, ?_⟩
  rotate_left
  · exact object_init_meets (T := "zip") (newId := "zip.__new__") PySem.F.slot_zip_init.lookup PySem.F.called_zip.made (by decide) prog w A.in1 _ s₁ ⟨h₁.1, rfl, h₁.2⟩
  refine hit _ _ _ rfl rfl rfl fun s1 g1 i1 => ?_
  have hct1 := hct.go g1 (fun h => nomatch h)
  have S1 := S.go g1
  refine iter_inst (S1.X G) hct1 F.mctT F.mctN (ctIter_spec G F (S1.around (A' := A.in1.in1) rfl) hroom fun s2 g2 => ⟨rfl, ((S1.go g2).X G), hct1.go g2 (fun h => nomatch h), ?_⟩)
  have hct2 := hct1.go g2 (fun h => nomatch h)
  have g02 := g1.trans g2
  have i2 := Sr.keep _ _ _ _ i1 g2 (fun p hp => nomatch hp)
  have L0 : Lg s2.heap [(ct, io a.ct dc (ctS (.int 0 t) (.bool true) (.int 1 u)))] := ⟨fun p hp => by rw [List.mem_singleton.mp hp]; exact hct2, by simp⟩
  refine L0.new (H0 := H0) (fun TI s3 gp1 L1 n1 => ?_) (by show 2 ≤ _; rw [sizeLine_eq]; decide)
  have i3 := Sr.keep _ _ _ _ i2 gp1 (fun p hp => nomatch hp)
  refine L1.new (H0 := H0) (fun TO s4 gp2 L2 n2 => ?_) (by show 2 ≤ _; rw [sizeLine_eq]; decide)
  have i4 := Sr.keep _ _ _ _ i3 gp2 (fun p hp => nomatch hp)
  refine L2.push (H0 := H0) (P := fun z s' => s'.TypeIs (.ref z) "zip" ∧ Q (.ref z) s') (o := zO .none false TI TO) nd_fields rfl rfl fun z s5 gp3 L3 n3 => ?_
  have i5 := Sr.keep _ _ _ _ i4 gp3 (fun p hp => nomatch hp)
  have h3 := L3.at 0 rfl
  have g04 := (g02.trans gp1).trans gp2
  have fr : ∀ {s₀ s' : Shared} {p : Addr}, Go H0 [] s₀ s' → s'.heap.get? p = none → s₀.heap.get? p = none := fun {s₀ s' p} g hp => by
    cases q : s₀.heap.get? p with
    | none => rfl
    | some o => obtain ⟨o', y⟩ := g.there _ _ q; rw [hp] at y; cases y
  have hn1 : ∀ p ∈ [z, TI, TO], s1.heap.get? p = none := by
    intro p hp
    simp only [List.mem_cons, List.not_mem_nil, or_false] at hp
    rcases hp with rfl | rfl | rfl
    · exact fr ((g2.trans gp1).trans gp2) n3
    · exact fr g2 n1
    · exact fr (g2.trans gp1) n2
  have hn : ∀ p ∈ [z, TI, TO], s.heap.get? p = none := fun p hp => fr g1 (hn1 p hp)
  have hin : ∀ p, s1.heap.get? p = none → H0.get? p = none ∧ p ∉ own := by
    intro p hp
    refine ⟨?_, fun hm => ?_⟩
    · cases q : H0.get? p with
      | none => rfl
      | some o => have := S1.glob _ _ q; rw [hp] at this; cases this
    · obtain ⟨o, ho⟩ := Sr.there _ _ p i1 hm
      rw [hp] at ho; cases ho
  refine ⟨⟨_, h3, rfl⟩, k ⟨z, TI, TO, ct, dc, I⟩ _ rfl rfl rfl (g04.trans gp3) ⟨⟨.none, false, ⟨⟨#[.none, .none], 0, t, u, ?_, rfl⟩, i5, .inl ⟨rfl, rfl⟩⟩, .inl ⟨rfl, rfl, rfl⟩⟩, ⟨fun p hp => (nomatch hp), List.nodup_nil⟩, fun j q h => (by cases h), fun q hq => (nomatch hq)⟩ hn fun p hp => ?_⟩
  · refine ⟨fun p hp => L3.has p ?_, ?_⟩
    · simp only [List.mem_cons, List.not_mem_nil, or_false] at hp ⊢
      rcases hp with h | h | h | h <;> simp [h]
    · have := L3.nodup
      simp only [List.map_cons, List.map_nil, List.nodup_cons, List.mem_cons, List.not_mem_nil, or_false, not_or, List.nodup_nil, and_true, not_false_eq_true] at this ⊢
      obtain ⟨⟨a1, a2, a3⟩, ⟨a4, a5⟩, a6⟩ := this
      exact ⟨⟨a2, a1, a3⟩, ⟨fun e => a4 e.symm, a6⟩, a5⟩
  · simp only [List.mem_cons, List.not_mem_nil, or_false] at hp
    rcases hp with rfl | rfl | rfl | rfl
    · exact hin _ (hn1 _ (by simp))
    · exact hin _ (hn1 _ (by simp))
    · exact hin _ (hn1 _ (by simp))
    · exact ⟨hHct, hcto⟩
end
end Mine
end
section
set_option maxRecDepth 100000
set_option autoImplicit false
namespace Mine
open PySem PySem.W PySem.Calls PyProof.Rows PySem.Spec
section
variable {K : Frag} {a : Adr} {H0 : Heap} {mg mb : Str → Option Value} {A : Around} {l : List Env} {s : Shared} {prog : Program} {w : World} {E : Value → Shared → Prop}
theorem next_endE {it : Addr} {i : Nat} {Q : Value → Shared → Prop} (hh : A.handled = none) (hit : s.heap.get? it = some (itE i))
    (hE : ∀ h' e, Heap.MadeExc s.heap h' e "StopIteration" [] → E (.ref e) { s with heap := h' }) : wpAny (model prog w) A (call (.builtin "next") [.ref it]) Q E s := by
  have hT : s.TypeIs (.ref it) "list_iterator" := ⟨_, hit, rfl⟩
  refine call_function_entry (by decide +kernel) (by decide +kernel) entry_next (args_next _) ?_
  unfold Builtin.«next»
  refine wpAny_bind (m := someArgs "next" 1 2 _) (wpAny_of_eq (a := [Value.ref it]) (by first | rfl | kernel_rfl!) ?_)
  dsimp only
  refine wpAny_bind (wpAny_specialOf (name := Str.ofString "__next__") hT slot_listiter_next.lookup ?_)
  refine wpAny_ite_split (fun hab => absurd hab (by decide)) (fun _ => ?_)
  refine wpAny_bind (wpAny_callSpecial?_slot (name := Str.ofString "__next__") hT slot_listiter_next (wpAny_call_entry slot_listiter_next hT entry_listiter_next ?_ (args_listiter_next _)))
  show wpAny _ _ (field (.ref it) 0 >>= _) _ _ s
  refine wpAny_bind (wpAny_field hit rfl (x := .none) rfl ?_)
  show wpAny _ _ (if (Value.none == Value.none) = true then _ else _) _ _ s
  first | refine ite_yes' (by decide) ?_ | refine ite_yes (by decide) ?_ | rw [if_pos (by decide)]
  refine wpAny_bind (wpAny_rule (wpAny_bind ?_))
  unfold Builtin.SmallTypes.stopIteration
  refine wpAny_bind (newExc_stop (fun h' e hm => ?_))
  simp only [raiseNew]
  refine wpAny_bind (wpAny_handled ?_)
  rw [show A.in1.in1.handled = none from hh]
  exact wpAny_bind (wpAny_pure (wpAny_throw (hE _ _ hm)))

theorem pull_endE (G : Gl K H0 mg mb) (F : KF K a) (S : St H0 A l s) {it : Addr} {i : Nat} (hit : s.heap.get? it = some (itE i)) (hroom : A.depth < recursionLimit) (hh : A.handled = none) {Q : Value → Shared → Prop}
    (k : ∀ t s', Go H0 [] s s' → s'.heap.get? t = some (tupO [.bool false, .none]) → s.heap.get? t = none → Q (.ref t) s') : wpAny (model prog w) A (call (.ref a.pull) [.ref it]) Q E s := by
  refine wpAny_call (enterF (binds := [(Str.ofString "it", .ref it)]) G S F.pull [] [(it, itE i)] (fun p hp => by rw [List.mem_singleton.mp hp]; exact .of hit nd_fields rfl) (by simp) hroom (fun _ _ _ _ _ _ => BindsTo.of_eq rfl) (by decide) (locs rfl) fun L cdv s1 _ C => ?_)
  refine wpAny_execs_cons (wpAny_Try_except (wpAny_execs_cons (wpAny_Return_some (tup_made (args_cons (wpAny_Constant_bool (args_cons ?_)))))))
  refine Call_ (C.boot G F.nnext Boot.«next» ?_)
  refine callWith_builtin1 (args_cons (C.name rfl (args_nil ?_)))
  refine next_endE hh (C.at 0 rfl) fun h' e hm => ?_
  refine C.noteMade (cls := .type "StopIteration") ⟨hm.keeps, hm.new, hm.there⟩ rfl fun t s2 hd => ?_
  refine hd.lands fun s3 F3 => ?_
  have C3 := (C.call F3.go).around (A' := (A.deeper (envOf "_pull" dPull.2.2 L a.pull cdv)).mark (some (.ref e))) rfl
  refine wpAny_handleBy_builtin (X := "StopIteration") (T := "StopIteration") (b := true) owsi_raise.isExc (by rw [isSubtype_type]; kernel_rfl) owsi_facts.sub ?_
  refine C3.boot G F.nstop Boot.«StopIteration» ⟨rfl, F3.typ, ?_⟩
  first | refine ite_yes' rfl ?_ | refine ite_yes rfl ?_ | rw [if_pos rfl]
  refine F3.again fun s4 F4 => ?_
  have C4 := (C.call F4.go).around (A' := (A.deeper (envOf "_pull" dPull.2.2 L a.pull cdv)).mark (some (.ref e))) rfl
  refine wpAny_execs_cons (wpAny_Return_some (tup_made (args_cons (wpAny_Constant_bool (args_cons (wpAny_Constant_none (args_nil ⟨_, _, _, _, _, _, _, _, C4, by simp [sizeLine_eq], fun t s2 C5 n1 n2 => ?_⟩)))))))
  exact k t _ C5.go (C5.at 0 rfl) n1.e

theorem step_endE (G : Gl K H0 mg mb) (F : KF K a) (S : St H0 A l s) {x dg it : Addr} {i : Nat} {cg ck cv kf se tk : Value} {hk hv ht : Bool}
    (hx : Okk s.heap (x, io a.gb dg (gbS cg ck cv hk hv ht (.ref it) kf se tk))) (hit : s.heap.get? it = some (itE i))
    (hroom : A.depth + 1 < recursionLimit) (hh : A.handled = none) {R : Result → Shared → Prop}
    (k : ∀ e t s', Fly H0 [] s l e (.type "StopIteration") (.ref t) [] s' → R (.error (.ref e)) s') :
    codeAny (model prog w) A (.call (.ref a.gbStep) ⟨[.ref x], []⟩) R s := by
  have h1 : x ≠ it := ne_cls hx.at_ hit (by show Value.ref a.gb ≠ .type _; intro q; cases q)
  refine enterF (binds := [(Str.ofString "self", .ref x)]) G S F.gbStep [] [(x, io a.gb dg (gbS cg ck cv hk hv ht (.ref it) kf se tk)), (it, itE i)] (fun p hp => ?_) (by simp [h1]) (Nat.lt_of_succ_lt hroom) (fun _ _ _ _ _ _ => BindsTo.of_eq rfl) (by decide) (locs rfl) fun L cdv s1 _ C => ?_
  · rcases List.mem_cons.mp hp with rfl | hp
    · exact hx
    · rw [List.mem_singleton.mp hp]; exact .of hit nd_fields rfl
  refine wpAny_execs_cons (Assign_Tuple (C.callFn G F.npull F.kpull (args_cons (C.attr G 0 rfl rfl F.gb F.gb6 rfl rfl fun s2 C2 => args_nil ⟨C2.st.X G, ?_⟩))))
  refine pull_endE G F C2.st (C2.at 1 rfl) hroom hh fun t s3 g3 ht3 nt3 => ?_
  have C3 := C2.callN g3 (okk_tup ht3) nt3
  refine C3.unpack2 0 rfl hh fun s4 C4 => ?_
  refine wpAny_execs_cons (wpAny_If (wpAny_isTrue_Not (wpAny_isTrue_value (C4.name rfl (wpAny_truthy_bool ?_)))))
  (try simp only [Bool.not_false, if_true])
  refine wpAny_execs_cons (owsi_raiseC hh (C4.boot G F.nstop Boot.«StopIteration» ⟨rfl, rfl⟩) fun h' e hm => ?_)
  refine C4.raised (cls := .type "StopIteration") ⟨hm.keeps, hm.new, hm.there⟩ rfl fun t s5 F5 _ => ?_
  exact k e t s5 (F5.with [] fun p hp => nomatch hp)

theorem gbNext_endE (G : Gl K H0 mg mb) (F : KF K a) (S : St H0 A l s) {x dg it : Addr} {i : Nat} {cg ck cv kf tk : Value} {hv ht : Bool} {se : Value}
    (hx : Okk s.heap (x, io a.gb dg (gbS cg ck cv false hv ht (.ref it) kf se tk))) (hit : s.heap.get? it = some (itE i)) (hHx : H0.get? x = none)
    (hroom : A.depth + 2 < recursionLimit) (hh : A.handled = none) {R : Result → Shared → Prop}
    (k : ∀ e t s', Fly H0 [x] s l e (.type "StopIteration") (.ref t) [] s' → R (.error (.ref e)) s') :
    codeAny (model prog w) A (.call (.ref a.gbNext) ⟨[.ref x], []⟩) R s := by
  have h1 : x ≠ it := ne_cls hx.at_ hit (by show Value.ref a.gb ≠ .type _; intro q; cases q)
  refine enterF (binds := [(Str.ofString "self", .ref x)]) G S F.gbNext [x] [(x, io a.gb dg (gbS cg ck cv false hv ht (.ref it) kf se tk)), (it, itE i)] (fun p hp => ?_) (by simp [h1]) (Nat.lt_of_succ_lt (Nat.lt_of_succ_lt hroom)) (fun _ _ _ _ _ _ => BindsTo.of_eq rfl) (by decide) (locs rfl) fun L cdv s1 _ C => ?_
  · rcases List.mem_cons.mp hp with rfl | hp
    · exact hx
    · rw [List.mem_singleton.mp hp]; exact .of hit nd_fields rfl
  refine wpAny_execs_cons (plainObj_wpAny_Assign_Attribute (wpAny_Constant_int ((C.tok 1).setA G 0 rfl rfl F.gb F.gb0 (.inl (by simp)) hHx (fun s2 C2 => ?_) (sl' := gbS (.int 0 s1.toks) ck cv false hv ht (.ref it) kf se tk) (he := by simp [putS, gbS]))))
  refine wpAny_execs_cons (wpAny_While (codeAny_whileLoop (fun n' s' => n' = 0 ∧ s' = s2) (fun n' s' hI => ?_) 0 ⟨rfl, rfl⟩))
  obtain ⟨-, rfl⟩ := hI
  refine wpAny_isTrue_value (wpAny_Constant_bool (wpAny_truthy_bool ?_))
  refine ite_yes' rfl ?_
  refine wpAny_passesOwn PassesOwn.leaving ?_
  refine wpAny_execs_cons (wpAny_If (wpAny_isTrue_value (C2.attr G 0 rfl rfl F.gb F.gb3 rfl rfl fun s3 C3 => wpAny_truthy_bool ?_)))
  refine ite_no' (by decide) ?_
  refine wpAny_execs_nil ?_
  refine wpAny_execs_cons (wpAny_Expr (C3.callMeth0 G 0 rfl rfl F.gb F.mgbS (wpAny_call ?_)))
  refine step_endE G F C3.st (C3.ok 0 rfl) (C3.at 1 rfl) hroom hh fun e t s4 F4 => ?_
  have F5 := (F4.lift C3.go (fun p hp => nomatch hp)).with [] (fun p hp => nomatch hp)
  exact F5.leave C3.st.frames rfl fun s5 F6 => k e t s5 F6
end
end Mine
end
section
set_option maxRecDepth 100000
set_option autoImplicit false
namespace Mine
open PySem PySem.W PySem.Calls PyProof.Rows PySem.Spec
section
variable {K : Frag} {a : Adr} {H0 : Heap} {mg mb : Str → Option Value} {A : Around} {l : List Env} {M : List Addr} {sE : Shared} {L f : Addr} {m : Str → Option Value} {led : List (Addr × Obj)} {s : Shared} {prog : Program} {w : World} {E : Value → Shared → Prop}
variable {cn : Str} {cs : Scope} {cdv : Value}

theorem pyNext_item {it lst : Addr} {i : Nat} {vs : List Value} {n : Nat} {x : Value} {Q : Option Value → Shared → Prop} (hit : s.heap.get? it = some (itO lst i)) (hl : s.heap.get? lst = some (lstO vs n)) (hx : vs[i]? = some x)
    (hQ : Q (some x) { s with heap := s.heap.update it (Obj.mapFields (·.setIfInBounds 1 (rawInt ((i : Int) + 1)))) }) : wpAny (model prog w) A (pyNext (.ref it)) Q E s := by
  have hT : s.TypeIs (.ref it) "list_iterator" := ⟨_, hit, rfl⟩
  unfold pyNext
  refine wpAny_bind (wpAny_attempt (wpAny_callSpecial?_slot (name := Str.ofString "__next__") hT slot_listiter_next (wpAny_call_entry slot_listiter_next hT entry_listiter_next ?_ (args_listiter_next _))))
  show wpAny _ _ (field (.ref it) 0 >>= _) _ _ s
  refine wpAny_bind (wpAny_field hit rfl (x := .ref lst) rfl ?_)
  show wpAny _ _ (if (Value.ref lst == Value.none) = true then _ else _) _ _ s
  first | refine ite_no' rfl ?_ | refine ite_no (show ¬ ((Value.ref lst == Value.none) = true) from Bool.false_ne_true) ?_ | rw [if_neg (show ¬ ((Value.ref lst == Value.none) = true) from Bool.false_ne_true)]
  show wpAny _ _ (field (.ref it) 1 >>= _) _ _ s
  refine wpAny_bind (wpAny_field hit rfl (x := .int i 0) rfl ?_)
  show wpAny _ _ (seqItems? (.ref lst) >>= _) _ _ s
  refine wpAny_bind (wpAny_seqItems hl rfl ?_)
  simp only [Int.toNat_natCast, List.getElem?_toArray, hx]
  exact wpAny_bind (wpAny_setField hit rfl (by simp) (wpAny_pure ⟨x, rfl, wpAny_pure hQ⟩))
theorem pyNext_end {it lst : Addr} {i : Nat} {vs : List Value} {n : Nat} {Q : Option Value → Shared → Prop} (hh : A.handled = none) (hit : s.heap.get? it = some (itO lst i)) (hl : s.heap.get? lst = some (lstO vs n)) (hx : vs[i]? = none)
    (hQ : ∀ h' e, Heap.MadeExc (s.heap.update it (Obj.mapFields (·.setIfInBounds 0 .none))) h' e "StopIteration" [] → Q none { s with heap := h' }) : wpAny (model prog w) A (pyNext (.ref it)) Q E s := by
  have hT : s.TypeIs (.ref it) "list_iterator" := ⟨_, hit, rfl⟩
  unfold pyNext
  refine wpAny_bind (wpAny_attempt (wpAny_callSpecial?_slot (name := Str.ofString "__next__") hT slot_listiter_next (wpAny_call_entry slot_listiter_next hT entry_listiter_next ?_ (args_listiter_next _))))
  show wpAny _ _ (field (.ref it) 0 >>= _) _ _ s
  refine wpAny_bind (wpAny_field hit rfl (x := .ref lst) rfl ?_)
  show wpAny _ _ (if (Value.ref lst == Value.none) = true then _ else _) _ _ s
  first | refine ite_no' rfl ?_ | refine ite_no (show ¬ ((Value.ref lst == Value.none) = true) from Bool.false_ne_true) ?_ | rw [if_neg (show ¬ ((Value.ref lst == Value.none) = true) from Bool.false_ne_true)]
  show wpAny _ _ (field (.ref it) 1 >>= _) _ _ s
  refine wpAny_bind (wpAny_field hit rfl (x := .int i 0) rfl ?_)
  show wpAny _ _ (seqItems? (.ref lst) >>= _) _ _ s
  refine wpAny_bind (wpAny_seqItems hl rfl ?_)
  simp only [Int.toNat_natCast, List.getElem?_toArray, hx]
  refine wpAny_bind (wpAny_rule (wpAny_bind (wpAny_setField hit rfl (by simp) ?_)))
  show wpAny _ _ (newExc (.type "StopIteration") [] >>= _) _ _ _
  refine wpAny_bind (newExc_stop (fun h' e hm => ?_))
  simp only [raiseNew]
  refine wpAny_bind (wpAny_handled ?_)
  rw [show A.in1.handled = none from hh]
  obtain ⟨t, ht, _⟩ := hm.there
  refine wpAny_bind (wpAny_pure (wpAny_throw ?_))
  refine wpAny_bind (wpAny_isInstance (T := "StopIteration") (b := true) (s := { s with heap := h' }) (show Shared.TypeIs { s with heap := h' } (.ref e) "StopIteration" from ⟨_, ht, rfl⟩) owsi_facts.sub ?_)
  exact wpAny_pure (hQ h' e hm)

theorem own_listiter {elts : List Expr} {x1} {pos : Pos} {I lst : Addr} {T : Value} {i : Nat} {Q : Unit → Shared → Prop} (hit : s.heap.get? I = some (itO lst i)) (hQ : Q () s) :
    wpAny (model prog w) A (letOwnedTupleGo (.Tuple elts x1 pos) (.ref I) T) Q E s := by
  cases T with
  | ref T => exact wpAny_letOwnedTupleGo_listiter ⟨_, hit, rfl, rfl⟩ hQ
  | _ => exact wpAny_pure hQ
theorem own_inst {elts : List Expr} {x1} {pos : Pos} {I c dx : Addr} {T : Value} {sl : List (Option Value)} {Q : Unit → Shared → Prop} (hit : s.heap.get? I = some (io c dx sl)) (hQ : Q () s) :
    wpAny (model prog w) A (letOwnedTupleGo (.Tuple elts x1 pos) (.ref I) T) Q E s := by
  cases T with
  | ref T =>
    unfold letOwnedTupleGo
    exact wpAny_bind (wpAny_load hit (wpAny_pure hQ))
  | _ => exact wpAny_pure hQ

theorem setItem_list {lst : Addr} {vs : List Value} {n j : Nat} {k : Int} {t : Tok} {v : Value} {Q : Unit → Shared → Prop} (hk : k = (j : Int)) (hl : s.heap.get? lst = some (lstO vs n)) (hj : j < vs.length) (hfit : k < 2 ^ 63)
    (hQ : Q () { s with heap := s.heap.update lst (Obj.mapSeq (·.setIfInBounds j v)) }) : wpAny (model prog w) A (setItem (.ref lst) (.int k t) v) Q E s := by
  have hT : s.TypeIs (.ref lst) "list" := ⟨_, hl, rfl⟩
  unfold setItem
  try with_reducible refine wpAny_holding ?_
  first | refine wpAny_bind (wpAny_pure ?_) | skip
  refine wpAny_bind (wpAny_sequenceKey hT (by decide) ?_)
  refine wpAny_bind (wpAny_callSpecial?_slot (name := Str.ofString "__setitem__") hT slot_list_setitem
    (wpAny_call_entry slot_list_setitem hT entry_list_setitem ?_ (args_list_setitem _ _ _)))
  show wpAny _ _ (Builtin.List.listSubscript? (.int k t) >>= _) _ _ s
  refine wpAny_bind (wpAny_listSubscript_int (fitsIndex_of (by rw [hk]; exact Int.natCast_nonneg j) hfit) ?_)
  clear hfit
  subst hk
  have hx' : vs.toArray[j]? = some vs[j] := by simp [hj]
  show wpAny _ _ ((seqItemAt lst j >>= fun r => pure (r.map (j, ·))) >>= _) _ _ s
  refine wpAny_bind (wpAny_bind (wpAny_seqItemAt hl rfl (wpAny_pure ?_)))
  rw [hx']
  show wpAny _ _ (setSeqItemAt lst j v >>= _) _ _ s
  exact wpAny_bind (wpAny_setSeqItemAt hl rfl (wpAny_pure ⟨.none, rfl, wpAny_pure hQ⟩))

noncomputable def putAll (rk : Value) (grp : List Row) (rv : List Value) : List Value := grp.foldl (fun acc q => acc.set (posI q).toNat rk) rv
theorem putAll_length (rk : Value) : ∀ (grp : List Row) (rv : List Value), (putAll rk grp rv).length = rv.length
  | [], _ => rfl
  | q :: r, rv => (putAll_length rk r _).trans (by simp)
end
end Mine
end
section
set_option maxRecDepth 100000
set_option autoImplicit false
namespace Mine
open PySem PySem.W PySem.Calls PyProof.Rows PySem.Spec
section
variable {K : Frag} {a : Adr} {H0 : Heap} {mg mb : Str → Option Value} {A : Around} {l : List Env} {M : List Addr} {sE : Shared} {L f : Addr} {m : Str → Option Value} {led rest : List (Addr × Obj)} {s : Shared} {prog : Program} {w : World} {E : Value → Shared → Prop}
variable {cn : Str} {cs : Scope} {cdv : Value}

theorem putAll_snoc (rk : Value) (grp : List Row) (q : Row) (rv : List Value) : putAll rk (grp ++ [q]) rv = (putAll rk grp rv).set (posI q).toNat rk := by simp [putAll]

set_option maxHeartbeats 1000000 in
inductive GInv (N : Nat) (F : Nat → (Str → Option Value) → Nat → Shared → Prop) (n : Nat) (s : Shared) : Prop
  | mk (i : Nat) (m' : Str → Option Value) (c' : Nat) (hi : i ≤ N) (hn : n = N - i) (hF : F i m' c' s) : GInv N F n s
theorem assign_loop {vn pn dn rn kn : Str} {p1 p2 p3 tp dp rp kp sp ap fp : Pos} {k : Nat} {res D : Addr} {rv : List Value} {c cD : Nat} {grp : List Row} {rk : Value} {Q : Flow → Shared → Prop}
    (C : Cx H0 A l M sE L m ((res, lstO rv c) :: rest) s) (jD : Nat) (hD : rest[jD]? = some (D, lstO (refs grp) cD)) (hrow : ∀ q ∈ grp, (q.r, tupO [q.key, q.pos]) ∈ rest)
    (hmr : m rn = some (.ref res)) (hmd : m dn = some (.ref D)) (hmk : m kn = some rk)
    (hpos : ∀ q ∈ grp, (∃ t, q.pos = .int (posI q) t) ∧ 0 ≤ posI q ∧ (posI q).toNat < rv.length) (hz : rv.length < 2 ^ 60) (hM : res ∈ M ∨ sE.heap.get? res = none) (hH : H0.get? res = none) (hh : A.handled = none) (hE : PassesOwn (model prog w) A (envOf cn cs L f cdv) E)
    (h : ∀ m' c' s', Cx H0 A l M sE L m' ((res, lstO (putAll rk grp rv) c') :: rest) s' → (∀ z, z ≠ vn → z ≠ pn → m' z = m z) → Q .next s')
    (n1 : rn ≠ vn ∧ rn ≠ pn ∧ kn ≠ vn ∧ kn ≠ pn ∧ vn ≠ pn := by decide)
    (hk : cs.kind = .function := by rfl) (l1 : cs.names.lookup vn = some .local := by rfl) (l2 : cs.names.lookup pn = some .local := by rfl) (l3 : cs.names.lookup dn = some .local := by rfl) (l4 : cs.names.lookup rn = some .local := by rfl) (l5 : cs.names.lookup kn = some .local := by rfl)
    (d1 : (dn == ("__debug__" : Str)) = false := by decide) (d2 : (rn == ("__debug__" : Str)) = false := by decide) (d3 : (kn == ("__debug__" : Str)) = false := by decide) (d4 : (pn == ("__debug__" : Str)) = false := by decide)
    (hp : (cs.kind == .class || (cs.kind == .module && L != mainGlobals)) = false := by rfl) (hf : ∀ x, foldedSetIterable (.Name dn dp) (envOf cn cs L f cdv) x = pure x := by intro _; rfl)
    (hs : swapsWith (.Name kn kp) (some (.Subscript (.Name rn rp) (.Name pn p3) sp)) ap.line (envOf cn cs L f cdv) = pure false := by rfl) :
    wpAny (model prog w) A (exec (.For (.Tuple [.Name vn p1, .Name pn p2] k tp) (.Name dn dp) [.Assign [.Subscript (.Name rn rp) (.Name pn p3) sp] (.Name kn kp) ap] [] fp) (envOf cn cs L f cdv)) Q E s := by
  refine wpAny_For (C.name hmd ?_ hk l3 d1) hf
  refine wpAny_pyIter_list ⟨_, C.at (jD + 1) hD, rfl, cD, rfl⟩ ?_
  have C1 := C.push (itO D 0) rfl nd_fields rfl
  have nIT : s.heap.get? s.heap.objs.size = none := not_at
  have nwIT := C.noE nIT
  generalize s.heap.objs.size = IT at C1 nIT nwIT ⊢
  refine codeAny_forLoop_any (GInv grp.length fun i m' c' s' => (∀ z, z ≠ vn → z ≠ pn → m' z = m z) ∧ Cx H0 A l M sE L m' ((IT, itO D i) :: (res, lstO (putAll rk (grp.take i) rv) c') :: rest) s') ?_ grp.length ⟨0, m, c, Nat.zero_le _, rfl, fun _ _ _ => rfl, C1⟩
  rintro n' s' ⟨i, m', c', hi, rfl, hm, C2⟩
  have hDe : ((IT, itO D i) :: (res, lstO (putAll rk (grp.take i) rv) c') :: rest)[jD + 2]? = some (D, lstO (refs grp) cD) := hD
  by_cases hlt : i < grp.length
  · have hq : grp[i]? = some grp[i] := List.getElem?_eq_getElem hlt
    have hqm : grp[i] ∈ grp := List.getElem_mem hlt
    generalize grp[i] = q at hq hqm
    refine pyNext_item (C2.at 0 rfl) (C2.at (jD + 2) hDe) (refs_get hq) ?_
    have C3 := C2.upd 0 (f := Obj.mapFields (·.setIfInBounds 1 (rawInt ((i : Int) + 1)))) rfl rfl nd_fields rfl (.inr nwIT.e) nwIT.h
    refine own_listiter (i := i + 1) (C3.at 0 rfl) ?_
    obtain ⟨⟨tq, eq⟩, hq0, hqn⟩ := hpos q hqm
    obtain ⟨jq, hjq, ejq⟩ := List.mem_iff_getElem.mp (hrow q hqm)
    have hjq' : rest[jq]? = some (q.r, tupO [q.key, q.pos]) := by rw [List.getElem?_eq_getElem hjq, ejq]
    refine C3.unpack2 (jq + 2) hjq' hh (fun s4 C4 => ?_) l1 l2 hp
    have mk : ∀ z, z ≠ vn → z ≠ pn → (updM (updM m' vn q.key) pn q.pos) z = m z := fun z h1 h2 => by
      show (if z = pn then _ else if z = vn then _ else m' z) = m z
      rw [if_neg h2, if_neg h1, hm z h1 h2]
    refine wpAny_passesOwn hE ?_
    refine wpAny_execs_cons (wpAny_Assign_Subscript (C4.name ((mk kn n1.2.2.1 n1.2.2.2.1).trans hmk) (C4.name ((mk rn n1.1 n1.2.1).trans hmr) (C4.name (v := q.pos) (if_pos rfl) ?_ hk l2 d4) hk l4 d2) hk l5 d3) hs)
    rw [eq]
    refine setItem_list (j := (posI q).toNat) (by lia  ) (C4.at 1 rfl) (by rw [putAll_length]; exact hqn) (by have : (2 : Nat) ^ 60 ≤ 2 ^ 62 := by decide
                                                                                                              have h3 : (posI q) < 2 ^ 62 := by lia
                                                                                                              have h4 : (2 : Int) ^ 62 < 2 ^ 63 := by decide
                                                                                                              lia  ) ?_
    have C5 := C4.upd 1 (f := Obj.mapSeq (·.setIfInBounds (posI q).toNat rk)) rfl rfl nd_seq rfl hM hH
    refine wpAny_execs_nil ⟨grp.length - (i + 1), by grind, i + 1, _, c', hlt, rfl, mk, ?_⟩
    have e : Obj.mapSeq (fun x => x.setIfInBounds (posI q).toNat rk) (lstO (putAll rk (grp.take i) rv) c') = lstO (putAll rk (grp.take (i + 1)) rv) c' := by
      rw [List.take_add_one, hq]
      show _ = lstO (putAll rk (grp.take i ++ [q]) rv) c'
      rw [putAll_snoc]
      simp [Obj.mapSeq]
    have e2 : ([(IT, itO D (i + 1)), (res, lstO (putAll rk (grp.take i) rv) c')] ++ rest).set 1 (res, Obj.mapSeq (fun x => x.setIfInBounds (posI q).toNat rk) (lstO (putAll rk (grp.take i) rv) c')) = (IT, itO D (i + 1)) :: (res, lstO (putAll rk (grp.take (i + 1)) rv) c') :: rest := by
      rw [e]; rfl
    rw [← e2]
    exact C5
  · have hil : i = grp.length := by lia
    subst hil
    refine pyNext_end hh (C2.at 0 rfl) (C2.at (jD + 2) hDe) (refs_none (List.getElem?_eq_none (Nat.le_refl _))) fun h' e hm' => ?_
    have C3 := C2.upd 0 (f := Obj.mapFields (·.setIfInBounds 0 .none)) rfl rfl nd_fields rfl (.inr nwIT.e) nwIT.h
    have C4 := C3.call (made_go (H0 := H0) (M := []) (s := { s' with heap := s'.heap.update IT (Obj.mapFields (·.setIfInBounds 0 .none)) }) hm')
    rw [List.take_length] at C4
    exact wpAny_execs_nil (h m' c' _ (C4.drop _ (.cons _ (List.Sublist.refl _))) hm)
end
end Mine
end
section
set_option maxRecDepth 100000
set_option autoImplicit false
namespace Mine
open PySem PySem.Float64

theorem pow1074 : (2 : Nat) ^ 1074 = 2 ^ 1073 * 2 := Nat.pow_succ ..
noncomputable def hf (z : Int) : UInt64 := Float64.ofFrac (decide (z < 0)) z.natAbs 2

theorem rep {n : Nat} (h : n ≤ 2 ^ 52) : ∃ t, t < infMag ∧ V t = n * 2 ^ 1073 := by
  by_cases h0 : n = 0
  · subst h0; exact ⟨0, by decide, by rw [V_zero, Nat.zero_mul]⟩
  · have h1 := Nat.log2_self_le h0
    have h2 : n < 2 ^ (n.log2 + 1) := Nat.lt_log2_self
    have hl : n.log2 ≤ 52 := by
      rcases Nat.lt_or_ge 52 n.log2 with z | z
      · have := Nat.pow_le_pow_right (n := 2) (by decide) z
        have h53 : (2 : Nat) ^ 53 = 2 ^ 52 * 2 := by decide
        have : (2 : Nat) ^ (52 + 1) ≤ 2 ^ n.log2 := Nat.pow_le_pow_right (by decide) z
        lia
      · exact z
    generalize n.log2 = l at h1 h2 hl
    have q1 : 2 ^ 52 ≤ n * 2 ^ (52 - l) := by
      have : 2 ^ l * 2 ^ (52 - l) ≤ n * 2 ^ (52 - l) := Nat.mul_le_mul_right _ h1
      rw [← Nat.pow_add, show l + (52 - l) = 52 by grind] at this
      exact this
    have q2 : n * 2 ^ (52 - l) < 2 ^ 53 := by
      have : n * 2 ^ (52 - l) < 2 ^ (l + 1) * 2 ^ (52 - l) := Nat.mul_lt_mul_of_pos_right h2 (Nat.two_pow_pos _)
      rw [← Nat.pow_add, show l + 1 + (52 - l) = 53 by grind] at this
      exact this
    refine ⟨(1021 + l) * 2 ^ 52 + n * 2 ^ (52 - l), ?_, ?_⟩
    · have : infMag = 2047 * 2 ^ 52 := rfl
      have h53 : (2 : Nat) ^ 53 = 2 ^ 52 * 2 := by decide
      have h3 : (1021 + l) * 2 ^ 52 ≤ 1073 * 2 ^ 52 := Nat.mul_le_mul_right _ (by lia  )
      lia
    · rw [V_at (Nat.le_of_lt q2) (.inl q1), Nat.mul_assoc, ← Nat.pow_add, show 52 - l + (1021 + l) = 1073 by grind]

theorem V_inj {t t' : Nat} (h : V t = V t') : t = t' := by
  rcases Nat.lt_trichotomy t t' with z | z | z
  · have := V_lt z; lia
  · exact z
  · have := V_lt z; lia
theorem big_pow {W : Nat} (h : W ≤ 2 ^ 1125) : ¬ (1 * ((2 ^ 54 - 1) * 2 ^ 2045) ≤ 2 * W) := by
  intro hc
  have h1 : 2 * W ≤ 2 ^ 1126 := by
    have : (2 : Nat) ^ 1126 = 2 * 2 ^ 1125 := by rw [show (1126 : Nat) = 1125 + 1 from rfl, Nat.pow_succ, Nat.mul_comm]
    lia
  have h2 : (2 : Nat) ^ 1126 < 2 ^ 2045 := Nat.pow_lt_pow_right (by decide) (by decide)
  have h3 : 1 * (2 : Nat) ^ 2045 ≤ 1 * ((2 ^ 54 - 1) * 2 ^ 2045) := by
    rw [Nat.one_mul, Nat.one_mul]
    exact Nat.le_mul_of_pos_left _ (by decide)
  grind
theorem right_exact {r : UInt64} {neg : Bool} {W t₀ : Nat} (R : Right r neg W 1) (hV : V t₀ = W) (hW : W ≤ 2 ^ 1125) : r = pack neg t₀ := by
  obtain ⟨t, hr, hle, hov, hnear⟩ := R
  have hlt : t < infMag := by
    rcases Nat.lt_or_ge t infMag with z | z
    · exact z
    · exact absurd (hov.mp (Nat.le_antisymm hle z)) (big_pow hW)
  have h1 := (hnear hlt t₀).1
  have h2 : dist W (1 * V t₀) = 0 := by rw [hV, Nat.one_mul]; unfold dist; lia
  have h3 : V t = W := by rw [h2, Nat.one_mul] at h1; unfold dist at h1; lia
  rw [hr, V_inj (h3.trans hV.symm)]

theorem half_le {n : Nat} (h : n ≤ 2 ^ 52) : n * 2 ^ 1073 ≤ 2 ^ 1125 := by
  have : n * 2 ^ 1073 ≤ 2 ^ 52 * 2 ^ 1073 := Nat.mul_le_mul_right _ h
  rw [← Nat.pow_add] at this
  exact this
theorem hf_right (z : Int) : Right (hf z) (decide (z < 0)) (z.natAbs * 2 ^ 1073) 1 :=
  ofFrac_right (by decide) (by rw [Nat.mul_one, pow1074, Nat.mul_assoc]) (by decide)
theorem hf_pack {z : Int} (h : z.natAbs ≤ 2 ^ 52) : ∃ t, t < infMag ∧ hf z = pack (decide (z < 0)) t ∧ V t = z.natAbs * 2 ^ 1073 := by
  obtain ⟨t, h1, h2⟩ := rep h
  exact ⟨t, h1, right_exact (hf_right z) h2 (half_le h), h2⟩
theorem hf_uniq {r : UInt64} {z : Int} (h : z.natAbs ≤ 2 ^ 52) (R : Right r (decide (z < 0)) (z.natAbs * 2 ^ 1073) 1) : r = hf z := by
  obtain ⟨t, h1, h2, h3⟩ := hf_pack h
  rw [h2, right_exact R h3 (half_le h)]
theorem sgn_abs (z : Int) : sgn (decide (z < 0)) z.natAbs = z := by
  unfold sgn
  by_cases h : z < 0
  · simp [h]; grind
  · simp [h]; lia
theorem hf_dec {z : Int} (h : z.natAbs ≤ 2 ^ 52) : ∃ m e, decode (hf z) = .fin (decide (z < 0)) m e ∧ val (hf z) = z * 2 ^ 1073 := by
  obtain ⟨t, h1, h2, h3⟩ := hf_pack h
  obtain ⟨m, e, h4, h5⟩ := decode_pack (decide (z < 0)) h1
  refine ⟨m, e, by rw [h2]; exact h4, ?_⟩
  rw [h2, val_pack _ h1, h3, sgn_mul, sgn_abs]
  push_cast
  rfl
theorem hf_zero : hf 0 = zero false := by decide +kernel
theorem sum_cast (a b : Int) : a * 2 ^ 1073 + b * 2 ^ 1073 = (a + b) * 2 ^ 1073 := (Int.add_mul ..).symm
theorem pow_pos_i : (0 : Int) < 2 ^ 1073 := Int.pow_pos (by decide)
theorem neg_iff (z : Int) : decide (z * 2 ^ 1073 < 0) = decide (z < 0) := by
  have hp := pow_pos_i
  generalize (2 : Int) ^ 1073 = P at hp ⊢
  by_cases h : z < 0
  · have : z * P < 0 := Int.mul_neg_of_neg_of_pos h hp
    simp [h, this]
  · have : ¬ z * P < 0 := Int.not_lt.mpr (Int.mul_nonneg (Int.not_lt.mp h) (Int.le_of_lt hp))
    simp [h, this]
theorem abs_cast (z : Int) : (z * 2 ^ 1073).natAbs = z.natAbs * 2 ^ 1073 := by
  rw [Int.natAbs_mul, Int.natAbs_pow]; rfl
theorem zero_iff (z : Int) : z * 2 ^ 1073 = 0 ↔ z = 0 := by
  have hp := pow_pos_i
  constructor
  · intro h
    rcases Int.mul_eq_zero.mp h with h | h
    · exact h
    · grind
  · rintro rfl; simp
theorem hf_add {a b : Int} (ha : a.natAbs ≤ 2 ^ 52) (hb : b.natAbs ≤ 2 ^ 52) (hc : (a + b).natAbs ≤ 2 ^ 52) : Float64.add (hf a) (hf b) = hf (a + b) := by
  obtain ⟨m, e, d1, v1⟩ := hf_dec ha
  obtain ⟨k, f, d2, v2⟩ := hf_dec hb
  obtain ⟨r1, r2⟩ := add_right d1 d2
  rw [v1, v2, sum_cast] at r1 r2
  by_cases hz : a + b = 0
  · rw [r1 ((zero_iff _).mpr hz), hz, hf_zero]
    have : (decide (a < 0) && decide (b < 0)) = false := by
      by_cases h : a < 0
      · simp [h]; lia
      · simp [h]
    rw [this]
  · have R := r2 (fun h => hz ((zero_iff _).mp h))
    rw [neg_iff, abs_cast] at R
    exact hf_uniq hc R
theorem hf_ofInt {n : Int} (h : (2 * n).natAbs ≤ 2 ^ 52) : Float64.ofInt n = hf (2 * n) := by
  refine hf_uniq h ?_
  have R := ofInt_right n
  rw [pow1074] at R
  have e1 : n.natAbs * (2 ^ 1073 * 2) = (2 * n).natAbs * 2 ^ 1073 := by
    rw [Int.natAbs_mul]; show _ = 2 * n.natAbs * 2 ^ 1073
    rw [Nat.mul_comm (2 ^ 1073) 2, ← Nat.mul_assoc, Nat.mul_comm n.natAbs 2]
  have e2 : decide (n < 0) = decide (2 * n < 0) := by
    by_cases h : n < 0
    · simp [h]; lia
    · simp [h]; lia
  rw [e1, e2] at R
  exact R
theorem hf_notInf {z : Int} (h : z.natAbs ≤ 2 ^ 52) : Float64.isInf (hf z) = false := by
  obtain ⟨m, e, d, _⟩ := hf_dec h
  unfold Float64.isInf; rw [d]
end Mine
namespace Mine
open PySem PySem.Float64
theorem hf_sub {a b : Int} (ha : a.natAbs ≤ 2 ^ 52) (hb : b.natAbs ≤ 2 ^ 52) (hc : (a - b).natAbs ≤ 2 ^ 52) : Float64.sub (hf a) (hf b) = hf (a - b) := by
  obtain ⟨m, e, d1, v1⟩ := hf_dec ha
  obtain ⟨k, f, d2, v2⟩ := hf_dec hb
  obtain ⟨r1, r2⟩ := sub_right d1 d2
  rw [v1, v2, ← Int.sub_mul] at r1 r2
  by_cases hz : a - b = 0
  · rw [r1 ((zero_iff _).mpr hz), hz, hf_zero]
    have : a = b := by lia
    subst this
    cases decide (a < 0) <;> rfl
  · have R := r2 (fun h => hz ((zero_iff _).mp h))
    rw [neg_iff, abs_cast] at R
    exact hf_uniq hc R
end Mine
end
section
set_option maxRecDepth 100000
set_option autoImplicit false
namespace Mine
open PySem PySem.W PySem.Calls PyProof.Rows PySem.Spec
section
variable {K : Frag} {a : Adr} {b : GB} {H0 : Heap} {mg mb : Str → Option Value} {A : Around} {l : List Env} {s : Shared} {prog : Program} {w : World} {E : Value → Shared → Prop}

theorem list_group (G : Gl K H0 mg mb) (F : KF K a) (S : St H0 A l s) (κ : KeyOps) (KR : KeyR κ b.rows) {y dy : Addr} {i : Nat} {q : Row} {n : Int} {t₁ t₂ : Tok} {se : Value} (hi : b.rows[i]? = some q)
    (C : Lg s.heap ((y, io a.gr dy (b.gr n t₂ q.key)) :: b.led a (b.st (.int n t₁) q.key (.ref q.r) true true true se q.key) (itO b.lst (i + 1))))
    (hHx : H0.get? b.x = none) (hHit : H0.get? b.it = none) (hz : b.rows.length < sizeLine)
    (hroom : A.depth + 3 < recursionLimit) (hh : A.handled = none) {Q : Value → Shared → Prop}
    (k : ∀ D j c' s', i < j → (∀ m q', i ≤ m → m < j → b.rows[m]? = some q' → κ.eq q.key q'.key = true) → (∀ q', b.rows[j]? = some q' → κ.eq q.key q'.key = false) → j ≤ b.rows.length → Go H0 [b.x, b.it] s s' → s.heap.get? D = none →
      After a b s'.heap [(D, lstO (refs ((b.rows.take j).drop i)) c'), (y, io a.gr dy (b.gr n t₂ q.key))] (.int n t₁) se q.key j → Q (.ref D) s') :
    wpAny (model prog w) A (call (.type "list") [.ref y]) Q E s := by
  refine list_inst G S (C.ok 0 rfl) F.mgrT F.mgrN F.grLen F.grHint (fun s1 Q1 E1 S1 h1 => grIter_spec G F (S1.around (A' := A.in1.in1) rfl) (Nat.lt_of_le_of_lt (Nat.le_add_right _ 3) hroom) h1) fun D s1 c1 g1 nD hD => ?_
  have S1 := S.go g1
  have hHD : H0.get? D = none := by
    cases z : H0.get? D with
    | none => rfl
    | some o => have := S.glob _ _ z; rw [nD] at this; cases this
  have C1 := (C.go g1).add (s := s1) (okk_lst hD) (fun p hp e => ne_nd (C.has p hp).at_ nD e)
  refine group_loop G F (S1.around (A' := A.in1) rfl) κ KR hi C1 hHD hHx hHit hz hroom hh fun j c' s2 h1 h2 h3 h4 g2 h5 => ?_
  refine ⟨rfl, k D j c' s2 h1 h2 h3 h4 ?_ nD h5⟩
  exact (g1.mono (M' := [b.x, b.it]) (fun p h => nomatch h)).step g2 fun p hp => by
    rcases List.mem_cons.mp hp with rfl | hp
    · exact .inr nD
    · exact .inl hp

inductive NumV (v : Value) (z : Int) : Prop where
  | int (n : Int) (t : Tok) (e : v = .int n t) (h : z = 2 * n)
  | float (t : Tok) (e : v = .float (hf z) t)

theorem num_sub1 {v : Value} {z : Int} (h : NumV v z) (hz : z.natAbs ≤ 2 ^ 51) {u : Tok} {Q : Value → Shared → Prop} (k : ∀ r, NumV r (z - 2) → Q r { s with toks := s.toks + 1 }) : wpAny (model prog w) A (binaryOp .Sub v (.int 1 u)) Q E s := by
  cases h with
  | int n t e h => subst e; exact P.sub_int (k _ (.int (n - 1) _ rfl (by lia  )))
  | float t e =>
    subst e
    refine sub_fi_fits (by decide) (k _ (.float s.toks ?_))
    rw [hf_ofInt (n := 1) (by decide), hf_sub (by lia  ) (by decide) (by omega)]
    rfl
theorem num_rank {v : Value} {z : Int} (h : NumV v z) (hz : z.natAbs ≤ 2 ^ 50) {m : Int} (hm : m.natAbs ≤ 2 ^ 50) {u : Tok} {Q : Value → Shared → Prop} (k : Q (.float (hf (z + m)) s.toks) { s with toks := s.toks + 1 }) : wpAny (model prog w) A (binaryOp .Add v (.float (hf m) u)) Q E s := by
  cases h with
  | int n t e h =>
    subst e
    refine add_if_fits ?_ ?_
    · have : (2 : Nat) ^ 50 < 2 ^ 1023 := Nat.pow_lt_pow_right (by decide) (by decide)
      omega
    · rw [hf_ofInt (n := n) (by grind), hf_add (by lia  ) (by lia  ) (by omega), ← h]; exact k
  | float t e =>
    subst e
    refine add_float ?_
    rw [hf_add (by lia  ) (by lia  ) (by omega)]; exact k
theorem num_step {v : Value} {z : Int} (h : NumV v z) (hz : z.natAbs ≤ 2 ^ 50) {m : Int} (hm : m.natAbs ≤ 2 ^ 49) {u : Tok} {Q : Value → Shared → Prop} (k : ∀ r, NumV r (z + 2 * m) → Q r { s with toks := s.toks + 1 }) : wpAny (model prog w) A (inplaceOp .Add v (.int m u)) Q E s := by
  cases h with
  | int n t e h => subst e; exact P.iadd_int (k _ (.int (n + m) _ rfl (by lia  )))
  | float t e =>
    subst e
    refine PySem.Flt.iadd_fi_1 ?_ ?_
    · rw [hf_ofInt (n := m) (by lia  ), hf_notInf (by lia  )]; decide
    · show Q _ _
      rw [hf_ofInt (n := m) (by lia  ), hf_add (by lia  ) (by lia  ) (by omega)]
      exact k _ (.float _ rfl)
theorem half_size {n : Int} (h : n.natAbs ≤ 2 ^ 50) {t u : Tok} {Q : Value → Shared → Prop} (k : Q (.float (hf n) s.toks) { s with toks := s.toks + 1 }) : wpAny (model prog w) A (binaryOp .Div (.int n t) (.int 2 u)) Q E s := by
  have e : Float64.ofFrac (decide (n < 0) != decide ((2 : Int) < 0)) n.natAbs (2 : Int).natAbs = hf n := by
    unfold hf
    have : (decide (n < 0) != decide ((2 : Int) < 0)) = decide (n < 0) := by cases decide (n < 0) <;> rfl
    rw [this]; rfl
  refine AutoIntOps.truediv_2 (by decide) ?_ ?_
  · rw [e, hf_notInf (by lia  )]; decide
  · show Q _ _
    rw [e]; exact k
end
end Mine
end
section
set_option maxRecDepth 100000
set_option autoImplicit false
namespace Mine
open PySem PySem.W PySem.Calls PyProof.Rows PySem.Spec

structure Grp (κ : KeyOps) (rows : List Row) (i j : Nat) : Prop where
  lt : i < j
  le : j ≤ rows.length
  same : ∀ q m q', rows[i]? = some q → i ≤ m → m < j → rows[m]? = some q' → κ.eq q.key q'.key = true
  stop : ∀ q q', rows[i]? = some q → rows[j]? = some q' → κ.eq q.key q'.key = false
noncomputable def Upto (κ : KeyOps) (rows : List Row) (j : Nat) : Prop := j = 0 ∨ ∃ i, Grp κ rows i j
noncomputable def RK (κ : KeyOps) (rows : List Row) (z : Int) (j : Nat) (rv : List Value) : Prop :=
  rv.length = rows.length ∧ ∀ (m : Nat) (q : Row), m < j → rows[m]? = some q → ∃ i0 i1 : Nat, Grp κ rows i0 i1 ∧ Upto κ rows i0 ∧ i0 ≤ m ∧ m < i1 ∧ ∃ t, rv[(posI q).toNat]? = some (.float (hf (z + i0 + i1 + 1)) t)
structure TK (rv : List Value) (n : Nat) : Prop where
  all : ∀ v ∈ rv, (∃ t, v = .int 0 t) ∨ ∃ x t, v = .float x t ∧ 0 < t ∧ t < n
  same : ∀ x t x', Value.float x t ∈ rv → Value.float x' t ∈ rv → x = x'
theorem TK.mono {rv : List Value} {n n' : Nat} (h : TK rv n) (hn : n ≤ n') : TK rv n' := ⟨fun v hv => (h.all v hv).imp id fun ⟨x, t, e, h1, h2⟩ => ⟨x, t, e, h1, Nat.lt_of_lt_of_le h2 hn⟩, h.same⟩
theorem putAll_mem {rk : Value} : ∀ {grp : List Row} {rv : List Value} {v : Value}, v ∈ putAll rk grp rv → v = rk ∨ v ∈ rv
  | [], _, _, h => .inr h
  | q :: r, rv, v, h => by
    rcases putAll_mem (grp := r) h with h | h
    · exact .inl h
    · rcases List.mem_or_eq_of_mem_set h with h | h
      · exact .inr h
      · exact .inl h
theorem TK.put {rv : List Value} {n n' : Nat} {x : UInt64} {t : Tok} {grp : List Row} (h : TK rv n) (h0 : 0 < t) (h1 : n ≤ t) (h2 : t < n') : TK (putAll (.float x t) grp rv) n' := by
  refine ⟨fun v hv => ?_, fun y u y' hy hy' => ?_⟩
  · rcases putAll_mem hv with rfl | hv
    · exact .inr ⟨x, t, rfl, h0, h2⟩
    · exact (h.mono (Nat.le_of_lt (Nat.lt_of_le_of_lt h1 h2))).all v hv
  · have key : ∀ z w, Value.float z w ∈ putAll (.float x t) grp rv → (z = x ∧ w = t) ∨ (Value.float z w ∈ rv ∧ w < n) := by
      intro z w hz
      rcases putAll_mem hz with e | hz
      · cases e; exact .inl ⟨rfl, rfl⟩
      · rcases h.all _ hz with ⟨_, e⟩ | ⟨_, _, e, _, hl⟩
        · cases e
        · cases e; exact .inr ⟨hz, hl⟩
    rcases key y u hy with ⟨rfl, rfl⟩ | ⟨a1, a2⟩ <;> rcases key y' u hy' with ⟨rfl, b1⟩ | ⟨b1, b2⟩
    · rfl
    · exact absurd b2 (Nat.not_lt.mpr h1)
    · subst b1; exact absurd a2 (Nat.not_lt.mpr h1)
    · exact h.same y u y' a1 b1
theorem putAll_get {rk : Value} {rows : List Row} (P : PosR rows) : ∀ {grp : List Row} {rv : List Value} {q : Row}, (∀ x ∈ grp, x ∈ rows ∧ 0 ≤ posI x) → q ∈ rows → 0 ≤ posI q → (posI q).toNat < rv.length →
    (q ∈ grp → (putAll rk grp rv)[(posI q).toNat]? = some rk) ∧ (q ∉ grp → (putAll rk grp rv)[(posI q).toNat]? = rv[(posI q).toNat]?)
  | [], rv, q, _, _, _, _ => ⟨fun h => (nomatch h), fun _ => rfl⟩
  | x :: r, rv, q, hg, hq, h0, hl => by
    have ih := putAll_get (rk := rk) P (grp := r) (rv := rv.set (posI x).toNat rk) (q := q) (fun y hy => hg y (.tail _ hy)) hq h0 (by simpa using hl)
    obtain ⟨hx, hx0⟩ := hg x (.head _)
    show (_ → (putAll rk r (rv.set (posI x).toNat rk))[(posI q).toNat]? = _) ∧ (_ → (putAll rk r (rv.set (posI x).toNat rk))[(posI q).toNat]? = _)
    by_cases hqr : q ∈ r
    · exact ⟨fun _ => ih.1 hqr, fun h => absurd (.tail _ hqr) h⟩
    · rw [ih.2 hqr, List.getElem?_set]
      by_cases hxq : q = x
      · subst hxq; exact ⟨fun _ => by rw [if_pos rfl, if_pos hl], fun h => absurd (.head _) h⟩
      · have : posI x ≠ posI q := fun e => hxq (P.ne x hx q hq e).symm
        exact ⟨fun h => ((List.mem_cons.mp h).elim hxq hqr).elim, fun _ => by rw [if_neg (by lia  )]⟩

section
variable (a : Adr) (b : GB) (κ : KeyOps) (H0 : Heap) (A : Around) (l : List Env) (M : List Addr) (sE : Shared) (L res : Addr) (z : Int)
noncomputable def GSt (j : Nat) (sl : List (Option Value)) (ito : Obj) : Prop :=
  (j = 0 ∧ ∃ t u, sl = b.st (.int 0 t) .none .none false false false (.int 0 u) .none ∧ ito = itO b.lst 0) ∨
  (0 < j ∧ ∃ q qp cg n t, b.rows[j]? = some q ∧ qp ∈ b.rows ∧ κ.eq qp.key q.key = false ∧ sl = b.st cg q.key (.ref q.r) true true true (.int n t) qp.key ∧ ito = itO b.lst (j + 1)) ∨
  (0 < j ∧ j = b.rows.length ∧ ∃ cg se key, sl = b.st cg .none .none false false true se key ∧ ito = itE j)
inductive RInv (j : Nat) (s : Shared) : Prop
  | mk (m : Str → Option Value) (rv : List Value) (c : Nat) (iv : Value) (sl : List (Option Value)) (ito : Obj) (hr : m "result" = some (.ref res)) (hi : m "i" = some iv) (hn : NumV iv (z + 2 * j)) (hj : j ≤ b.rows.length) (hu : Upto κ b.rows j) (hg : GSt b κ j sl ito)
    (hk : RK κ b.rows z j rv) (ht : TK rv s.toks) (C : Cx H0 A l M sE L m ((res, lstO rv c) :: b.led a sl ito) s) : RInv j s
end

section
variable {H0 : Heap} {A : Around} {l : List Env} {M : List Addr} {sE : Shared} {L : Addr} {m : Str → Option Value} {led : List (Addr × Obj)} {s : Shared}
theorem Cx.mark (C : Cx H0 A l M sE L m led s) : Cx H0 A l M { sE with toks := s.toks } L m led s := { C with go := ⟨C.go.glob, C.go.nd, C.go.up, C.go.pres, Nat.le_refl _, C.go.gens, C.go.os⟩ }
theorem Cx.unmark {n : Nat} (C : Cx H0 A l M { sE with toks := n } L m led s) (h : sE.toks ≤ n) : Cx H0 A l M sE L m led s := { C with go := ⟨C.go.glob, C.go.nd, C.go.up, C.go.pres, Nat.le_trans h C.go.toks, C.go.gens, C.go.os⟩ }
end
theorem upne {n x : Str} {v : Value} {m : Str → Option Value} {r : Option Value} (h : x ≠ n) (e : m x = r) : (updM m n v) x = r := (if_neg h).trans e
theorem upne2 {n n' x : Str} {v v' : Value} {m : Str → Option Value} {r : Option Value} (h : x ≠ n) (h' : x ≠ n') (e : m x = r) : (updM (updM m n' v') n v) x = r := (if_neg h).trans ((if_neg h').trans e)
theorem mem_grp {rows : List Row} {i j : Nat} {q : Row} (h : q ∈ (rows.take j).drop i) : ∃ m, i ≤ m ∧ m < j ∧ rows[m]? = some q := by
  obtain ⟨k, hk, e⟩ := List.mem_iff_getElem.mp h
  simp only [List.length_drop, List.length_take] at hk
  refine ⟨i + k, by lia  , by grind, ?_⟩
  rw [List.getElem_drop, List.getElem_take] at e
  rw [← e]; exact List.getElem?_eq_getElem _
theorem grp_mem {rows : List Row} {i j m : Nat} {q : Row} (h1 : i ≤ m) (h2 : m < j) (h : rows[m]? = some q) : q ∈ (rows.take j).drop i := by
  refine List.mem_of_getElem? (i := m - i) ?_
  rw [List.getElem?_drop, show i + (m - i) = m by grind, List.getElem?_take, if_pos h2, h]
theorem nodup_idx {rows : List Row} (hn : (rows.map (·.r)).Nodup) {m m' : Nat} {q : Row} (h : rows[m]? = some q) (h' : rows[m']? = some q) : m = m' := by
  rcases Nat.lt_trichotomy m m' with z | z | z
  · exfalso
    obtain ⟨a1, b1⟩ := List.getElem?_eq_some_iff.mp h
    obtain ⟨a2, b2⟩ := List.getElem?_eq_some_iff.mp h'
    exact List.pairwise_iff_getElem.mp hn m m' (by simpa using a1) (by simpa using a2) z (by simp [b1, b2])
  · exact z
  · exfalso
    obtain ⟨a1, b1⟩ := List.getElem?_eq_some_iff.mp h
    obtain ⟨a2, b2⟩ := List.getElem?_eq_some_iff.mp h'
    exact List.pairwise_iff_getElem.mp hn m' m (by simpa using a2) (by simpa using a1) z (by simp [b1, b2])
theorem RK.step {κ : KeyOps} {rows : List Row} {z : Int} {j j' : Nat} {rv : List Value} {t : Tok} (P : PosR rows) (hn : (rows.map (·.r)).Nodup) (hpn : ∀ q ∈ rows, 0 ≤ posI q ∧ (posI q).toNat < rows.length) (h : RK κ rows z j rv) (hu : Upto κ rows j) (hg : Grp κ rows j j') :
    RK κ rows z j' (putAll (.float (hf (z + j + j' + 1)) t) ((rows.take j').drop j) rv) := by
  refine ⟨by rw [putAll_length]; exact h.1, fun m q hm hq => ?_⟩
  have hqm := List.mem_of_getElem? hq
  have gm : ∀ x ∈ (rows.take j').drop j, x ∈ rows ∧ 0 ≤ posI x := fun x hx => by
    obtain ⟨m', _, _, e⟩ := mem_grp hx
    exact ⟨List.mem_of_getElem? e, (hpn x (List.mem_of_getElem? e)).1⟩
  have pg := putAll_get (rk := .float (hf (z + j + j' + 1)) t) P (grp := (rows.take j').drop j) (rv := rv) (q := q) gm hqm (hpn q hqm).1 (by rw [h.1]; exact (hpn q hqm).2)
  by_cases hmj : m < j
  · obtain ⟨i0, i1, h1, h2, h3, h4, u, h5⟩ := h.2 m q hmj hq
    refine ⟨i0, i1, h1, h2, h3, h4, u, ?_⟩
    rw [pg.2 fun hx => ?_]
    · exact h5
    · obtain ⟨m', h6, h7, h8⟩ := mem_grp hx
      have := nodup_idx hn hq h8
      lia
  · exact ⟨j, j', hg, hu, by lia  , hm, t, pg.1 (grp_mem (by lia  ) hm hq)⟩

noncomputable def rankBody : List Stmt := match dRank.2.1.getD 5 (.Pass default) with | .For _ _ b _ _ => b | _ => []

section
variable {K : Frag} {a : Adr} {b : GB} {κ : KeyOps} {H0 : Heap} {mg mb : Str → Option Value} {A : Around} {l : List Env} {M : List Addr} {sE : Shared} {L res : Addr} {s : Shared} {prog : Program} {w : World} {E : Value → Shared → Prop} {cdv : Value} {z : Int}

theorem GB.dn {L : Addr} {sl : List (Option Value)} {ito : Obj} {pre : List (Addr × Obj)} (h1 : b.dg ≠ L) (h2 : b.di ≠ L) (h3 : ito.dict = none) (hp : ∀ p ∈ pre, p.2.dict ≠ some L) : ∀ p ∈ pre ++ b.led a sl ito, p.2.dict ≠ some L := by
  intro p hp'
  rcases List.mem_append.mp hp' with h | h
  · exact hp p h
  · simp only [GB.led, List.mem_cons] at h
    rcases h with rfl | rfl | rfl | rfl | rfl | h
    · exact fun e => h1 (Option.some.inj e)
    · rw [h3]; exact fun e => by cases e
    · exact fun e => by cases e
    · exact fun e => h2 (Option.some.inj e)
    · exact fun e => by cases e
    · obtain ⟨q, _, rfl⟩ := List.mem_map.mp h
      exact fun e => by cases e

set_option maxHeartbeats 4000000 in
theorem rank_turn (G : Gl K H0 mg mb) (F : KF K a) (KR : KeyR κ b.rows) (P : PosR b.rows) (hpn : ∀ q ∈ b.rows, 0 ≤ posI q ∧ (posI q).toNat < b.rows.length) {m : Str → Option Value} {rv : List Value} {c : Nat} {iv : Value} {j : Nat} {q : Row} {n : Int} {t₁ t₂ : Tok} {y dy t : Addr} {x1 : Nat} {pu pg pt : Pos} {Qf : Flow → Shared → Prop}
    (hq : b.rows[j]? = some q) (hup : Upto κ b.rows j) (hmr : m "result" = some (.ref res)) (hmi : m "i" = some iv) (hiv : NumV iv (z + 2 * j)) (hrk : RK κ b.rows z j rv) (htk : TK rv s.toks)
    (C : Cx H0 (A.deeper (envOf "_rank" dRank.2.2 L a.rank cdv)) (envOf "_rank" dRank.2.2 L a.rank cdv :: l) M sE L m ((t, tupO [q.key, .ref y]) :: (y, io a.gr dy (b.gr n t₂ q.key)) :: (res, lstO rv c) :: b.led a (b.st (.int n t₁) q.key (.ref q.r) true true true (.int n t₁) q.key) (itO b.lst (j + 1))) s)
    (hHx : H0.get? b.x = none ∧ (b.x ∈ M ∨ sE.heap.get? b.x = none)) (hHit : H0.get? b.it = none ∧ (b.it ∈ M ∨ sE.heap.get? b.it = none)) (hres : H0.get? res = none ∧ (res ∈ M ∨ sE.heap.get? res = none)) (hz : z.natAbs ≤ 2 ^ 45) (hN : b.rows.length < 2 ^ 20)
    (hroom : A.depth + 5 < recursionLimit) (hh : A.handled = none) (hE : PassesOwn (model prog w) (A.deeper (envOf "_rank" dRank.2.2 L a.rank cdv)) (envOf "_rank" dRank.2.2 L a.rank cdv) E)
    (k : ∀ j' s', j < j' → RInv a b κ H0 (A.deeper (envOf "_rank" dRank.2.2 L a.rank cdv)) (envOf "_rank" dRank.2.2 L a.rank cdv :: l) M sE L res z j' s' → Qf .next s') :
    wpAny (model prog w) (A.deeper (envOf "_rank" dRank.2.2 L a.rank cdv)) (assign (.Tuple [.Name "_" pu, .Name "g" pg] x1 pt) (envOf "_rank" dRank.2.2 L a.rank cdv) (.ref t)) (fun _ s₂ => wpAny (model prog w) (A.deeper (envOf "_rank" dRank.2.2 L a.rank cdv)) (execs rankBody (envOf "_rank" dRank.2.2 L a.rank cdv)) Qf E s₂) E s := by
  have hjN : j < b.rows.length := (List.getElem?_eq_some_iff.mp hq).1
  have htE : sE.toks ≤ s.toks := C.go.toks
  replace C := C.mark
  refine C.unpack2 0 rfl hh fun s2 C2 => ?_
  have hdg : b.dg ≠ L := fun e => C2.dn (b.x, _) (.tail _ (.tail _ (.tail _ (.head _)))) (by rw [← e])
  have hdi : b.di ≠ L := fun e => C2.dn (b.ig, _) (.tail _ (.tail _ (.tail _ (.tail _ (.tail _ (.tail _ (.head _))))))) (by rw [← e])
  have hdy : dy ≠ L := fun e => C2.dn (y, _) (.tail _ (.head _)) (by rw [← e])
  have C3 := C2.drop ((y, io a.gr dy (b.gr n t₂ q.key)) :: b.led a (b.st (.int n t₁) q.key (.ref q.r) true true true (.int n t₁) q.key) (itO b.lst (j + 1))) (.cons _ (.cons_cons _ (.cons _ (List.Sublist.refl _))))
  refine wpAny_execs_cons (wpAny_Assign_Name (Call_ (C2.boot G F.nlist Boot.«list» (PySem.callWith_type rfl (evalArgs_plain (args_cons (C2.name (v := .ref y) rfl (args_nil ?_))))))))
  refine list_group G F C2.st κ KR hq ⟨C3.has, C3.nodup⟩ hHx.1 hHit.1 (by rw [sizeLine_eq]; lia  ) (by show A.depth + 1 + 3 < _; lia  ) hh fun D j' c' s3 hj1 hj2 hj3 hj4 g3 nD hA => ?_
  have hM3 : ∀ p ∈ [b.x, b.it], p ∈ M ∨ sE.heap.get? p = none := fun p hp => by
    rcases List.mem_cons.mp hp with rfl | hp
    · exact hHx.2
    · rw [List.mem_singleton.mp hp]; exact hHit.2
  have hgrp : Grp κ b.rows j j' := ⟨hj1, hj4, fun q0 m0 q' h1 h2 h3 h4 => by rw [hq] at h1; cases h1; exact hj2 m0 q' h2 h3 h4, fun q0 q' h1 h2 => by rw [hq] at h1; cases h1; exact hj3 q' h2⟩
  obtain ⟨sl, ito, hgst, hito, hLg⟩ : ∃ sl ito, GSt b κ j' sl ito ∧ ito.dict = none ∧ Lg s3.heap ([(D, lstO (refs ((b.rows.take j').drop j)) c'), (y, io a.gr dy (b.gr n t₂ q.key))] ++ b.led a sl ito) := by
    rcases hA with ⟨q', h1, h2⟩ | ⟨h1, h2, h3⟩
    · exact ⟨_, _, .inr (.inl ⟨by lia  , q', q, _, n, t₁, h1, List.mem_of_getElem? hq, hj3 q' h1, rfl, rfl⟩), rfl, h2⟩
    · exact ⟨_, _, .inr (.inr ⟨by lia  , h2, _, _, _, rfl, rfl⟩), rfl, h3⟩
  have had : ∀ (sl₁ sl₂ : List (Option Value)) (i₁ i₂ : Obj), (b.led a sl₁ i₁).map (·.1) = (b.led a sl₂ i₂).map (·.1) := fun _ _ _ _ => rfl
  have hxit : res ∉ [b.x, b.it] := fun hm => by
    rcases List.mem_cons.mp hm with e | hm
    · exact C2.ne (i := 2) (j := 3) rfl rfl (by decide) e
    · exact C2.ne (i := 2) (j := 4) rfl rfl (by decide) (List.mem_singleton.mp hm)
  have hresD : res ≠ D := ne_nd (C2.at 2 rfl) nD
  have hn2 : ((D, lstO (refs ((b.rows.take j').drop j)) c') :: b.led a sl ito).map (·.1) |>.Nodup := (hLg.sub (.cons_cons _ (.cons _ (List.Sublist.refl _)))).nodup
  have hresL : res ∉ (b.led a sl ito).map (·.1) := by
    have h0 := C2.nodup
    have h1 : ((res, lstO rv c) :: b.led a (b.st (.int n t₁) q.key (.ref q.r) true true true (.int n t₁) q.key) (itO b.lst (j + 1))).map (·.1) |>.Nodup := h0.sublist ((List.Sublist.cons _ (List.Sublist.cons _ (List.Sublist.refl _))).map _)
    rw [had sl (b.st (.int n t₁) q.key (.ref q.r) true true true (.int n t₁) q.key) ito (itO b.lst (j + 1))]
    exact (List.nodup_cons.mp h1).1
  have C4 := C2.goN g3 hM3 ((res, lstO rv c) :: (D, lstO (refs ((b.rows.take j').drop j)) c') :: b.led a sl ito) (fun p hp => by
    rcases List.mem_cons.mp hp with rfl | hp
    · exact (C2.ok 2 rfl).go g3 hxit
    · rcases List.mem_cons.mp hp with rfl | hp
      · exact hLg.has _ (.head _)
      · exact hLg.has _ (.tail _ (.tail _ hp))) (GB.dn (pre := [(res, lstO rv c), (D, lstO (refs ((b.rows.take j').drop j)) c')]) hdg hdi hito (fun p hp => by
    simp only [List.mem_cons, List.not_mem_nil, or_false] at hp
    rcases hp with rfl | rfl <;> exact fun e => by cases e)) (by
    rw [List.map_cons]
    refine List.nodup_cons.mpr ⟨fun hm => ?_, hn2⟩
    rcases List.mem_cons.mp hm with e | hm
    · exact hresD e
    · exact hresL hm)
  have hlen : (refs ((b.rows.take j').drop j)).length = j' - j := by simp only [refs, List.length_map, List.length_drop, List.length_take]; lia
  refine C4.set fun s5 C5 => ?_
  refine wpAny_execs_cons (wpAny_Assign_Name (Call_ (C5.boot G F.nlen Boot.«len» (callWith_builtin1 (args_cons (C5.name rfl (args_nil (PyProof.Rows.len_list ⟨_, C5.at 1 rfl, rfl, c', rfl⟩ (by rw [List.size_toArray, hlen]; lia  ) ?_))))))))
  have C6 := C5.tok 2
  rw [List.size_toArray, hlen]
  refine C6.set fun s7 C7 => ?_
  have hi7 := upne (n := "size") (x := "i") (v := .int ((j' - j : Nat) : Int) (s5.toks + 1)) (by decide) (upne (n := "group") (v := .ref D) (by decide) (upne2 (n := "g") (n' := "_") (v := .ref y) (v' := q.key) (by decide) (by decide) hmi))
  refine wpAny_execs_cons (wpAny_Assign_Name (wpAny_BinOp (C7.name hi7 (wpAny_BinOp (wpAny_BinOp (C7.name rfl (wpAny_Constant_int (PySem.P.add_int (wpAny_Constant_int (half_size (by lia  ) (num_rank hiv (by lia  ) (by lia  ) ?_)))))))))))
  have ez : z + 2 * (j : Int) + (((j' - j : Nat) : Int) + 1) = z + j + j' + 1 := by grind
  rw [ez]
  have hE7 : s.toks ≤ s7.toks := C7.go.toks
  have C8 := (C7.tok 5).mark
  refine C8.set fun s9 C9 => ?_
  have htk9 : TK (putAll (.float (hf (z + j + j' + 1)) (s7.toks + 4)) ((b.rows.take j').drop j) rv) (s7.toks + 5) :=
    htk.put (Nat.succ_pos _) (Nat.le_trans hE7 (Nat.le_add_right _ _)) (Nat.lt_succ_self _)
  have hpos9 : ∀ q' ∈ (b.rows.take j').drop j, (∃ t, q'.pos = .int (posI q') t) ∧ 0 ≤ posI q' ∧ (posI q').toNat < rv.length := fun q' hq' => by
    obtain ⟨m', _, _, e⟩ := mem_grp hq'
    have hm' := List.mem_of_getElem? e
    exact ⟨P.int q' hm', (hpn q' hm').1, by rw [hrk.1]; exact (hpn q' hm').2⟩
  have hi9 := upne (n := "rank") (x := "i") (v := .float (hf (z + j + j' + 1)) (s7.toks + 4)) (by decide) (upne (n := "size") (v := .int ((j' - j : Nat) : Int) (s5.toks + 1)) (by decide) (upne (n := "group") (v := .ref D) (by decide) (upne2 (n := "g") (n' := "_") (v := .ref y) (v' := q.key) (by decide) (by decide) hmi)))
  have hr9 := upne (n := "rank") (x := "result") (v := .float (hf (z + j + j' + 1)) (s7.toks + 4)) (by decide) (upne (n := "size") (v := .int ((j' - j : Nat) : Int) (s5.toks + 1)) (by decide) (upne (n := "group") (v := .ref D) (by decide) (upne2 (n := "g") (n' := "_") (v := .ref y) (v' := q.key) (by decide) (by decide) hmr)))
  refine wpAny_execs_cons (assign_loop (vn := "value") (pn := "orig_pos") (dn := "group") (rn := "result") (kn := "rank") (rk := .float (hf (z + j + j' + 1)) (s7.toks + 4)) C9 0 rfl (fun q' hq' => ?_) hr9 rfl rfl hpos9 (by rw [hrk.1]; lia  ) hres.2 hres.1 hh hE fun m' c9 s10 C10 hm10 => ?_)
  · obtain ⟨m', _, _, e⟩ := mem_grp hq'
    exact .tail _ (.tail _ (.tail _ (.tail _ (.tail _ (.tail _ (List.mem_map.mpr ⟨q', List.mem_of_getElem? e, rfl⟩))))))
  have hi10 : m' "i" = some iv := (hm10 "i" (by decide) (by decide)).trans hi9
  have hs10 : m' "size" = some (.int ((j' - j : Nat) : Int) (s5.toks + 1)) := (hm10 "size" (by decide) (by decide)).trans rfl
  have hr10 : m' "result" = some (.ref res) := (hm10 "result" (by decide) (by decide)).trans hr9
  refine wpAny_execs_cons (wpAny_AugAssign_Name (C10.ld (env := envOf "_rank" dRank.2.2 L a.rank cdv) rfl hi10 (C10.name hs10 (num_step hiv (by lia  ) (by lia  ) fun r hr => ?_))))
  have C11 := C10.tok 1
  refine C11.set fun s12 C12 => wpAny_execs_nil (k j' s12 hj1 ?_)
  have hnr : (b.rows.map (·.r)).Nodup := by
    have h0 : (rowL b.rows).map (·.1) |>.Nodup := C12.nodup.sublist ((List.Sublist.cons _ (List.Sublist.cons _ (List.Sublist.cons _ (List.Sublist.cons _ (List.Sublist.cons _ (List.Sublist.cons _ (List.Sublist.cons _ (List.Sublist.refl _)))))))).map _)
    unfold rowL at h0
    rw [List.map_map] at h0
    exact h0
  refine ⟨updM m' (Str.ofString "i") r, _, c9, r, sl, ito, upne (n := "i") (x := "result") (v := r) (by decide) hr10, rfl, ?_, hj4, .inr ⟨j, hgrp⟩, hgst, hrk.step P hnr hpn hup hgrp (t := s7.toks + 4), htk9.mono C12.go.toks, Cx.unmark (sE := sE) (n := s7.toks + 5) (C12.drop _ (.cons_cons _ (.cons _ (List.Sublist.refl _)))) (Nat.le_trans htE (Nat.le_trans hE7 (Nat.le_add_right _ _)))⟩
  have e : z + 2 * (j : Int) + 2 * ((j' - j : Nat) : Int) = z + 2 * (j' : Int) := by lia
  rw [← e]; exact hr
end
end Mine
end
section
set_option maxRecDepth 100000
set_option autoImplicit false
namespace Mine
open PySem PySem.W PySem.Calls PyProof.Rows PySem.Spec
section
variable {H0 : Heap} {A : Around} {l : List Env} {M : List Addr} {sE : Shared} {L : Addr} {m : Str → Option Value} {led led0 : List (Addr × Obj)} {s s0 : Shared}
theorem Cx.addF (C1 : Cx H0 A l M sE L m led s) {m0 : Str → Option Value} (C0 : Cx H0 A l M sE L m0 led0 s0) (hs : led.map (·.1) = led0.map (·.1)) {t : Addr} {o : Obj} (ht : Okk s.heap (t, o)) (nt : s0.heap.get? t = none) (hd : ∀ dx, o.dict = some dx → s0.heap.get? dx = none := by intro _ q; cases q) :
    Cx H0 A l M sE L m ((t, o) :: led) s := by
  refine C1.add ht (fun p hp => ?_) (C0.notL hd)
  have hm : p.1 ∈ led.map (·.1) := List.mem_map_of_mem hp
  rw [hs] at hm
  obtain ⟨q, hq, e⟩ := List.mem_map.mp hm
  rw [← e]; exact C0.neN nt q hq
end

section
variable {K : Frag} {a : Adr} {κ : KeyOps} {H0 : Heap} {mg mb : Str → Option Value} {A : Around} {l : List Env} {M : List Addr} {sE : Shared} {L res : Addr} {s : Shared} {prog : Program} {w : World} {E : Value → Shared → Prop} {cdv : Value} {z : Int}

set_option maxHeartbeats 4000000 in
noncomputable abbrev RI (a : Adr) (b : GB) (κ : KeyOps) (H0 : Heap) (A : Around) (l : List Env) (M : List Addr) (sE : Shared) (L res : Addr) (z : Int) : Nat → Shared → Prop := fun n' s' => ∃ j, n' = b.rows.length + 1 - j ∧ RInv a b κ H0 A l M sE L res z j s'
theorem rank_loop (G : Gl K H0 mg mb) (F : KF K a) {b : GB} (KR : KeyR κ b.rows) (P : PosR b.rows) (hpn : ∀ q ∈ b.rows, 0 ≤ posI q ∧ (posI q).toNat < b.rows.length) {x1 : Nat} {pu pg pt : Pos} {R : Result → Shared → Prop}
    (hI : RInv a b κ H0 (A.deeper (envOf "_rank" dRank.2.2 L a.rank cdv)) (envOf "_rank" dRank.2.2 L a.rank cdv :: l) M sE L res z 0 s)
    (hHx : H0.get? b.x = none ∧ (b.x ∈ M ∨ sE.heap.get? b.x = none)) (hHit : H0.get? b.it = none ∧ (b.it ∈ M ∨ sE.heap.get? b.it = none)) (hres : H0.get? res = none ∧ (res ∈ M ∨ sE.heap.get? res = none)) (hz : z.natAbs ≤ 2 ^ 45) (hN : b.rows.length < 2 ^ 20)
    (hroom : A.depth + 5 < recursionLimit) (hh : A.handled = none) (hE : PassesOwn (model prog w) (A.deeper (envOf "_rank" dRank.2.2 L a.rank cdv)) (envOf "_rank" dRank.2.2 L a.rank cdv) E)
    (k : ∀ m rv c led s', m "result" = some (.ref res) → RK κ b.rows z b.rows.length rv → TK rv s'.toks → Cx H0 (A.deeper (envOf "_rank" dRank.2.2 L a.rank cdv)) (envOf "_rank" dRank.2.2 L a.rank cdv :: l) M sE L m ((res, lstO rv c) :: led) s' → R (.ok .next) s')
    (kE : ∀ e s', cameBackBy (model prog w) (A.deeper (envOf "_rank" dRank.2.2 L a.rank cdv)) (envOf "_rank" dRank.2.2 L a.rank cdv) E e s' → R (.error e) s') :
    codeAny (model prog w) (A.deeper (envOf "_rank" dRank.2.2 L a.rank cdv)) (.forLoop (.Tuple [.Name "_" pu, .Name "g" pg] x1 pt) (.ref b.x) rankBody [] (envOf "_rank" dRank.2.2 L a.rank cdv)) R s := by
  have toE : ∀ {α : Type} {t : Sem α} {Q : α → Shared → Prop} {s : Shared}, wpAny (model prog w) (A.deeper (envOf "_rank" dRank.2.2 L a.rank cdv)) t Q E s →
      wpAny (model prog w) (A.deeper (envOf "_rank" dRank.2.2 L a.rank cdv)) t Q (eNote prog w (A.deeper (envOf "_rank" dRank.2.2 L a.rank cdv)) (envOf "_rank" dRank.2.2 L a.rank cdv) R) s := fun {α t Q s} h =>
    wpAny_mono (wpAny_passesOwn hE h) (fun _ _ z => z) fun e s' h => wpAny_mono h (fun _ s'' h' => kE e s'' h') fun e' s'' h' => kE e' s'' h'
  refine codeAny_forLoop_any (RI a b κ H0 (A.deeper (envOf "_rank" dRank.2.2 L a.rank cdv)) (envOf "_rank" dRank.2.2 L a.rank cdv :: l) M sE L res z) ?_ (b.rows.length + 1) ⟨0, rfl, hI⟩
  rintro n' s1 ⟨j, rfl, m, rv, c, iv, sl, ito, hmr, hmi, hiv, hjN, hup, hg, hrk, htk, C⟩
  have next : ∀ j' s', j < j' → RInv a b κ H0 (A.deeper (envOf "_rank" dRank.2.2 L a.rank cdv)) (envOf "_rank" dRank.2.2 L a.rank cdv :: l) M sE L res z j' s' → ∃ n, n < b.rows.length + 1 - j ∧ RI a b κ H0 (A.deeper (envOf "_rank" dRank.2.2 L a.rank cdv)) (envOf "_rank" dRank.2.2 L a.rank cdv :: l) M sE L res z n s' := by
    intro j' s' h1 h2
    have : j' ≤ b.rows.length := by obtain ⟨_, _, _, _, _, _, _, _, _, h, _⟩ := h2; exact h
    exact ⟨b.rows.length + 1 - j', by grind, j', rfl, h2⟩
  have turn : ∀ {q : Row} {n : Int} {t₁ t₂ : Tok} {y dy t : Addr} {s2 : Shared} {iv' : Value}, b.rows[j]? = some q → s1.toks ≤ s2.toks →
      Cx H0 (A.deeper (envOf "_rank" dRank.2.2 L a.rank cdv)) (envOf "_rank" dRank.2.2 L a.rank cdv :: l) M sE L m ((t, tupO [q.key, .ref y]) :: (y, io a.gr dy (b.gr n t₂ q.key)) :: (res, lstO rv c) :: b.led a (b.st (.int n t₁) q.key (.ref q.r) true true true (.int n t₁) q.key) (itO b.lst (j + 1))) s2 →
      wpAny (model prog w) (A.deeper (envOf "_rank" dRank.2.2 L a.rank cdv)) (letOwnedTupleGo (.Tuple [.Name "_" pu, .Name "g" pg] x1 pt) (.ref b.x) (.ref t)) (qTake prog w (A.deeper (envOf "_rank" dRank.2.2 L a.rank cdv)) (.Tuple [.Name "_" pu, .Name "g" pg] x1 pt) rankBody (envOf "_rank" dRank.2.2 L a.rank cdv) (RI a b κ H0 (A.deeper (envOf "_rank" dRank.2.2 L a.rank cdv)) (envOf "_rank" dRank.2.2 L a.rank cdv :: l) M sE L res z) (b.rows.length + 1 - j) R (.ref t)) (eNote prog w (A.deeper (envOf "_rank" dRank.2.2 L a.rank cdv)) (envOf "_rank" dRank.2.2 L a.rank cdv) R) s2 := by
    intro q n t₁ t₂ y dy t s2 _ hq htk2 C2
    refine own_inst (C2.at 3 rfl) ?_
    refine toE (wpAny_mono (rank_turn G F KR P hpn hq hup hmr hmi hiv hrk (htk.mono htk2) C2 hHx hHit hres hz hN hroom hh hE
      (Qf := qTurn (RI a b κ H0 (A.deeper (envOf "_rank" dRank.2.2 L a.rank cdv)) (envOf "_rank" dRank.2.2 L a.rank cdv :: l) M sE L res z) (b.rows.length + 1 - j) R) next) (fun _ s3 h3 => toE h3) fun _ _ z => z)
  have hM3 : ∀ p ∈ [b.x, b.it], p ∈ M ∨ sE.heap.get? p = none := fun p hp => by
    rcases List.mem_cons.mp hp with rfl | hp
    · exact hHx.2
    · rw [List.mem_singleton.mp hp]; exact hHit.2
  have fin : ∀ {M' : List Addr} {e : Addr} {a0 : Value} {led' : List (Addr × Obj)} {s' : Shared}, j = b.rows.length → Fly H0 M' s1 (envOf "_rank" dRank.2.2 L a.rank cdv :: l) e (.type "StopIteration") a0 led' s' → (∀ p ∈ M', p ∈ [b.x, b.it]) → R (.ok .next) s' := by
    intro M' e a0 led' s' hj Fl hM'
    have C2 := C.drop [(res, lstO rv c)] (.cons_cons _ (List.nil_sublist _))
    have C3 := C2.goN Fl.go (fun p hp => hM3 p (hM' p hp)) [(res, lstO rv c)] (fun p hp => by
      rw [List.mem_singleton.mp hp]
      refine (C2.ok 0 rfl).go Fl.go (fun hm => ?_)
      rcases List.mem_cons.mp (hM' _ hm) with e | h
      · exact C.ne (i := 0) (j := 1) rfl rfl (by decide) e
      · exact C.ne (i := 0) (j := 2) rfl rfl (by decide) (List.mem_singleton.mp h)) C2.dn C2.nodup
    exact k m rv c [] s' hmr (by rw [← hj]; exact hrk) (htk.mono Fl.toks) C3
  rcases hg with ⟨rfl, t, u, rfl, rfl⟩ | ⟨hj0, q, qp, cg, n, t, hq, hqp, hne, rfl, rfl⟩ | ⟨hj0, hjl, cg, se, key, rfl, rfl⟩
  · cases hq : b.rows[0]? with
    | none =>
      refine next_inst (C.st.X G) (C.ok 1 rfl) F.mgbN ?_
      have hN0 : 0 = b.rows.length := by have := List.getElem?_eq_none_iff.mp hq; lia
      refine gbNext_end G F C.st (C.ok 1 rfl) (C.at 2 rfl) (C.at 3 rfl) hHx.1 hHit.1 (refs_none hq) (by show A.depth + 1 + 2 < _; lia  ) hh fun e a0 s2 F2 => ?_
      exact stop_fly F2 (wpAny_execs_nil (fin hN0 F2 fun p hp => hp))
    | some q =>
      have hqm := List.mem_of_getElem? hq
      have Z := Lg.step (K := K) (H0 := H0) (s := s1) (pre := [(res, lstO rv c)]) (i := 0) (q := q) ⟨C.has, C.nodup⟩ hq hHx.1 hHit.1
      refine next_inst (C.st.X G) (C.ok 1 rfl) F.mgbN ?_
      refine gbNext_first G F C.st Z (κ.hd _ (KR.all q hqm).1) (by show A.depth + 1 + 3 < _; lia  ) hh fun y dy t u' s2 g2 ox hit oy ot ny ndy nt hyt => ?_
      have C2 := C.callAt2 1 2 rfl rfl (by decide) g2 ox (okk_it hit) hM3 rfl rfl
      have C3 := C2.addF C (by rw [set_map_fst (i := 2) rfl, set_map_fst (i := 1) rfl]) oy ny (hd := fun dx e => by cases e; exact ndy)
      have C4 := C3.add ot (fun p hp => by
        rcases List.mem_cons.mp hp with rfl | hp
        · exact hyt
        · have hm : p.1 ∈ _ := List.mem_map_of_mem (f := (·.1)) hp
          rw [set_map_fst (i := 2) rfl, set_map_fst (i := 1) rfl] at hm
          obtain ⟨p', hp', e⟩ := List.mem_map.mp hm
          rw [← e]; exact C.neN nt p' hp') (by intro e; cases e)
      exact turn (iv' := iv) hq g2.toks C4
  · refine next_inst (C.st.X G) (C.ok 1 rfl) F.mgbN ?_
    have hqm := List.mem_of_getElem? hq
    have C0 := C.drop (b.led a (b.st cg q.key (.ref q.r) true true true (.int n t) qp.key) (itO b.lst (j + 1))) (.cons _ (List.Sublist.refl _))
    refine gbNext_more G F C.st κ C0.has C0.nodup hHx.1 (KR.all q hqm).1 (KR.all qp hqp).1 (KR.all q hqm).2 (KR.all qp hqp).2 (KR.tok qp hqp q hqm) hne (κ.hd _ (KR.all q hqm).1) (κ.hd _ (KR.all qp hqp).1) (by show A.depth + 1 + 2 < _; lia  ) fun y dy t' u' s2 g2 ox oy ot hl ny ndy nt hyt => ?_
    have C2 := C.callAt 1 rfl g2 ox hHx.2 (C.dn (b.x, io a.gb b.dg (b.st cg q.key (.ref q.r) true true true (.int n t) qp.key)) (.tail _ (.head _)))
    have C3 := C2.addF C (by rw [set_map_fst (i := 1) rfl]) oy ny (hd := fun dx e => by cases e; exact ndy)
    have C4 := C3.add ot (fun p hp => by
      rcases List.mem_cons.mp hp with rfl | hp
      · exact hyt
      · have hm : p.1 ∈ _ := List.mem_map_of_mem (f := (·.1)) hp
        rw [set_map_fst (i := 1) rfl] at hm
        obtain ⟨p', hp', e⟩ := List.mem_map.mp hm
        rw [← e]; exact C.neN nt p' hp') (by intro e; cases e)
    exact turn (iv' := iv) hq g2.toks C4
  · refine next_inst (C.st.X G) (C.ok 1 rfl) F.mgbN ?_
    refine gbNext_endE G F C.st (C.ok 1 rfl) (C.at 2 rfl) hHx.1 (by show A.depth + 1 + 2 < _; lia  ) hh fun e a0 s2 F2 => ?_
    exact stop_fly F2 (wpAny_execs_nil (fin hjl F2 fun p hp => by rw [List.mem_singleton.mp hp]; exact .head _))
end
end Mine
end
section
set_option maxRecDepth 100000
set_option autoImplicit false
namespace Mine
open PySem PySem.W PySem.Calls PyProof.Rows PySem.Spec
section
variable {prog : Program} {w : World} {A : Around} {E : Value → Shared → Prop} {s : Shared}
theorem mul_list1 {l : Addr} {v : Value} {n : Nat} {x : Int} {u : Tok} {Q : Value → Shared → Prop} (hl : s.heap.get? l = some (lstO [v])) (hx : x = (n : Int)) (hn : n ≤ 1000)
    (h : Q (.ref s.heap.objs.size) { s with heap := s.heap.push (lstO (List.replicate n v)) }) : wpAny (model prog w) A (binaryOp .Mult (.ref l) (.int x u)) Q E s := by
  have hxn : x.toNat = n := by rw [hx]; rfl
  have e : List.foldl (fun x1 x2 => x1 ++ x2) (#[] : Array Value) (List.replicate (if ([v] : List Value).toArray.isEmpty = true then 0 else x.toNat) [v].toArray) = (List.replicate n v).toArray := by
    rw [listMul_foldl_if]
    have : ∀ k : Nat, (List.replicate k [v]).flatten = List.replicate k v := fun k => by
      induction k with
      | zero => rfl
      | succ k ih => rw [List.replicate_succ, List.flatten_cons, ih]; rfl
    show ((List.replicate x.toNat [v]).flatten).toArray = _
    rw [this, hxn]
  have h63 : ((2 : Nat) ^ 63 - 1) / 8 = 1152921504606846975 := by decide
  have c1 : ¬(!Builtin.List.listFitsIndex x) = true := by
    have : Builtin.List.listFitsIndex x = true := fitsIndex_of (by lia  ) (by have : (1000 : Int) < 2 ^ 63 := by decide
                                                                              lia  )
    rw [this]; decide
  have c2 : ¬([v] : List Value).toArray.size * x.toNat > (2 ^ 63 - 1) / 8 := by rw [h63, hxn]; show ¬ 1 * n > _; lia
  have c3 : ¬Builtin.List.listTooLong (([v] : List Value).toArray.size * x.toNat) = true := by
    rw [hxn]; show ¬ Builtin.List.listTooLong (1 * n) = true
    simp only [Builtin.List.listTooLong, sizeLine_eq, decide_eq_true_eq]; lia
  clear hx
  refine wpAny_binaryOp_repeat_ref (T := "list") (U := "int") (by decide) ⟨_, hl, rfl⟩ (fun s' => typeIs_int s' x u) noFill_list_mul PySem.F.fills_int_mul PySem.F.slot_int_rmul repeat_list PySem.F.slot_int_index.lookup
    (call_meets PySem.F.slot_int_rmul (typeIs_int s x u) PySem.F.entry_int_rmul (PySem.F.args_int_rmul_2 _ _) (int___rmul___int_list x u l _ 0) ⟨hl, rfl, ⟨_, hl, rfl⟩, ?_⟩)
  refine call_meets PySem.F.slot_list_mul ⟨_, hl, rfl⟩ PySem.F.entry_list_mul (PySem.F.args_list_mul_2 _ _) (AutoListH.list___mul___list_int_3 l _ 0 x u c1 c2 c3) ⟨hl, ?_⟩
  rw [e]; exact h
end
end Mine
end
section
set_option maxRecDepth 100000
set_option autoImplicit false
namespace Mine
open PySem PySem.W PySem.Calls PyProof.Rows PySem.Spec
section
variable {H0 : Heap} {A : Around} {l : List Env} {M : List Addr} {sE : Shared} {L : Addr} {m m' : Str → Option Value} {led led' : List (Addr × Obj)} {s s' : Shared}

noncomputable def wiped (s : Shared) (L : Addr) : Shared := { s with heap := s.heap.update L fun o => { o with data := .freed } }
theorem wiped_at {L b : Addr} {o : Obj} (h : (wiped s L).heap.get? b = some o) : b ≠ L ∧ s.heap.get? b = some o := by
  by_cases e : b = L
  · subst e
    exfalso
    unfold wiped at h
    simp only [Heap.update, Heap.get?, Array.getElem?_modify] at h
    cases q : s.heap.objs[b]? with
    | none => simp [q] at h
    | some o' => simp [q] at h
  · refine ⟨e, ?_⟩
    rw [← h]; exact (Heap.get?_update_other _ _ (fun q => e q.symm)).symm
theorem wiped_of {L b : Addr} (e : b ≠ L) : (wiped s L).heap.get? b = s.heap.get? b := Heap.get?_update_other _ _ (fun q => e q.symm)
theorem wiped_none {L : Addr} : (wiped s L).heap.get? L = none := by
  cases q : (wiped s L).heap.get? L with
  | none => rfl
  | some o => exact absurd rfl (wiped_at q).1
theorem Cx.rebase (C : Cx H0 A l M sE L m led s) : Cx H0 A l [] (wiped s L) L m led s :=
  { C with
    go := ⟨fun _ => C.st.glob, fun b o e _ _ => (wiped_at e).2, fun b o _ _ e _ => ⟨o.slots, (wiped_at e).2⟩, fun b o e hn => ⟨o, (wiped_at e).2, hn⟩, Nat.le_refl _, fun h => h, rfl⟩
    new := wiped_none }
theorem Cx.unbase (C : Cx H0 A l M sE L m led s) (C' : Cx H0 A l [] (wiped s L) L m' led' s') : Cx H0 A l M sE L m' led' s' := by
  have ne : ∀ {b o}, sE.heap.get? b = some o → b ≠ L := fun e q => by rw [q, C.new] at e; cases e
  refine { C' with
    new := C.new
    go := ⟨fun _ => C'.st.glob, fun b o e hm hn => C'.go.nd b o ((wiped_of (ne e)).trans (C.go.nd b o e hm hn)) (fun h => nomatch h) hn, fun b o es n e hd => ?_, fun b o e hn => ?_, Nat.le_trans C.go.toks C'.go.toks, fun h => C'.go.gens (C.go.gens h), C'.go.os.trans C.go.os⟩ }
  · obtain ⟨sl, h1⟩ := C.go.up b o es n e hd
    obtain ⟨sl', h2⟩ := C'.go.up b _ es n ((wiped_of (ne e)).trans h1) hd
    exact ⟨sl', h2⟩
  · obtain ⟨o', h1, h2⟩ := C.go.pres b o e hn
    exact C'.go.pres b o' ((wiped_of (ne e)).trans h1) h2
theorem Cx.frame (C' : Cx H0 A l [] (wiped s L) L m' led' s') {p : Addr × Obj} (h : Okk s.heap p) (hL : p.1 ≠ L) (hd : p.2.dict ≠ some L) : Okk s'.heap p := by
  have : Okk (wiped s L).heap p := ⟨(wiped_of hL).trans h.at_, h.nd, fun dx e => by
    obtain ⟨o, h1, h2⟩ := h.dx dx e
    exact ⟨o, (wiped_of (fun q => hd (by rw [e, q]))).trans h1, h2⟩⟩
  exact this.go C'.go (fun h => nomatch h)
theorem Cx.neL (C : Cx H0 A l M sE L m led s) {p : Addr × Obj} (h : Okk s.heap p) : p.1 ≠ L := fun e => by
  obtain ⟨o, es, n, h1, h2⟩ := ns_dict C.ns
  have := h.at_
  rw [e, h1] at this; cases this
  exact h.nd _ _ h2
end

structure Drawn (prog : Program) (w : World) (H0 : Heap) (A : Around) (l : List Env) (κ : KeyOps) (v : Value) (d n : Nat) (M : List Addr) (sE s0 s : Shared) (I : Addr) (own chg : List Addr) (Inv Fi : List Value → Shared → Prop) : Prop where
  src : Src prog w H0 l d I own chg n Inv Fi
  own : ∀ p ∈ own, s.heap.get? p = none ∨ ∃ o, s0.heap.get? p = some o
  chg : ∀ p ∈ chg, p ∈ M ∨ sE.heap.get? p = none
  hit : ∀ (A' : Around) (Q : Value → Shared → Prop) (E : Value → Shared → Prop), A'.handled = A.handled → A'.depth = A.depth → A'.frames = A.frames → (∀ s1, Go H0 [] s s1 → Inv [] s1 → Q (.ref I) s1) → wpAny (model prog w) A' (pyIter v) Q E s
  keys : ∀ (rows : List Row) s', rows.length = n → Fi (rows.map (·.key)) s' → KeyR κ rows
end Mine
end
section
set_option maxRecDepth 100000
set_option autoImplicit false
namespace Mine
open PySem PySem.W PySem.Calls PyProof.Rows PySem.Spec
section
variable {K : Frag} {a : Adr} {κ : KeyOps} {H0 : Heap} {mg mb : Str → Option Value} {A : Around} {l : List Env} {M : List Addr} {sE : Shared} {L : Addr} {m : Str → Option Value} {led : List (Addr × Obj)} {s : Shared} {prog : Program} {w : World} {E : Value → Shared → Prop} {cdv : Value} {z : Int}

theorem perm7 {α : Type} {a b c d e f g : α} {r : List α} : (e :: b :: a :: g :: d :: c :: f :: r).Perm (a :: b :: c :: d :: e :: f :: g :: r) := by
  haveI : DecidableEq α := fun a b => Classical.propDecidable (a = b)
  refine List.perm_iff_count.mpr fun p => ?_
  simp only [List.count_cons]
  lia
theorem Cx.perm (C : Cx H0 A l M sE L m led s) {led' : List (Addr × Obj)} (h : led'.Perm led) : Cx H0 A l M sE L m led' s :=
  { C with has := fun p hp => C.has p (h.mem_iff.mp hp), dn := fun p hp => C.dn p (h.mem_iff.mp hp), nodup := (h.map _).nodup_iff.mpr C.nodup }

set_option maxHeartbeats 4000000 in
theorem rank_tail (G : Gl K H0 mg mb) (F : KF K a) {v sv : Value} {rv : Bool} {n d : Nat} {P : List Value → Shared → Prop} {Qf : Flow → Shared → Prop}
    (C : Cx H0 (A.deeper (envOf "_rank" dRank.2.2 L a.rank cdv)) (envOf "_rank" dRank.2.2 L a.rank cdv :: l) M sE L m led s)
    (hmd : m "data" = some v) (hmv : m "reverse" = some (.bool rv)) (hms : m "start" = some sv) (hsv : NumV sv (z + 2)) (hz : z.natAbs ≤ 2 ^ 45) (hn : n < 64)
    (draw : ∀ s1, Go H0 [] s s1 → ∃ I own chg Inv Fi, Drawn prog w H0 (A.deeper (envOf "_rank" dRank.2.2 L a.rank cdv)) (envOf "_rank" dRank.2.2 L a.rank cdv :: l) κ v d n M sE s s1 I own chg Inv Fi ∧ ∀ acc s', Fi acc s' → P acc s')
    (hroom : A.depth + 5 + d < recursionLimit) (hh : A.handled = none) (hE : PassesOwn (model prog w) (A.deeper (envOf "_rank" dRank.2.2 L a.rank cdv)) (envOf "_rank" dRank.2.2 L a.rank cdv) E)
    (k : ∀ m' res rvals c (rows rows' : List Row) s2 s', rows.length = n → (∀ (j : Nat) (q : Row), rows[j]? = some q → ∃ t, q.pos = .int j t) → P (rows.map (·.key)) s2 → KeyR κ rows → rows'.Perm rows → OrdR κ rv rows' → RK κ rows' z n rvals → TK rvals s'.toks →
      Cx H0 (A.deeper (envOf "_rank" dRank.2.2 L a.rank cdv)) (envOf "_rank" dRank.2.2 L a.rank cdv :: l) M sE L m' [(res, lstO rvals c)] s' → Nw H0 sE res → (∀ p, Okk s2.heap p → p.2.dict ≠ some L → Okk s'.heap p ∧ p.1 ≠ res) → Qf (.ret (.ref res)) s') :
    wpAny (model prog w) (A.deeper (envOf "_rank" dRank.2.2 L a.rank cdv)) (execs (dRank.2.1.drop 2) (envOf "_rank" dRank.2.2 L a.rank cdv)) Qf E s := by
  refine wpAny_execs_cons (wpAny_Assign_Name (wpAny_Call_Name_kw ?_))
  refine C.boot G F.nsorted Boot.sorted (callWith_kw (args_cons (Call_ ?_)))
  refine C.boot G F.nzip Boot.zip (PySem.callWith_type rfl (evalArgs_plain (args_cons (C.name hmd (args_cons (Call_ ?_))))))
  refine C.global G F.nct (callWith_K0 (C.st.X G) F.kct (wpAny_call (ct_make G F C.st (by show A.depth + 1 + 2 < _; lia  ) fun ct dct t u s1 g1 oct nct ndct => args_nil ?_)))
  have C1 := C.call g1
  obtain ⟨I, own, chg, Inv, Fi, D, hFi⟩ := draw s1 g1
  have hcto : ct ∉ own := fun hm => (D.own ct hm).elim (fun e => by have := oct.at_; rw [e] at this; cases this) fun ⟨o, e⟩ => by rw [nct] at e; cases e
  have nwct := C.noE nct
  refine zip_make G F C1.st D.src oct nwct.h hcto (by show A.depth + 1 < _; lia  ) D.hit fun b s2 hb1 hb2 hb3 g2 Z nz hbH => ?_
  have C2 := C1.call g2
  refine args_nil (kws_cons (C2.name hmv (kws_nil ?_)))
  rw [← hb1] at hcto nwct
  have hbz : ∀ p ∈ [b.z, b.TI, b.TO], Nw H0 sE p := fun p hp => C1.noE (nz p hp)
  have hM : ∀ p ∈ b.M chg, p ∈ M ∨ sE.heap.get? p = none := fun p hp => by
    simp only [ZA.M, List.mem_cons] at hp
    rcases hp with rfl | rfl | rfl | hp
    · exact .inr (hbz _ (by simp)).e
    · exact .inr (hbz _ (by simp)).e
    · exact .inr nwct.e
    · exact D.chg p hp
  subst hb3
  refine sorted_zip G F C2.st κ D.src Z hbH hn hh (by show A.depth + 1 + d < _; lia  ) (by show A.depth + 1 < _; lia  ) D.keys fun dl rows rows' n' s3 hN hpos hfi hperm hord g3 L3 nrow ndl => ?_
  have KR := D.keys rows s3 hN hfi
  have C3 := C2.goN g3 hM _ L3.has (fun p hp => by
    rcases List.mem_cons.mp hp with rfl | hp
    · exact fun e => by cases e
    · obtain ⟨q, _, rfl⟩ := List.mem_map.mp hp
      exact fun e => by cases e) L3.nodup
  have CR := C3.rebase
  refine CR.set fun s4 CB => ?_
  refine wpAny_execs_cons (wpAny_Assign_Name (wpAny_BinOp (CB.name (upne (n := "val_pos") (x := "start") (v := .ref dl) (by decide) hms) (wpAny_Constant_int (num_sub1 hsv (by grind) fun iv hiv => ?_)))))
  have CB1 := CB.tok 2
  refine CB1.set fun s5 C5 => ?_
  have hNr : rows'.length = n := by rw [hperm.length_eq]; exact hN
  have hlen : (refs rows').length = n := by simp [refs, hNr]
  refine wpAny_execs_cons (wpAny_Assign_Name (wpAny_BinOp (lst_made (args_cons (wpAny_Constant_int (args_nil ?_))))))
  refine ⟨H0, _, _, [], wiped s3 L, L, _, _, C5.tok 1, by rw [sizeLine_eq]; show 1 ≤ _; decide, fun t0 s6 C6 nt0 nt0' => ?_⟩
  refine Call_ (C6.boot G F.nlen Boot.«len» (callWith_builtin1 (args_cons (C6.name rfl (args_nil (PyProof.Rows.len_list ⟨_, C6.at 1 rfl, rfl, _, rfl⟩ (by rw [List.size_toArray, hlen]; lia  ) ?_))))))
  have C7 := C6.tok 2
  rw [List.size_toArray, hlen]
  refine mul_list1 (n := n) (C7.at 0 rfl) rfl (by lia  ) ?_
  have C8 := C7.push (lstO (List.replicate n (.int 0 (s5.toks)))) rfl nd_seq rfl
  have nwr := C7.noE not_at
  show wpAny _ _ (storeName _ _ (.ref s6.heap.objs.size)) _ _ _
  change Nw H0 (wiped s3 L) s6.heap.objs.size at nwr
  change Cx _ _ _ _ _ _ _ ((s6.heap.objs.size, _) :: _) _ at C8
  generalize s6.heap.objs.size = res at C8 nwr ⊢
  have nresE : sE.heap.get? res = none := by
    cases q : sE.heap.get? res with
    | none => rfl
    | some o =>
      obtain ⟨o', h1⟩ := C3.go.there _ _ q
      have : res ≠ L := fun e => by rw [e, C3.new] at q; cases q
      have h2 := (wiped_of (s := s3) this).trans h1
      rw [nwr.e] at h2; cases h2
  have nres : Nw H0 sE res := ⟨nresE, nwr.h⟩
  refine C8.set fun s9 C9 => ?_
  refine wpAny_execs_cons (wpAny_For ?_)
  refine wpAny_Call_Name_kw (C9.global G F.ngb (callWith_KW (C9.st.X G) F.kgb rfl (args_cons (C9.name (v := .ref dl) rfl (args_nil (kws_cons ?_))))))
  refine C9.callFn G F.nig F.kig (args_cons (wpAny_Constant_int (args_nil ⟨(C9.tok 1).st.X G, wpAny_call (ig_make G F (C9.tok 1).st (by show A.depth + 1 + 1 < _; lia  ) fun ig di tp s10 g10 oig otp nig ndig ntp hitp => kws_nil ?_)⟩)))
  have D1 := (C9.tok 1).callN g10 oig nig (fun dx e => by cases e; exact ndig)
  have D2 := D1.add (okk_tup otp) (fun p hp => by
    rcases List.mem_cons.mp hp with rfl | hp
    · exact hitp
    · exact (C9.tok 1).neN ntp p hp) (by intro e; cases e)
  refine ⟨D2.st.X G, wpAny_call (gb_make G F D2.st (D2.at 4 rfl) (by show A.depth + 1 + 1 < _; lia  ) fun x dx it t1 u1 s11 g11 ox oit nx ndx nit hxit => ?_)⟩
  have D3 := D2.callN g11 ox nx (fun dx e => by cases e; exact ndx)
  have D4 := D3.add (okk_it oit) (fun p hp => by
    rcases List.mem_cons.mp hp with rfl | hp
    · exact hxit
    · exact D2.neN nit p hp) (by intro e; cases e)
  have nwx := D2.noE nx
  have nwit := D2.noE nit
  have hxO : Okk s11.heap (x, _) := ox
  refine iter_inst (D4.st.X G) ox F.mgbT F.mgbN (gbIter_spec G F D4.st (by show A.depth + 1 < _; lia  ) fun s12 g12 => ⟨rfl, (D4.st.go g12).X G, ox.go g12 (fun h => nomatch h), ?_⟩)
  have D5 := D4.call g12
  have PR : PosR rows := rowsPos hpos
  have PR' : PosR rows' := ⟨fun q hq => PR.int q (hperm.mem_iff.mp hq), fun q hq q' hq' => PR.ne q (hperm.mem_iff.mp hq) q' (hperm.mem_iff.mp hq')⟩
  have hpn : ∀ q ∈ rows', 0 ≤ posI q ∧ (posI q).toNat < rows'.length := fun q hq => by
    obtain ⟨j, hj, e⟩ := List.mem_iff_getElem.mp (hperm.mem_iff.mp hq)
    obtain ⟨t', ht'⟩ := hpos j q (by rw [List.getElem?_eq_getElem hj, e])
    have : posI q = j := by unfold posI; rw [ht']
    rw [this]; exact ⟨by lia  , by lia  ⟩
  have KR' : KeyR κ rows' := ⟨fun q hq => KR.all q (hperm.mem_iff.mp hq), fun q hq q' hq' => KR.tok q (hperm.mem_iff.mp hq) q' (hperm.mem_iff.mp hq')⟩
  have D6 := D5.perm (led' := (res, lstO (List.replicate n (.int 0 s5.toks))) :: (x, io a.gb dx (gbS (Value.int 0 t1) Value.none Value.none false false false (Value.ref it) (Value.ref ig) (Value.int 0 u1) Value.none)) :: (it, itO dl 0) :: (dl, lstO (refs rows') n') :: (ig, io a.ig di [some (Value.ref tp)]) :: (tp, tupO [Value.int 0 s9.toks]) :: (t0, lstO [Value.int 0 s5.toks]) :: rowL rows') perm7
  have D7 := D6.drop (_ :: _ :: _ :: _ :: _ :: _ :: rowL rows') (.cons_cons _ (.cons_cons _ (.cons_cons _ (.cons_cons _ (.cons_cons _ (.cons_cons _ (.cons _ (List.Sublist.refl _))))))))
  refine rank_loop (b := ⟨x, dx, it, dl, ig, di, tp, s9.toks, n', rows'⟩) (κ := κ) (z := z) (res := res) (M := []) (sE := wiped s3 L) (E := E) G F KR' PR' hpn ⟨_, _, _, iv, _, _, ?_, ?_, ?_, Nat.zero_le _, .inl rfl, .inl ⟨rfl, t1, u1, rfl, rfl⟩, ⟨?_, fun m q hm => absurd hm (Nat.not_lt_zero _)⟩, ⟨fun v hv => ?_, fun x t x' hv => ?_⟩, D7⟩ ⟨nwx.h, .inr nwx.e⟩ ⟨nwit.h, .inr nwit.e⟩ ⟨nwr.h, .inr nwr.e⟩ hz (by show rows'.length < _; lia  ) (by lia  ) hh hE ?_ fun e s' h => h
  · rfl
  · rfl
  · have : z + 2 * ((0 : Nat) : Int) = z + 2 - 2 := by lia
    rw [this]; exact hiv
  · rw [List.length_replicate]; exact hNr.symm
  · exact .inl ⟨_, (List.eq_of_mem_replicate hv)⟩
  · have := List.eq_of_mem_replicate hv
    cases this
  · intro m' rvals c led' s' hm' hrk htk CF
    refine wpAny_execs_cons (wpAny_Return_some (CF.name hm' ?_))
    have CU := C3.unbase (CF.drop [(res, lstO rvals c)] (.cons_cons _ (List.nil_sublist _)))
    refine k m' res rvals c rows rows' s3 s' hN hpos (hFi _ _ hfi) KR hperm hord (by rw [← hNr]; exact hrk) htk CU nres fun p hp hpd => ⟨CF.frame hp (C3.neL hp) hpd, fun e => ?_⟩
    have h2 := (wiped_of (s := s3) (C3.neL hp)).trans hp.at_
    rw [e, nwr.e] at h2; cases h2
end
end Mine
end
section
set_option maxRecDepth 100000
set_option autoImplicit false
namespace Mine
open PySem PySem.W PySem.Calls PyProof.Rows PySem.Spec
section
variable {K : Frag} {a : Adr} {κ : KeyOps} {H0 : Heap} {mg mb : Str → Option Value} {A : Around} {l : List Env} {M : List Addr} {sE : Shared} {L : Addr} {m : Str → Option Value} {led : List (Addr × Obj)} {s : Shared} {prog : Program} {w : World} {E : Value → Shared → Prop} {cdv : Value} {z : Int}

noncomputable def kwFill (dv : Str → Value) : List Str → List (Str × Value) → List (Str × Value)
  | [], sl => sl
  | n :: r, sl => kwFill dv r (if (List.lookup n sl).isNone = true then sl ++ [(n, dv n)] else sl)
theorem kw_loop {MM : Model} {d : Addr} (dv : Str → Value) {Q : List (Str × Value) × List Str → Shared → Prop} : ∀ (names : List Str) (slots : List (Str × Value)) (mis : List Str), (∀ n ∈ names, Looks MM s.heap (nsGet d n) (some (dv n))) → Q (kwFill dv names slots, mis) s →
    wpAny MM A (forIn names (slots, mis) fun name __s =>
      if (List.lookup name __s.fst).isNone = true then do
        let dflt ← nsGet d name
        match dflt with
          | some v => pure (ForInStep.yield (__s.fst ++ [(name, v)], __s.snd))
          | none => pure (ForInStep.yield (__s.fst, __s.snd ++ [name]))
      else pure (ForInStep.yield (__s.fst, __s.snd))) Q E s
  | [], slots, mis, _, k => wpAny_pure k
  | n :: r, slots, mis, hd, k => by
    simp only [List.forIn_cons]
    have step : ∀ sl', kwFill dv r sl' = kwFill dv (n :: r) slots → wpAny MM A (forIn r (sl', mis) fun name __s =>
      if (List.lookup name __s.fst).isNone = true then do
        let dflt ← nsGet d name
        match dflt with
          | some v => pure (ForInStep.yield (__s.fst ++ [(name, v)], __s.snd))
          | none => pure (ForInStep.yield (__s.fst, __s.snd ++ [name]))
      else pure (ForInStep.yield (__s.fst, __s.snd))) Q E s := fun sl' e => kw_loop dv r sl' mis (fun x hx => hd x (.tail _ hx)) (by rw [e]; exact k)
    refine wpAny_bind ?_
    split
    · rename_i h
      exact wpAny_bind (hd n (.head _) _ _ _ _ (fun _ _ e => e) (wpAny_pure (step _ (by rw [kwFill, if_pos h]))))
    · rename_i h
      exact wpAny_pure (step _ (by rw [kwFill, if_neg h]))
noncomputable def rkD (t u : Tok) (n : Str) : Value := if n = "key" then .none else if n = "reverse" then .bool false else if n = "ties" then .str "average" t else .int 1 u
theorem rk_looks (F : KF K a) : ∃ t u, ∀ {MM : Model} {h : Heap}, K.In h → ∀ n ∈ [Str.ofString "key", Str.ofString "reverse", Str.ofString "ties", Str.ofString "start"], Looks MM h (nsGet a.rankK n) (some (rkD t u n)) := by
  obtain ⟨t, ht⟩ := F.dties
  obtain ⟨u, hu⟩ := F.dstart
  refine ⟨t, u, fun {MM h} X n hn => ?_⟩
  simp only [List.mem_cons, List.not_mem_nil, or_false] at hn
  rcases hn with rfl | rfl | rfl | rfl
  · exact looks_nsIn X F.dkey
  · exact looks_nsIn X F.drev
  · exact looks_nsIn X ht
  · exact looks_nsIn X hu
theorem rank_bind_start (F : KF K a) (X : K.In s.heap) {v sv : Value} {t u : Tok} (hk : ∀ {MM : Model} {h : Heap}, K.In h → ∀ n ∈ [Str.ofString "key", Str.ofString "reverse", Str.ofString "ties", Str.ofString "start"], Looks MM h (nsGet a.rankK n) (some (rkD t u n))) {name : Str} {doc pm : Value} {an : Option Addr} {cdv ct : Value} {Q : List (Str × Value) → Shared → Prop}
    (k : Q [(Str.ofString "data", v), (Str.ofString "key", .none), (Str.ofString "reverse", .bool false), (Str.ofString "ties", .str "average" t), (Str.ofString "start", sv)] s) :
    wpAny (model prog w) A (bindArgs (fnOf name "_rank" dRank.1 dRank.2.1 dRank.2.2 .none (.ref a.rankK) doc pm an cdv ct) ⟨[v], [(Str.ofString "start", sv)]⟩) Q E s := by
  unfold bindArgs

  refine wpAny_bind (wpAny_of_eq (a := ([(Str.ofString "data", v), (Str.ofString "start", sv)], [])) rfl ?_)
  refine wpAny_bind (wpAny_of_eq (a := none) rfl ?_)
  refine ite_no Bool.false_ne_true ?_
  refine ite_no Bool.false_ne_true ?_
  refine wpAny_bind (wpAny_of_eq (a := [(Str.ofString "data", v), (Str.ofString "start", sv)]) rfl ?_)
  refine wpAny_bind (kw_loop (rkD t u) _ _ _ (hk X) ?_)
  refine ite_no Bool.false_ne_true ?_
  exact wpAny_pure k
end
end Mine
end
section
set_option maxRecDepth 100000
set_option autoImplicit false
namespace Mine
open PySem PySem.W PySem.Calls PyProof.Rows PySem.Spec
section
variable {K : Frag} {a : Adr} {H0 : Heap} {mg mb : Str → Option Value} {A : Around} {l : List Env} {s : Shared} {prog : Program} {w : World} {z : Int}

structure Ranked (κ : KeyOps) (rv : Bool) (z : Int) (vals rvals : List Value) (tk : Nat) : Prop where
  ex : ∃ rows rows' : List Row, rows.map (·.key) = vals ∧ (∀ (j : Nat) (q : Row), rows[j]? = some q → ∃ t, q.pos = .int j t) ∧ rows'.Perm rows ∧ OrdR κ rv rows' ∧ RK κ rows' z vals.length rvals
  tk : TK rvals tk

theorem keyR_of {κ : KeyOps} {vals : List Value} (h : KeyL κ vals) {rows : List Row} (e : rows.map (·.key) = vals) : KeyR κ rows :=
  ⟨fun q hq => h.all _ (e ▸ List.mem_map_of_mem (f := (·.key)) hq), fun q hq q' hq' => h.tok _ (e ▸ List.mem_map_of_mem (f := (·.key)) hq) _ (e ▸ List.mem_map_of_mem (f := (·.key)) hq')⟩

theorem drawn_list {κ : KeyOps} {vals : List Value} {ep : Nat} {lst : Addr} {M : List Addr} {sE s0 s : Shared} (S : St H0 A l s) (h0 : Okk s0.heap (lst, lstO vals ep)) (h : Okk s.heap (lst, lstO vals ep)) (hnew : sE.heap.get? s.heap.objs.size = none) (KL : KeyL κ vals) :
    Drawn prog w H0 A l κ (.ref lst) 0 vals.length M sE s0 s s.heap.objs.size [s.heap.objs.size, lst] [s.heap.objs.size]
      (fun acc s' => Lg s'.heap [(s.heap.objs.size, itO lst acc.length), (lst, lstO vals ep)] ∧ acc = vals.take acc.length) (fun acc _ => acc = vals) := by
  have hI : H0.get? s.heap.objs.size = none := by
    cases q : H0.get? s.heap.objs.size with
    | none => rfl
    | some o => exact absurd (Heap.lt_size (S.glob _ _ q)) (Nat.lt_irrefl _)
  refine ⟨srcList (prog := prog) (w := w) (l := l) (lst := lst) (vals := vals) (ep := ep) 0 hI, fun p hp => ?_, fun p hp => ?_, fun A' Q E h1 h2 h3 h4 => ?_, fun rows s' hN e => keyR_of KL e⟩
  · rcases List.mem_cons.mp hp with rfl | hp
    · exact .inl not_at
    · rw [List.mem_singleton.mp hp]; exact .inr ⟨_, h0.at_⟩
  · rw [List.mem_singleton.mp hp]; exact .inr hnew
  · have g : Go H0 [] s { s with heap := s.heap.push (itO lst 0) } := Go.push _
    refine wpAny_pyIter_list ⟨_, h.at_, rfl, _, rfl⟩ (h4 _ g ⟨⟨fun p hp => ?_, ?_⟩, rfl⟩)
    · rcases List.mem_cons.mp hp with rfl | hp
      · exact okk_it (Heap.get?_push_size _ rfl)
      · rw [List.mem_singleton.mp hp]; exact h.go g (fun h => nomatch h)
    · have : s.heap.objs.size ≠ lst := fun e => by have := Heap.lt_size h.at_; rw [← e] at this; exact absurd this (Nat.lt_irrefl _)
      simp [this]

set_option maxHeartbeats 1000000 in
theorem rank_list (G : Gl K H0 mg mb) (F : KF K a) (S : St H0 A l s) (κ : KeyOps) {lst : Addr} {vals : List Value} {ep : Nat} {sv : Value} (hl : Okk s.heap (lst, lstO vals ep)) (hsv : NumV sv (z + 2)) (hz : z.natAbs ≤ 2 ^ 45) (hn : vals.length < 64) (KL : KeyL κ vals)
    (hroom : A.depth + 5 < recursionLimit) (hh : A.handled = none) {R : Result → Shared → Prop}
    (k : ∀ res rvals c s', Ranked κ false z vals rvals s'.toks → Go H0 [] s s' → Okk s'.heap (res, lstO rvals c) → s.heap.get? res = none → R (.ok (.ret (.ref res))) s') :
    codeAny (model prog w) A (.call (.ref a.rank) ⟨[.ref lst], [(Str.ofString "start", sv)]⟩) R s := by
  refine enterFX G S F.rank [] (by lia  ) (by decide) fun name doc pm an cdv ct E' => ?_
  obtain ⟨t, u, hk⟩ := rk_looks F
  refine rank_bind_start F (S.X G) hk ⟨fun b o h => h, Nat.le_refl _, rfl, rfl, locs rfl, [(lst, lstO vals ep)], fun p hp => by rw [List.mem_singleton.mp hp]; exact hl, by simp, fun L cdv s1 C => ?_⟩
  refine wpAny_execs_cons (wpAny_If (wpAny_isTrue_Compare1 (C.name rfl (wpAny_Constant_str (PySem.P.ne_str (wpAny_truthy_bool ?_))))))
  refine ite_no' (by decide) (wpAny_execs_nil ?_)
  have C1 := C.tok 1
  refine wpAny_execs_cons (wpAny_If (wpAny_isTrue_Compare1 (C1.name (v := .none) rfl (wpAny_Constant_none (isNot_none (wpAny_truthy_bool ?_))))))
  refine ite_no' (by decide) (wpAny_execs_nil ?_)
  refine rank_tail (d := 0) (n := vals.length) (P := fun acc _ => acc = vals) (κ := κ) G F C1 rfl rfl rfl hsv hz hn (fun s2 g2 => ⟨_, _, _, _, _, drawn_list (C1.st.go g2) (C1.ok 0 rfl) ((C1.ok 0 rfl).go g2 (fun h => nomatch h)) ?_ KL, fun _ _ h => h⟩) (by omega) hh PassesOwn.leaving fun m' res rvals c rows rows' s2 s3 hN hpos hP KR hperm hord hrk htk C3 nres hfr => ?_
  · exact ((C1.call g2).noE not_at).e
  · exact k res rvals c s3 ⟨⟨rows, rows', hP, hpos, hperm, hord, hrk⟩, htk⟩ C3.go (C3.ok 0 rfl) nres.e
end
end Mine
end
section
set_option maxRecDepth 100000
set_option autoImplicit false
namespace Mine
open PySem PySem.W PySem.Calls PyProof.Rows PySem.Spec

theorem countP_range {α : Type} {p : α → Bool} : ∀ {rows : List α} {i0 i1 : Nat}, i0 ≤ i1 → i1 ≤ rows.length → (∀ m q, rows[m]? = some q → (p q = true ↔ i0 ≤ m ∧ m < i1)) → rows.countP p = i1 - i0
  | [], i0, i1, h0, h1, _ => by simp at h1; subst h1; simp
  | x :: r, i0, i1, h0, h1, h => by
    have hx := h 0 x rfl
    have ht := countP_range (p := p) (rows := r) (i0 := i0 - 1) (i1 := i1 - 1) (by omega) (by simp only [List.length_cons] at h1; omega) (fun m q hq => by
      have := h (m + 1) q (by simpa using hq)
      rw [this]; omega)
    rw [List.countP_cons, ht]
    by_cases hp : p x = true
    · have := hx.mp hp
      rw [if_pos hp]; grind
    · have : ¬ (i0 ≤ 0 ∧ 0 < i1) := fun q => hp (hx.mpr q)
      rw [if_neg hp]; grind

section
variable {κ : KeyOps}

variable {rows : List Row}


end
end Mine
end
section
set_option maxRecDepth 100000
set_option autoImplicit false
namespace Mine
open PySem PySem.W PySem.Calls PyProof.Rows PySem.Spec


section
variable {prog : Program} {w : World} {A : Around} {E : Value → Shared → Prop} {s : Shared} {H0 : Heap}


end
end Mine
end
section
set_option maxRecDepth 100000
set_option autoImplicit false
namespace Mine
open PySem PySem.W PySem.Calls PyProof.Rows PySem.Spec


section
variable {prog : Program} {w : World} {A : Around} {E : Value → Shared → Prop} {s : Shared} {H0 : Heap}

end
end Mine
end
section
set_option maxRecDepth 100000
set_option autoImplicit false
namespace Mine
open PySem PySem.W PySem.Calls PyProof.Rows PySem.Spec

section
variable {prog : Program} {w : World} {A : Around} {E : Value → Shared → Prop} {s : Shared} {H0 : Heap}




end
end Mine
end
section
set_option maxRecDepth 100000
set_option autoImplicit false
namespace Mine
open PySem PySem.W PySem.Calls PyProof.Rows PySem.Spec
open PySem.Float64 (decode isZero isFinite fsumAdd fsumEnd fsumTop val sgn)


structure IV (vals : List Value) (ns : List Int) : Prop where
  len : vals.length = ns.length
  at_ : ∀ (i : Nat) n, ns[i]? = some n → ∃ t, vals[i]? = some (.int n t)

section
variable {prog : Program} {w : World} {A : Around} {E : Value → Shared → Prop} {s : Shared} {H0 : Heap}

end
end Mine
end
section
set_option maxRecDepth 100000
set_option autoImplicit false
namespace Mine
open PySem PySem.W PySem.Calls PyProof.Rows PySem.Spec

noncomputable abbrev cellO (v : Option Value) : Obj := { cls := .type "cell", data := .cell v }
noncomputable def ledC (cs : List (Str × Addr)) (cm : Str → Option Value) : List (Addr × Obj) := cs.map fun x => (x.2, cellO (cm x.1))

section
variable {H0 : Heap} {A : Around} {l : List Env} {M : List Addr} {sE : Shared} {L : Addr} {m : Str → Option Value} {led : List (Addr × Obj)} {s : Shared} {MM : Model} {E : Value → Shared → Prop} {env : Env}

theorem Cx.setCell (C : Cx H0 A l M sE L m led s) {x : Str} {v : Value} {c : Addr} {v₀ : Option Value} {Q : Unit → Shared → Prop} (i : Nat) (hi : led[i]? = some (c, cellO v₀)) (hc : env.cells.lookup x = some c) (hM : c ∈ M ∨ sE.heap.get? c = none) (hH : H0.get? c = none)
    (h : ∀ s', Cx H0 A l M sE L m (led.set i (c, cellO (some v))) s' → Q () s') (hk : env.scope.kind = .function := by rfl) (hl : env.kindOf x = some .cell := by rfl) : wpAny MM A (storeName env x v) Q E s := by
  unfold storeName
  simp only [hl, hk]
  refine wpAny_bind (wpAny_cellOf hc ?_)
  unfold cellSet
  refine wpAny_bind (wpAny_load (C.at i hi) ?_)
  refine wpAny_update (C.at i hi) (h _ ?_)
  exact C.upd i (f := fun o => { o with data := .cell (some v) }) hi rfl nd_cell rfl hM hH
theorem Cx.ldCell (C : Cx H0 A l M sE L m led s) {x : Str} {pos : Pos} {v : Value} {c : Addr} {Q : Value → Shared → Prop} (i : Nat) (hi : led[i]? = some (c, cellO (some v))) (hc : env.cells.lookup x = some c) (h : Q v s)
    (hk : env.scope.kind = .function := by rfl) (hl : env.kindOf x = some .cell := by rfl) (hb : (x == ("__debug__" : Str)) = false := by decide) : wpAny MM A (eval (.Name x pos) env) Q E s :=
  wpAny_Name (wpAny_loadName_cell hk hl hc ⟨_, C.at i hi, rfl⟩ h) hb
theorem Cx.ldFree (C : Cx H0 A l M sE L m led s) {x : Str} {pos : Pos} {v : Value} {c : Addr} {Q : Value → Shared → Prop} (i : Nat) (hi : led[i]? = some (c, cellO (some v))) (hc : env.cells.lookup x = some c) (h : Q v s)
    (hk : env.scope.kind = .function := by rfl) (hl : env.kindOf x = some .free := by rfl) (hb : (x == ("__debug__" : Str)) = false := by decide) (hn : (x == ("__classdict__" : Str)) = false := by decide) : wpAny MM A (eval (.Name x pos) env) Q E s :=
  wpAny_Name (wpAny_loadName_free hk hl hc ⟨_, C.at i hi, rfl⟩ h hn) hb

theorem ledC_set {cs : List (Str × Addr)} (hn : (cs.map (·.1)).Nodup) {cm : Str → Option Value} {x : Str} {v : Value} {c : Addr} (hc : cs.lookup x = some c) :
    ∃ i, (ledC cs cm)[i]? = some (c, cellO (cm x)) ∧ (ledC cs cm).set i (c, cellO (some v)) = ledC cs (updM cm x v) := by
  induction cs with
  | nil => cases hc
  | cons p r ih =>
    obtain ⟨n, a⟩ := p
    rw [List.map_cons, List.nodup_cons] at hn
    rw [List.lookup_cons] at hc
    cases hb : x == n with
    | true =>
      rw [hb] at hc
      cases hc
      have e : x = n := beq_iff_eq.mp hb
      subst e
      refine ⟨0, rfl, ?_⟩
      show (c, cellO (some v)) :: ledC r cm = (c, cellO (if x = x then some v else cm x)) :: ledC r (updM cm x v)
      first | refine ite_yes' rfl ?_ | refine ite_yes rfl ?_ | rw [if_pos rfl]
      congr 1
      unfold ledC
      refine List.map_congr_left fun y hy => ?_
      have : y.1 ≠ x := fun e => hn.1 (e ▸ List.mem_map_of_mem (f := (·.1)) hy)
      simp only [if_neg this]
    | false =>
      rw [hb] at hc
      obtain ⟨i, h1, h2⟩ := ih hn.2 hc
      refine ⟨i + 1, h1, ?_⟩
      have : n ≠ x := fun e => by rw [e] at hb; simp at hb
      show (a, cellO (cm n)) :: (ledC r cm).set i (c, cellO (some v)) = (a, cellO (if n = x then some v else cm n)) :: ledC r (updM cm x v)
      rw [h2, if_neg this]

theorem bind_cx (f : Str × Value → PUnit → Sem (ForInStep PUnit)) (hf : ∀ n v u, f (n, v) u = (do storeName env n v; pure (.yield ⟨⟩))) (hk : env.scope.kind = .function) (hL : env.locals = L) (hnd : (env.cells.map (·.1)).Nodup)
    (hM : ∀ x ∈ env.cells, sE.heap.get? x.2 = none ∧ H0.get? x.2 = none) :
    ∀ (binds : List (Str × Value)) (m cm : Str → Option Value) (s : Shared) (Q : PUnit → Shared → Prop), Cx H0 A l M sE L m (ledC env.cells cm ++ led) s →
      (∀ x ∈ binds, env.kindOf x.1 = some .local ∨ (env.kindOf x.1 = some .cell ∧ (env.cells.lookup x.1).isSome = true)) →
      (∀ s', Cx H0 A l M sE L (bindL env.kindOf binds m) (ledC env.cells (bindC env.kindOf binds cm) ++ led) s' → Q ⟨⟩ s') → wpAny MM A (forIn binds ⟨⟩ f) Q E s
  | [], m, cm, s, Q, C, _, h => by rw [List.forIn_nil]; exact wpAny_pure (h s C)
  | (n, v) :: r, m, cm, s, Q, C, hkind, h => by
    rw [List.forIn_cons, hf]
    have hr : ∀ y ∈ r, env.kindOf y.1 = some .local ∨ (env.kindOf y.1 = some .cell ∧ (env.cells.lookup y.1).isSome = true) := fun y hy => hkind y (List.mem_cons_of_mem _ hy)
    rcases hkind (n, v) List.mem_cons_self with hl | ⟨hl, hc⟩
    · refine wpAny_bind (wpAny_bind (C.store (env := env) hL (fun s' C' => wpAny_pure (bind_cx f hf hk hL hnd hM r _ _ s' Q C' hr fun s'' C'' => h s'' ?_)) hl (by rw [hk]; rfl)))
      unfold bindL bindC; rw [if_pos hl, if_pos hl]; exact C''
    · obtain ⟨c, hc⟩ := Option.isSome_iff_exists.mp hc
      have hnl : ¬ env.kindOf n = some .local := by rw [hl]; decide
      obtain ⟨i, h1, h2⟩ := ledC_set (cm := cm) (v := v) hnd hc
      have hil : i < (ledC env.cells cm).length := (List.getElem?_eq_some_iff.mp h1).1
      have h1' : (ledC env.cells cm ++ led)[i]? = some (c, cellO (cm n)) := by rw [List.getElem?_append_left hil]; exact h1
      have hcm := hM _ (mem_of_lookup hc)
      refine wpAny_bind (wpAny_bind (C.setCell i h1' hc (.inr hcm.1) hcm.2 (fun s' C' => wpAny_pure (bind_cx f hf hk hL hnd hM r m (updM cm n v) s' Q (by rw [List.set_append_left _ _ hil, h2] at C'; exact C') hr fun s'' C'' => h s'' (by unfold bindL bindC; rw [if_neg hnl, if_neg hnl]; exact C''))) hk hl))
end
end Mine
end
section
set_option maxRecDepth 100000
set_option autoImplicit false
namespace Mine
open PySem PySem.W PySem.Calls PyProof.Rows PySem.Spec

theorem cells_made : ∀ (names : List (Str × NameKind)) (h : Heap) (lo : Nat) (acc : List (Str × Addr)), (∀ x ∈ acc, h.get? x.2 = some (cellO none) ∧ lo ≤ x.2) → (acc.map (·.2)).Nodup → lo ≤ h.objs.size →
    (∀ x ∈ cellsFrom h.objs.size names acc, (pushCells h names).get? x.2 = some (cellO none) ∧ lo ≤ x.2) ∧ ((cellsFrom h.objs.size names acc).map (·.2)).Nodup
  | [], _, _, _, x, hn, _ => ⟨x, hn⟩
  | (name, kind) :: r, h, lo, acc, x, hn, hlo => by
    unfold pushCells cellsFrom
    split
    · have := cells_made r (h.push (cellO none)) lo ((name, h.objs.size) :: acc) (fun y hy => by
        rcases List.mem_cons.mp hy with rfl | hy
        · exact ⟨Heap.get?_push_size _ rfl, hlo⟩
        · exact ⟨Heap.get?_push_of_some _ (x y hy).1, (x y hy).2⟩) (by
        rw [List.map_cons]
        refine List.nodup_cons.mpr ⟨fun hm => ?_, hn⟩
        obtain ⟨y, hy, e⟩ := List.mem_map.mp hm
        have := Heap.lt_size (x y hy).1
        have e' : y.2 = h.objs.size := e
        rw [e'] at this
        exact Nat.lt_irrefl _ this) (by rw [Heap.size_push]; exact Nat.le_succ_of_le hlo)
      rwa [Heap.size_push] at this
    · exact cells_made r h lo acc x hn hlo

section
variable {K : Frag} {H0 : Heap} {mg mb : Str → Option Value} {A : Around} {l : List Env} {s : Shared} {prog : Program} {w : World}

end
end Mine
end
section
set_option maxRecDepth 100000
set_option autoImplicit false
namespace Mine
open PySem PySem.W PySem.Calls PyProof.Rows PySem.Spec

section
variable {H0 : Heap} {A : Around} {l : List Env} {M : List Addr} {sE : Shared} {L : Addr} {m : Str → Option Value} {led : List (Addr × Obj)} {s : Shared} {prog : Program} {w : World} {E : Value → Shared → Prop} {env : Env}

theorem append_list {D : Addr} {acc : List Value} {c : Nat} {x : Value} {Q : Value → Shared → Prop} (hD : s.heap.get? D = some (lstO acc c)) (hz : acc.length ≤ 1000)
    (hQ : Q .none { s with heap := s.heap.update D (Obj.mapSeq (·.push x)) }) : wpAny (model prog w) A (call (.builtin "list.append") [.ref D, x]) Q E s := by
  have hT : s.TypeIs (.ref D) "list" := ⟨_, hD, rfl⟩
  refine wpAny_call_entry slot_list_append hT entry_list_append ?_ (args_list_append _ _)
  show wpAny _ _ (updateSeq D (·.push x) >>= fun _ => ret .none) _ _ s
  refine wpAny_bind ?_
  exact wpAny_updateSeq hD rfl (wpAny_pure ⟨.none, rfl, hQ⟩) (by rw [List.size_toArray, sizeLine_eq]; lia  ) (by show (acc.toArray.push x).size ≤ _; rw [Array.size_push, List.size_toArray, sizeLine_eq]; lia  )

theorem same_go {C : Addr} {s₀ s' : Shared} {h' : Heap} (g : Go H0 [] s₀ s') (hn : s₀.heap.get? C = none) (S : ∀ b o, H0.get? b = some o → s₀.heap.get? b = some o) (hs : Heap.SameBut C s'.heap h') : Go H0 [] s₀ { s' with heap := h' } := by
  have ne : ∀ {b o}, s₀.heap.get? b = some o → b ≠ C := fun e q => by rw [q, hn] at e; cases e
  refine ⟨fun _ b o e => ?_, fun b o e hm hnd => ?_, fun b o es n e hd => ?_, fun b o e hnd => ?_, g.toks, g.gens, g.os⟩
  · exact (hs.2 b (ne (S b o e))).trans (g.glob S b o e)
  · exact (hs.2 b (ne e)).trans (g.nd b o e hm hnd)
  · obtain ⟨sl, h1⟩ := g.up b o es n e hd
    exact ⟨sl, (hs.2 b (ne e)).trans h1⟩
  · obtain ⟨o', h1, h2⟩ := g.pres b o e hnd
    exact ⟨o', (hs.2 b (ne e)).trans h1, h2⟩

inductive CInv (N : Nat) (P : Nat → List Value → Tok → Prop) (F : Nat → List Value → Nat → (Str → Option Value) → Shared → Prop) (n : Nat) (s : Shared) : Prop
  | mk (i : Nat) (acc : List Value) (c : Nat) (mC : Str → Option Value) (hn : n = N + 1 - i) (hi : i ≤ N) (ha : acc.length ≤ i) (hP : P i acc s.toks) (hF : F i acc c mC s) : CInv N P F n s
noncomputable abbrev cApp (prog : Program) (w : World) (A : Around) (env : Env) (acc : Value) (I : Nat → Shared → Prop) (n : Nat) (R : Result → Shared → Prop) : Value → Shared → Prop := fun x s₄ =>
  wpAny (model prog w) A (PySem.call (.builtin "list.append") [acc, x]) (fun _ s₅ => ∃ m, m < n ∧ I m s₅) (eNote prog w A env R) s₄
noncomputable abbrev cOk (prog : Program) (w : World) (A : Around) (elt : Expr) (env : Env) (acc : Value) (I : Nat → Shared → Prop) (n : Nat) (R : Result → Shared → Prop) : Bool → Shared → Prop := fun ok s₃ =>
  if ok = true then wpAny (model prog w) A (eval elt env) (cApp prog w A env acc I n R) (eNote prog w A env R) s₃ else ∃ m, m < n ∧ I m s₃
noncomputable abbrev cSet (prog : Program) (w : World) (A : Around) (elt : Expr) (ifs : List Expr) (env : Env) (acc : Value) (I : Nat → Shared → Prop) (n : Nat) (R : Result → Shared → Prop) : Unit → Shared → Prop := fun _ s₂ =>
  wpAny (model prog w) A (forIn ifs true fun c r => if r = true then do let ok ← isTrue c env (eval c env); pure (ForInStep.yield ok) else pure (ForInStep.yield r)) (cOk prog w A elt env acc I n R) (eNote prog w A env R) s₂
noncomputable abbrev cItem (prog : Program) (w : World) (A : Around) (elt target : Expr) (ifs : List Expr) (env : Env) (acc : Value) (I : Nat → Shared → Prop) (n : Nat) (R : Result → Shared → Prop) : Option Value → Shared → Prop := fun r s₁ => match r with
  | none => R (.ok .next) s₁
  | some v => wpAny (model prog w) A (assign target env v) (cSet prog w A elt ifs env acc I n R) (eNote prog w A env R) s₁
theorem codeAny_compLoop_tests {A : Around} {s : Shared} {prog : Program} {w : World} {R : Result → Shared → Prop} {elt target iter : Expr} {ifs : List Expr} {scope : Scope} {pos : Pos} {it acc : Value} {env : Env} (I : Nat → Shared → Prop)
    (step : ∀ n s, I n s → wpAny (model prog w) A (pyNext it) (cItem prog w A elt target ifs env acc I n R) (eNote prog w A env R) s)
    (n : Nat) (h : I n s) (ht : ∀ v, letOwnedTupleGo target it v = pure () := by intro _; rfl) : codeAny (model prog w) A (.compLoop (.ListComp elt [⟨target, iter, ifs, 0⟩] scope pos) 0 it acc env) R s :=
  PySem.codeAny_compLoop_tests I (fun n s hI => wpAny_mono (step n s hI) (fun r _ z => by cases r <;> exact z) fun _ _ z => z) n h ht
noncomputable abbrev TurnP (prog : Program) (w : World) (H0 : Heap) (A : Around) (l : List Env) (led : List (Addr × Obj)) (vals : List Value) (I a D C : Addr) (sB : Shared) (x : Str) (ifs : List Expr) (elt : Expr) (cenv : Env) (P : Nat → List Value → Tok → Prop) : Prop :=
  ∀ (i : Nat) (v : Value) (acc : List Value) (c : Nat) (mC : Str → Option Value) (s : Shared) (E' : Value → Shared → Prop), vals[i]? = some v → P i acc s.toks → mC x = some v → Cx H0 A l [] sB C mC ((D, lstO acc c) :: (I, itO a (i + 1)) :: led) s →
      wpAny (model prog w) A (forIn ifs true fun c r => if r = true then do let ok ← isTrue c cenv (eval c cenv); pure (ForInStep.yield ok) else pure (ForInStep.yield r)) (fun ok s₃ =>
        if ok = true then wpAny (model prog w) A (eval elt cenv) (fun y s₄ => Cx H0 A l [] sB C mC ((D, lstO acc c) :: (I, itO a (i + 1)) :: led) s₄ ∧ P (i + 1) (acc ++ [y]) s₄.toks) E' s₃
        else Cx H0 A l [] sB C mC ((D, lstO acc c) :: (I, itO a (i + 1)) :: led) s₃ ∧ P (i + 1) acc s₃.toks) E' s

theorem comp_loop {elt iter : Expr} {x : Str} {px : Pos} {ifs : List Expr} {scope : Scope} {pos : Pos} {cenv : Env} {I a D : Addr} {vals : List Value} {ep : Nat} {j : Nat} {P : Nat → List Value → Tok → Prop} {R : Result → Shared → Prop} {sB : Shared} {C : Addr}
    (hh : A.handled = none) (hL : cenv.locals = C) (hx : cenv.kindOf x = some .local) (hp : (cenv.scope.kind == .class || (cenv.scope.kind == .module && cenv.locals != cenv.globals)) = false)
    (ha : led[j]? = some (a, lstO vals ep)) (hI0 : H0.get? I = none) (hI1 : sB.heap.get? I = none) (hD0 : H0.get? D = none) (hD1 : sB.heap.get? D = none) (hlen : vals.length ≤ 1000) (mono : ∀ i acc n n', P i acc n → n ≤ n' → P i acc n')
    (turn : TurnP prog w H0 A l led vals I a D C sB x ifs elt cenv P)
    (k : ∀ mC acc c s', Cx H0 A l [] sB C mC ((D, lstO acc c) :: led) s' → P vals.length acc s'.toks → R (.ok .next) s')
    {mC : Str → Option Value} {c : Nat} {s : Shared} (C0 : Cx H0 A l [] sB C mC ((D, lstO [] c) :: (I, itO a 0) :: led) s) (h0 : P 0 [] s.toks) :
    codeAny (model prog w) A (.compLoop (.ListComp elt [⟨.Name x px, iter, ifs, 0⟩] scope pos) 0 (.ref I) (.ref D) cenv) R s := by
  refine codeAny_compLoop_tests (CInv vals.length P fun i acc c mC s => Cx H0 A l [] sB C mC ((D, lstO acc c) :: (I, itO a i) :: led) s) ?_ (vals.length + 1) ⟨0, [], c, mC, rfl, Nat.zero_le _, Nat.le_refl _, h0, C0⟩
  rintro n s1 ⟨i, acc, c1, mC1, rfl, hi, hal, hP, C1⟩
  cases hv : vals[i]? with
  | none =>
    have hil : i = vals.length := by have := List.getElem?_eq_none_iff.mp hv; lia
    refine pyNext_end hh (C1.at 1 rfl) (C1.at (j + 2) (by simpa using ha)) hv fun h' e hm => ?_
    have C2 := C1.upd 1 (f := Obj.mapFields (·.setIfInBounds 0 .none)) rfl rfl nd_fields rfl (.inr hI1) hI0
    have C3 := C2.call (made_go (H0 := H0) (M := []) (s := { s1 with heap := s1.heap.update I (Obj.mapFields (·.setIfInBounds 0 .none)) }) hm)
    exact k mC1 acc c1 _ (C3.drop ((D, lstO acc c1) :: led) (.cons_cons _ (.cons _ (List.Sublist.refl _)))) (by rw [← hil]; exact hP)
  | some v =>
    have hlt : i < vals.length := (List.getElem?_eq_some_iff.mp hv).1
    refine pyNext_item (C1.at 1 rfl) (C1.at (j + 2) (by simpa using ha)) hv ?_
    have C2 := C1.upd 1 (f := Obj.mapFields (·.setIfInBounds 1 (rawInt ((i : Int) + 1)))) rfl rfl nd_fields rfl (.inr hI1) hI0
    refine PySem.wpAny_assign_Name (C2.mark.store (env := cenv) hL (fun s3 C3 => ?_) hx hp)
    have hts : s1.toks ≤ s3.toks := C3.go.toks
    have C3' : Cx H0 A l [] sB C (updM mC1 x v) ((D, lstO acc c1) :: (I, itO a (i + 1)) :: led) s3 := Cx.unmark (sE := sB) (n := s1.toks) C3 C1.go.toks
    refine wpAny_mono (turn i v acc c1 _ s3 _ hv (mono _ _ _ _ hP hts) (if_pos rfl) C3') (fun ok s4 h4 => ?_) fun _ _ z => z
    cases ok with
    | false =>
      rw [if_neg (by decide)] at h4
      refine ite_no' rfl ?_
      exact ⟨vals.length + 1 - (i + 1), by grind, i + 1, acc, c1, _, rfl, hlt, by lia  , h4.2, h4.1⟩
    | true =>
      rw [if_pos rfl] at h4
      refine ite_yes' rfl ?_
      refine wpAny_mono h4 (fun y s5 h5 => ?_) fun _ _ z => z
      refine append_list (h5.1.at 0 rfl) (by lia  ) ?_
      have C6 := h5.1.upd 0 (f := Obj.mapSeq (·.push y)) rfl rfl nd_seq rfl (.inr hD1) hD0
      have e : (Obj.mapSeq (·.push y) (lstO acc c1)) = lstO (acc ++ [y]) (c1 + 1) := by simp [Obj.mapSeq]
      rw [e] at C6
      exact ⟨vals.length + 1 - (i + 1), by grind, i + 1, acc ++ [y], c1 + 1, _, rfl, hlt, by simp; omega, h5.2, C6⟩
end
end Mine
end
section
set_option maxRecDepth 100000
set_option autoImplicit false
namespace Mine
open PySem PySem.W PySem.Calls PyProof.Rows PySem.Spec

section
variable {H0 : Heap} {A : Around} {l : List Env} {M : List Addr} {sE : Shared} {L : Addr} {m : Str → Option Value} {led : List (Addr × Obj)} {s : Shared} {prog : Program} {w : World} {E : Value → Shared → Prop} {env : Env}

theorem none_ge {h : Heap} {x : Addr} (hx : h.objs.size ≤ x) : h.get? x = none := by
  cases q : h.get? x with
  | none => rfl
  | some o => exact absurd (Heap.lt_size q) (Nat.not_lt.mpr hx)
theorem Cx.inner (C : Cx H0 A l M sE L m led s) {sB : Shared} (g : Go H0 [] sB s) {h₁ : Heap} {o : Obj} {k : Nat} {mC : Str → Option Value} (hns : h₁.Ns s.heap.objs.size mC) (hsb : Heap.SameBut s.heap.objs.size (s.heap.push o) h₁) :
    Cx H0 A l [] sB s.heap.objs.size mC led { s with heap := h₁, toks := s.toks + k } := by
  have keep : ∀ b o', s.heap.get? b = some o' → h₁.get? b = some o' := fun b o' e => hsb.extBut b o' (Nat.ne_of_lt (Heap.lt_size e)) (Heap.get?_push_of_some _ e)
  have gg : Go H0 [] s { s with heap := h₁, toks := s.toks + k } := Go.ext (s := s) (s' := { s with heap := h₁, toks := s.toks + k }) keep (Nat.le_add_right _ _) rfl rfl _
  have nB : sB.heap.get? s.heap.objs.size = none := by
    cases q : sB.heap.get? s.heap.objs.size with
    | none => rfl
    | some o => obtain ⟨o', z⟩ := g.there _ _ q; rw [not_at] at z; cases z
  refine ⟨C.st.go gg, g.trans gg, hns, nB, (C.noE not_at).h, fun p hp => (C.has p hp).go gg (fun h => nomatch h), fun p hp e => ?_, C.nodup⟩
  obtain ⟨o', e1, e2⟩ := (C.has p hp).dx _ e
  rw [not_at] at e1; cases e1
theorem Cx.listComp {elt iter : Expr} {x : Str} {px : Pos} {ifs : List Expr} {scope : Scope} {cl : List (Str × Addr)} {pos : Pos} {Q : Value → Shared → Prop} {P : Nat → List Value → Tok → Prop}
    (hh : A.handled = none) (hclos : closureFor scope env = pure cl) (hcell : ∀ y ∈ scope.names, y.2 ≠ .cell) (hkind : scope.kind = .function)
    (hnames : ∀ y ∈ scope.names, y.2 = .local → scope.names.lookup y.1 = some .local) (hx : scope.names.lookup x = some .local) (mono : ∀ i acc n n', P i acc n → n ≤ n' → P i acc n')
    (h : wpAny (model prog w) A (eval iter env) (fun xv s₁ => ∃ (a : Addr) (vals : List Value) (ep j : Nat), xv = .ref a ∧ vals.length ≤ 1000 ∧ led[j]? = some (a, lstO vals ep) ∧ Cx H0 A l M sE L m led s₁ ∧ P 0 [] s₁.toks ∧
      (∀ I D C, TurnP prog w H0 A l led vals I a D C s₁ x ifs elt (compEnvC scope cl C env) P) ∧
      (∀ D acc c s', Go H0 [] s₁ s' → P vals.length acc s'.toks → Okk s'.heap (D, lstO acc c) → s₁.heap.get? D = none → Q (.ref D) s')) E s)
    (hs : ∀ x, foldedSetIterable iter env x = pure x := by intro _; rfl) :
    wpAny (model prog w) A (eval (.ListComp elt [⟨.Name x px, iter, ifs, 0⟩] scope pos) env) Q E s := by
  rw [eval_ListComp]
  refine wpAny_comprehension_free (use := none) rfl hs hclos hkind hnames (wpAny_mono h (fun xv s₁ h₁ => ?_) fun _ _ e => e)
  obtain ⟨a, vals, ep, j, rfl, hlen, ha, C, h0, turn, k⟩ := h₁
  have hal := C.at j ha
  refine wpAny_pyIter_list ⟨_, hal, rfl, _, rfl⟩ (wpAny_newObj_type (wpAny_newFunctionEnv hcell (by intro y hy; simp at hy) (fun h₁ hns₁ hsb₁ => ?_) hkind) (by show 0 ≤ _; exact Nat.zero_le _))
  dsimp only at hns₁ hsb₁ ⊢
  have C2 := (C.push (itO a 0) rfl nd_fields rfl).push (lstO []) rfl nd_seq rfl
  have g2 : Go H0 [] s₁ { s₁ with heap := (s₁.heap.push (itO a 0)).push (lstO []) } := (Go.push (s := s₁) _).trans (Go.push (s := { s₁ with heap := s₁.heap.push (itO a 0) }) _)
  have C3 := C2.inner (k := 0) g2 hns₁ hsb₁
  have nI : s₁.heap.get? s₁.heap.objs.size = none := not_at
  have nD : s₁.heap.get? (s₁.heap.push (itO a 0)).objs.size = none := none_ge (by rw [Heap.size_push]; exact Nat.le_succ _)
  have hI := C.noE nI
  have hD := C.noE nD
  have nC := C3.new
  have loop : codeAny (model prog w) A (.compLoop (.ListComp elt [⟨.Name x px, iter, ifs, 0⟩] scope pos) 0 (.ref s₁.heap.objs.size) (.ref (s₁.heap.push (itO a 0)).objs.size) (compEnvC scope cl ((s₁.heap.push (itO a 0)).push (lstO [])).objs.size env))
      (compPost (model prog w) A E none Q (.ref (s₁.heap.push (itO a 0)).objs.size) ((s₁.heap.push (itO a 0)).push (lstO [])).objs.size) { s₁ with heap := h₁, toks := s₁.toks + 0 } := by
    refine comp_loop (cenv := compEnvC scope cl ((s₁.heap.push (itO a 0)).push (lstO [])).objs.size env) (j := j) (P := P) hh rfl (show Env.kindOf _ x = _ from lookup_relabel_local hx) (by show (scope.kind == .class || (scope.kind == .module && _)) = false; rw [hkind]; rfl) ha hI.h nI hD.h nD hlen mono (turn _ _ _) (fun mC acc c s' C4 hP => ?_) C3 h0
    refine ⟨mC, C4.ns, fun h' hs' => ?_⟩
    have g4 := same_go C4.go nC C.st.glob hs'
    have hDC : (s₁.heap.push (itO a 0)).objs.size ≠ ((s₁.heap.push (itO a 0)).push (lstO [])).objs.size := by rw [Heap.size_push (s₁.heap.push (itO a 0))]; exact Nat.ne_of_lt (Nat.lt_succ_self _)
    exact k _ acc c _ g4 hP (okk_lst ((hs'.2 _ hDC).trans (C4.at 0 rfl))) nD
  refine codeAny_compStart_list loop (wpAny_pyIter_listiter ⟨_, C3.at 1 rfl, rfl, rfl⟩ loop)
end
end Mine
end
section
set_option maxRecDepth 100000
set_option autoImplicit false
namespace Mine
open PySem PySem.W PySem.Calls PyProof.Rows PySem.Spec

section
variable {K : Frag} {H0 : Heap} {mg mb : Str → Option Value} {A : Around} {l : List Env} {M : List Addr} {sE : Shared} {L : Addr} {m : Str → Option Value} {led : List (Addr × Obj)} {s : Shared} {prog : Program} {w : World} {E : Value → Shared → Prop} {env : Env}
theorem Cx.globalE (C : Cx H0 A l M sE L m led s) (G : Gl K H0 mg mb) {x : Str} {pos : Pos} {v : Value} {Q : Value → Shared → Prop} (e : nsIn K mainGlobals x = some (some v)) (h : Q v s)
    (hg : env.globals = mainGlobals := by rfl) (hk : env.scope.kind = .function := by rfl) (hx : env.kindOf x = some .globalImplicit := by rfl) (hd : (x == ("__debug__" : Str)) = false := by decide) : wpAny (model prog w) A (eval (.Name x pos) env) Q E s :=
  Name_function_global hk hx (loadGlobal_global (env := env) (by rw [hg]; exact G.g.keeps C.st.glob) (mg_of G.X G.g e) h) hd
theorem Cx.bootE (C : Cx H0 A l M sE L m led s) (G : Gl K H0 mg mb) {x : Str} {pos : Pos} {v : Value} {Q : Value → Shared → Prop} (e : nsIn K mainGlobals x = some none) (hv : bootBuiltins x = some v) (h : Q v s) (hn : x ≠ "__name__" := by decide)
    (hg : env.globals = mainGlobals := by rfl) (hb : env.builtins = builtinsNs := by rfl) (hk : env.scope.kind = .function := by rfl) (hx : env.kindOf x = some .globalImplicit := by rfl) (hd : (x == ("__debug__" : Str)) = false := by decide) : wpAny (model prog w) A (eval (.Name x pos) env) Q E s :=
  Name_function_global hk hx (loadGlobal_builtin (env := env) (by rw [hg]; exact G.g.keeps C.st.glob) (mg_none_of G.X G.g e) (by rw [hb]; exact G.b.keeps C.st.glob) ((G.boot x hn).trans hv) h) hd
theorem Cx.nameE (C : Cx H0 A l M sE L m led s) {x : Str} {pos : Pos} {v : Value} {Q : Value → Shared → Prop} (hv : m x = some v) (h : Q v s)
    (hL : env.locals = L := by rfl) (hk : env.scope.kind = .function := by rfl) (hl : env.kindOf x = some .local := by rfl) (hd : (x == ("__debug__" : Str)) = false := by decide) : wpAny (model prog w) A (eval (.Name x pos) env) Q E s :=
  wpAny_Name (C.ld (env := env) hL hv h hk hl) hd
theorem Cx.setE (C : Cx H0 A l M sE L m led s) {x : Str} {v : Value} {Q : Unit → Shared → Prop} (h : ∀ s', Cx H0 A l M sE L (updM m x v) led s' → Q () s')
    (hL : env.locals = L := by rfl) (hl : env.kindOf x = some .local := by rfl) (hp : (env.scope.kind == .class || (env.scope.kind == .module && env.locals != env.globals)) = false := by rfl) : wpAny (model prog w) A (storeName env x v) Q E s :=
  C.store (env := env) hL h hl hp
end
end Mine
end
section
set_option maxRecDepth 100000
set_option autoImplicit false
namespace Mine
open PySem PySem.W PySem.Calls PyProof.Rows PySem.Spec

section
variable {K : Frag} {H0 : Heap} {mg mb : Str → Option Value} {A : Around} {l : List Env} {M : List Addr} {sE : Shared} {L : Addr} {m : Str → Option Value} {led : List (Addr × Obj)} {s : Shared} {prog : Program} {w : World} {E : Value → Shared → Prop} {env : Env}

section
variable {Kt : Type} [DecidableEq Kt] [BEq Kt] [LawfulBEq Kt] {knd : KeyKind prog w Kt} {S : Kt → Bool} {n : Nat} {k : Kt} {key : Value} {sa : Addr}
end
end
end Mine
end
section
set_option maxRecDepth 100000
set_option autoImplicit false
namespace Mine
open PySem PySem.W PySem.Calls PyProof.Rows PySem.Spec


section
variable {M : Model} {A : Around} {E : Value → Shared → Prop} {s : Shared}
end

section
variable {prog : Program} {w : World} {A : Around} {E : Value → Shared → Prop} {s : Shared}
variable {env : Env} {nm q : Str} {C N : Addr} {bs bm bmB : List Value} {hdct : Bool} {sn : List Str} {sub : List Value} {ab : Bool} {col : Option Bool} {dd : Option Addr} {k0 k1 k2 k3 k5 : Option Value} {B newId initId : String}

end
end Mine
end
section
set_option maxRecDepth 100000
set_option autoImplicit false
namespace Mine
open PySem PySem.W PySem.Calls PyProof.Rows PySem.Spec


section
variable {H0 : Heap} {M M' : List Addr} {s sE s' : Shared} {l : List Env} {e : Addr} {cls a0 c fl : Value} {led : List (Addr × Obj)}
end
section
variable {H0 : Heap} {M : List Addr} {s sE s' : Shared} {l : List Env} {env : Env} {e L : Addr} {cls a0 c fl : Value} {led : List (Addr × Obj)} {MM : Model} {A : Around} {E : Value → Shared → Prop} {Q : Unit → Shared → Prop} {m : Str → Option Value}
end
end Mine
end
section
set_option maxRecDepth 100000
set_option autoImplicit false
namespace Mine
open PySem PySem.W PySem.Calls PyProof.Rows PySem.Spec

theorem take_succ' {α : Type} {xs : List α} {i : Nat} {x : α} (h : xs[i]? = some x) : xs.take (i + 1) = xs.take i ++ [x] := by
  rw [List.take_add_one, h]; rfl

section
variable {H0 : Heap} {A : Around} {l : List Env} {M : List Addr} {sE : Shared} {L : Addr} {m : Str → Option Value} {led : List (Addr × Obj)} {s : Shared} {prog : Program} {w : World} {E : Value → Shared → Prop} {env : Env}
end
end Mine
end
section
set_option maxRecDepth 100000
set_option autoImplicit false
namespace Mine
open PySem PySem.W PySem.Calls PyProof.Rows PySem.Spec

section
variable {α : Type} {M : Model} {A : Around} {E : Value → Shared → Prop} {s : Shared}
end
section
variable {prog : Program} {w : World} {A : Around} {E : Value → Shared → Prop} {s : Shared} {a b : UInt64} {t u : Tok} {Q : Value → Shared → Prop}
end
end Mine
end
section
set_option maxRecDepth 100000
set_option autoImplicit false
namespace Mine
open PySem PySem.W PySem.Calls PyProof.Rows PySem.Spec

section
variable {H0 : Heap} {A : Around} {l : List Env} {M : List Addr} {sE : Shared} {L : Addr} {m : Str → Option Value} {led : List (Addr × Obj)} {s : Shared} {prog : Program} {w : World} {E : Value → Shared → Prop} {env : Env}
theorem Cx.addNew {s' : Shared} (C : Cx H0 A l M sE L m led s) (g : Go H0 [] s s') {D : Addr} {o : Obj} (h : Okk s'.heap (D, o)) (hn : s.heap.get? D = none) (hd : o.dict = none) : Cx H0 A l M sE L m ((D, o) :: led) s' :=
  (C.call g).add h (fun p hp e => by have := (C.has p hp).at_; rw [e, hn] at this; cases this) (by rw [hd]; exact fun q => by cases q)
theorem Cx.sameBut (C : Cx H0 A l M sE L m led s) {a : Addr} {h' : Heap} (hs : Heap.SameBut a s.heap h') (hL : a ≠ L) (hE : sE.heap.get? a = none) (hH : H0.get? a = none) (hfr : ∀ e ∈ l, e.frame ≠ some a) (hled : ∀ p ∈ led, p.1 ≠ a ∧ p.2.dict ≠ some a) :
    Cx H0 A l M sE L m led { s with heap := h' } := by
  have neE : ∀ {b o}, sE.heap.get? b = some o → b ≠ a := fun e q => by rw [q, hE] at e; cases e
  have neH : ∀ {b o}, H0.get? b = some o → b ≠ a := fun e q => by rw [q, hH] at e; cases e
  refine ⟨⟨fun b o e => (hs.2 b (neH e)).trans (C.st.glob b o e), C.st.frames, fun ev he => ?_, C.st.toks⟩, ⟨fun hg b o e => (hs.2 b (neH e)).trans (C.go.glob hg b o e), fun b o e hm hn => (hs.2 b (neE e)).trans (C.go.nd b o e hm hn), fun b o es n e hd => ?_, fun b o e hn => ?_, C.go.toks, C.go.gens, C.go.os⟩, ?_, C.new, C.top, fun p hp => ⟨(hs.2 _ (hled p hp).1).trans (C.has p hp).at_, (C.has p hp).nd, fun dx e => ?_⟩, C.dn, C.nodup⟩
  · obtain ⟨hk, L', o, es, n, h1, h2, h3, h4⟩ := C.st.fr ev he
    exact ⟨hk, L', o, es, n, h1, h2, (hs.2 _ (fun q => hfr ev he (by rw [h1, q]))).trans h3, h4⟩
  · obtain ⟨sl, h1⟩ := C.go.up b o es n e hd
    exact ⟨sl, (hs.2 _ (neE e)).trans h1⟩
  · obtain ⟨o', h1, h2⟩ := C.go.pres b o e hn
    exact ⟨o', (hs.2 _ (neE e)).trans h1, h2⟩
  · obtain ⟨o, es, ep, h1, r⟩ := C.ns
    exact ⟨o, es, ep, (hs.2 _ (Ne.symm hL)).trans h1, r⟩
  · obtain ⟨o, h1, h2⟩ := (C.has p hp).dx dx e
    exact ⟨o, (hs.2 _ (fun q => (hled p hp).2 (by rw [e, q]))).trans h1, h2⟩

end
end Mine
end
section
set_option maxRecDepth 100000
set_option autoImplicit false
set_option genInjectivity false
set_option genSizeOf false
namespace Mine
open PySem PySem.W PySem.Calls PyProof.Rows PySem.Spec

structure Bm (H0 : Heap) (mg : Str → Option Value) : Prop where
  ex : ∃ bm ob, mg "__builtins__" = some (.ref bm) ∧ bm ≠ builtinsNs ∧ H0.get? bm = some ob ∧ ob.cls = .type "module" ∧ ob.dict = some builtinsNs ∧ ob.data = .plain
noncomputable abbrev fnV (name qual : Str) (params : Arguments) (body : FuncBody) (scope : Scope) (cl : List (Str × Addr)) (doc pm cdv ct : Value) : FuncData :=
  { name, qualname := qual, params, body, scope, globals := mainGlobals, closure := cl, defaults := .none, kwdefaults := .none, doc, pyModule := pm, annotations := none, code := cdv, closureTuple := ct, builtins := builtinsNs }
noncomputable abbrev fnVO (name qual : Str) (params : Arguments) (body : FuncBody) (scope : Scope) (cl : List (Str × Addr)) (doc pm cdv ct : Value) : Obj :=
  { cls := .type "function", data := .func (fnV name qual params body scope cl doc pm cdv ct) }
theorem nd_fn {c : Value} {d : Option Addr} {f : FuncData} {sl : Array (Option Value)} : nd ⟨c, d, .func f, sl⟩ := fun _ _ h => by cases h
theorem codeRec_go {H0 : Heap} {M : List Addr} {s s' : Shared} {cd : Value} {q : Str} (h : s.heap.CodeRec cd q) (g : Go H0 M s s') (hM : ∀ c, cd = .ref c → c ∉ M) : s'.heap.CodeRec cd q := by
  obtain ⟨c, oc, vs, t, e, h1, h2, h3⟩ := h
  exact ⟨c, oc, vs, t, e, g.nd _ _ h1 (hM c e) (fun es n q => by rw [h2] at q; cases q), h2, h3⟩

section
variable {K : Frag} {H0 : Heap} {mg mb : Str → Option Value} {A : Around} {l : List Env} {M : List Addr} {sE : Shared} {L : Addr} {m : Str → Option Value} {led : List (Addr × Obj)} {s : Shared} {MM : Model} {E : Value → Shared → Prop}
theorem go_extBut {P : Addr} {h' : Heap} {tk : Tok} {o o' : Obj} {fo : Obj} (hx : Heap.ExtBut P s.heap h') (hP : s.heap.get? P = some o) (hn : nd o) (hP' : h'.get? P = some o') (hn' : nd o') (hH : H0.get? P = none) (ht : s.toks ≤ tk) :
    Go H0 [P] s { s with heap := h'.push fo, toks := tk } := by
  have neP : ∀ {b o}, H0.get? b = some o → b ≠ P := fun e q => by rw [q, hH] at e; cases e
  refine ⟨fun h b ob e => Heap.get?_push_of_some _ (hx _ _ (neP e) (h b ob e)), fun b ob e hm _ => Heap.get?_push_of_some _ (hx _ _ (fun q => hm (by simp [q])) e), fun b ob es n e hd => ?_, fun b ob e hnb => ?_, ht, fun h => h, rfl⟩
  · have : b ≠ P := fun q => by rw [q, hP] at e; cases e; exact hn es n hd
    exact ⟨ob.slots, Heap.get?_push_of_some _ (hx _ _ this e)⟩
  · by_cases q : b = P
    · subst q; exact ⟨o', Heap.get?_push_of_some _ hP', hn'⟩
    · exact ⟨ob, Heap.get?_push_of_some _ (hx _ _ q e), hnb⟩
theorem bm_at (B : Bm H0 mg) (hg : H0.Ns mainGlobals mg) (S : St H0 A l s) {P : Addr} (hP : H0.get? P = none) : s.heap.BuiltinsAt mg P := by
  obtain ⟨bm, ob, h1, h2, h3, h4, h5, h6⟩ := B.ex
  refine ⟨bm, ob, h1, h2, (fun q => ?_), (fun q => by rw [q, hP] at h3; cases h3), S.glob _ _ h3, h4, h5, h6⟩
  obtain ⟨o, es, ep, e, hd, _⟩ := hg
  rw [q, e] at h3; cases h3; rw [hd] at h6; cases h6

theorem Cx.fnMade (C : Cx H0 A l M sE L m led s) (i : Nat) {P : Addr} {ps ps' : Array Value} (hi : led[i]? = some (P, tabObj ps)) (hM : P ∈ M ∨ sE.heap.get? P = none) (hH : H0.get? P = none) {h' : Heap} {tk : Tok} {fo : Obj} (hx : Heap.ExtBut P s.heap h') (hsz : s.heap.objs.size ≤ h'.objs.size)
    (hP' : h'.get? P = some (tabObj ps')) (ht : s.toks ≤ tk) (hf : fo.isFreed = false) (hnd : nd fo) (hd : fo.dict = none) :
    Cx H0 A l M sE L m ((h'.objs.size, fo) :: led.set i (P, tabObj ps')) { s with heap := h'.push fo, toks := tk } ∧ Nw H0 sE h'.objs.size ∧ s.heap.get? h'.objs.size = none := by
  have g : Go H0 [P] s { s with heap := h'.push fo, toks := tk } := go_extBut hx (C.at i hi) nd_fields hP' nd_fields hH ht
  have C1 := C.callAt i hi g (okk_fields (Heap.get?_push_of_some _ hP')) hM (by intro q; cases q)
  have hnew : s.heap.get? h'.objs.size = none := none_ge hsz
  refine ⟨C1.add (.of (Heap.get?_push_size _ hf) hnd hd) (fun p hp e => ?_) (by rw [hd]; exact fun q => by cases q), C.noE hnew, hnew⟩
  have hm : p.1 ∈ (led.set i (P, tabObj ps')).map (·.1) := List.mem_map_of_mem (f := (·.1)) hp
  rw [set_map_fst hi] at hm
  obtain ⟨p', hp', e'⟩ := List.mem_map.mp hm
  have := (C.has p' hp').at_
  rw [e', e, hnew] at this; cases this
where
  okk_fields {h : Heap} {a : Addr} {vs : Array Value} (e : h.get? a = some (tabObj vs)) : Okk h (a, tabObj vs) := .of e nd_fields rfl

variable {name qual : Str} {params : Arguments} {scope : Scope} {env : Env} {c P : Addr} {ps : Array Value} {pos : Pos} {firstLine : Nat} {clos : List (Str × Addr)} {Q : Value → Shared → Prop}

theorem Cx.lamNew (C : Cx H0 A l M sE L m led s) (G : Gl K H0 mg mb) (B : Bm H0 mg) {body : Expr} (i : Nat) (hi : led[i]? = some (P, tabObj ps)) (hM : P ∈ M ∨ sE.heap.get? P = none) (hH : H0.get? P = none) (hcl : closureFor scope env = pure clos) (hge0 : env.globals = mainGlobals)
    (hcode : env.code = .ref c) (CH : CodeHd s.heap c P) (ht : TriplesOk ps.toList) (hnf : codeAmong pos ps.toList = none) (hdef : defaultsOf params env = ([], []))
    (h : ∀ f c' pm ctv s', Cx H0 A l M sE L m ((f, fnVO "<lambda>" (env.qual ++ "<lambda>") params (.expr body) scope clos .none pm (.ref c') ctv) :: led.set i (P, tabObj (ps ++ #[rawInt pos.line, rawInt pos.col, .ref c']))) s' → Nw H0 sE f → s.heap.get? f = none → s.heap.get? c' = none →
      s'.heap.CodeRec (.ref c') (env.qual ++ "<lambda>") → Q (.ref f) s') :
    wpAny MM A (eval (.Lambda params body scope pos) env) Q E s := by
  have hgP : mainGlobals ≠ P := fun q => by
    obtain ⟨o, es, ep, e, hd, _⟩ := G.g
    rw [q, hH] at e; cases e
  refine kla_eval hdef (PySem.wpAny_with_toks (n := s.toks) (Nat.le_refl _) (kla_makeFunction (mg := mg) hcl hge0 (G.g.keeps C.st.glob) hcode CH (C.at i hi) ht hnf hgP (bm_at B G.g C.st hH) fun c' ctv h' tk hx hge hlt hrec htb htk => ?_))
  obtain ⟨C1, n1, n2⟩ := C.fnMade i hi hM hH (fo := kla_obj "<lambda>" (env.qual ++ "<lambda>") params body scope clos ((mg "__name__").getD .none) c' ctv) hx (Nat.le_trans hge (Nat.le_of_lt hlt)) htb htk rfl nd_fn rfl
  obtain ⟨c2, oc, vs, t, e2, h1, h2, h3⟩ := hrec
  exact h _ c' _ ctv _ C1 n1 n2 (none_ge hge) ⟨c2, oc, vs, t, e2, Heap.get?_push_of_some _ h1, h2, h3⟩
theorem Cx.lamHit (C : Cx H0 A l M sE L m led s) (G : Gl K H0 mg mb) (B : Bm H0 mg) {body : Expr} {cv : Value} (i : Nat) (hi : led[i]? = some (P, tabObj ps)) (hH : H0.get? P = none) (hcl : closureFor scope env = pure clos) (hge0 : env.globals = mainGlobals)
    (hcode : env.code = .ref c) (CH : CodeHd s.heap c P) (ht : TriplesOk ps.toList) (hf : codeAmong pos ps.toList = some cv) (hdef : defaultsOf params env = ([], []))
    (h : ∀ f pm ctv s', Cx H0 A l M sE L m ((f, fnVO "<lambda>" (env.qual ++ "<lambda>") params (.expr body) scope clos .none pm cv ctv) :: led) s' → Nw H0 sE f → s.heap.get? f = none → Go H0 [] s s' → Q (.ref f) s') :
    wpAny MM A (eval (.Lambda params body scope pos) env) Q E s := by
  refine kla_eval hdef (PySem.wpAny_with_toks (n := s.toks) (Nat.le_refl _) (kla_makeFunctionHit (mg := mg) hcl hge0 (G.g.keeps C.st.glob) hcode CH (C.at i hi) ht hf (bm_at B G.g C.st hH) fun ctv h' tk hk hsz htk => ?_))
  have g : Go H0 [] s { s with heap := h'.push (fnVO "<lambda>" (env.qual ++ "<lambda>") params (.expr body) scope clos .none ((mg "__name__").getD .none) cv ctv), toks := tk } := Go.ext (s := s) (s' := { s with heap := h'.push _, toks := tk }) (fun b o e => Heap.get?_push_of_some _ (hk b o e)) htk rfl rfl _
  have hnew : s.heap.get? h'.objs.size = none := none_ge hsz
  exact h _ _ ctv _ (C.addNew g (.of (Heap.get?_push_size _ rfl) nd_fn rfl) hnew rfl) (C.noE hnew) hnew g
theorem Cx.defNew (C : Cx H0 A l M sE L m led s) (G : Gl K H0 mg mb) (B : Bm H0 mg) {body : List Stmt} (i : Nat) (hi : led[i]? = some (P, tabObj ps)) (hM : P ∈ M ∨ sE.heap.get? P = none) (hH : H0.get? P = none) (hcl : closureFor scope env = pure clos) (hge0 : env.globals = mainGlobals)
    (hcode : env.code = .ref c) (CH : CodeHd s.heap c P) (ht : TriplesOk ps.toList) (hnf : codeAmong pos ps.toList = none)
    (h : ∀ f c' doc pm ctv s', Cx H0 A l M sE L m ((f, fnVO name qual params (.stmts body) scope clos doc pm (.ref c') ctv) :: led.set i (P, tabObj (ps ++ #[rawInt pos.line, rawInt pos.col, .ref c']))) s' → Nw H0 sE f → s.heap.get? f = none → s.heap.get? c' = none →
      s'.heap.CodeRec (.ref c') qual → Q (.ref f) s') :
    wpAny MM A (makeFunction name qual params (.stmts body) scope env [] [] [] pos firstLine) Q E s := by
  have hgP : mainGlobals ≠ P := fun q => by
    obtain ⟨o, es, ep, e, hd, _⟩ := G.g
    rw [q, hH] at e; cases e
  refine PySem.wpAny_with_toks (n := s.toks) (Nat.le_refl _) (makeFunction_K (mg := mg) hcl hge0 (G.g.keeps C.st.glob) hcode CH (C.at i hi) ht hnf hgP (bm_at B G.g C.st hH) fun c' ctv doc h' tk hx hge hlt hrec htb htk => ?_)
  obtain ⟨C1, n1, n2⟩ := C.fnMade i hi hM hH (fo := fnVO name qual params (.stmts body) scope clos doc ((mg "__name__").getD .none) (.ref c') ctv) hx (Nat.le_trans hge (Nat.le_of_lt hlt)) htb htk rfl nd_fn rfl
  obtain ⟨c2, oc, vs, t, e2, h1, h2, h3⟩ := hrec
  exact h _ c' doc _ ctv _ C1 n1 n2 (none_ge hge) ⟨c2, oc, vs, t, e2, Heap.get?_push_of_some _ h1, h2, h3⟩
theorem Cx.defHit (C : Cx H0 A l M sE L m led s) (G : Gl K H0 mg mb) (B : Bm H0 mg) {body : List Stmt} {cv : Value} (i : Nat) (hi : led[i]? = some (P, tabObj ps)) (hH : H0.get? P = none) (hcl : closureFor scope env = pure clos) (hge0 : env.globals = mainGlobals)
    (hcode : env.code = .ref c) (CH : CodeHd s.heap c P) (ht : TriplesOk ps.toList) (hf : codeAmong pos ps.toList = some cv)
    (h : ∀ f doc pm ctv s', Cx H0 A l M sE L m ((f, fnVO name qual params (.stmts body) scope clos doc pm cv ctv) :: led) s' → Nw H0 sE f → s.heap.get? f = none → Go H0 [] s s' → Q (.ref f) s') :
    wpAny MM A (makeFunction name qual params (.stmts body) scope env [] [] [] pos firstLine) Q E s := by
  refine PySem.wpAny_with_toks (n := s.toks) (Nat.le_refl _) (makeFunction_hit (mg := mg) hcl hge0 (G.g.keeps C.st.glob) hcode CH (C.at i hi) ht hf (bm_at B G.g C.st hH) fun ctv doc h' tk hk hsz htk => ?_)
  have g : Go H0 [] s { s with heap := h'.push (fnVO name qual params (.stmts body) scope clos doc ((mg "__name__").getD .none) cv ctv), toks := tk } := Go.ext (s := s) (s' := { s with heap := h'.push _, toks := tk }) (fun b o e => Heap.get?_push_of_some _ (hk b o e)) htk rfl rfl _
  have hnew : s.heap.get? h'.objs.size = none := none_ge hsz
  exact h _ doc _ ctv _ (C.addNew g (.of (Heap.get?_push_size _ rfl) nd_fn rfl) hnew rfl) (C.noE hnew) hnew g
end
end Mine
end
section
set_option maxRecDepth 100000
set_option autoImplicit false
set_option genInjectivity false
set_option genSizeOf false
namespace Mine
open PySem PySem.W PySem.Calls PyProof.Rows PySem.Spec

section
variable {H0 : Heap} {A : Around} {l : List Env} {s : Shared} {prog : Program} {w : World}
theorem cx_entry (S : St H0 A l s) (M : List Addr) (led : List (Addr × Obj)) (hled : ∀ p ∈ led, Okk s.heap p) (hnod : (led.map (·.1)).Nodup) {env : Env} {L : Addr} {h₀ : Heap} {k : Nat} {m : Str → Option Value} (hL : L = s.heap.objs.size) (hns : h₀.Ns L m) (hk₀ : ∀ b o, s.heap.get? b = some o → h₀.get? b = some o)
    (hk : env.scope.kind = .function) (hfr : env.frame = some L) : Cx H0 (A.deeper env) (env :: l) M s L m led { s with heap := h₀, toks := s.toks + k } := by
  subst hL
  have hH : H0.get? s.heap.objs.size = none := by
    cases q : H0.get? s.heap.objs.size with
    | none => rfl
    | some o => exact absurd (Heap.lt_size (S.glob _ _ q)) (Nat.lt_irrefl _)
  refine ⟨⟨fun b o e => hk₀ b o (S.glob b o e), by unfold Around.deeper; rw [S.frames]; rfl, fun env he => ?_, Nat.lt_of_lt_of_le S.toks (Nat.le_add_right _ _)⟩, Go.ext (s := s) (s' := { s with heap := h₀, toks := s.toks + k }) hk₀ (Nat.le_add_right _ _) rfl rfl _, hns, not_at, hH, fun p hp => ⟨hk₀ _ _ (hled p hp).at_, (hled p hp).nd, fun dx e => ?_⟩, fun p hp q => ?_, hnod⟩
  · rcases List.mem_cons.mp he with rfl | he
    · obtain ⟨oL, es, n, h1, h2⟩ := ns_dict hns
      exact ⟨by rw [hk]; decide, _, oL, es, n, hfr, hH, h1, h2⟩
    · obtain ⟨hk', L', o', es, n, h1, h2, h3, h4⟩ := S.fr env he
      exact ⟨hk', L', o', es, n, h1, h2, hk₀ _ _ h3, h4⟩
  · obtain ⟨o, h1, h2⟩ := (hled p hp).dx dx e
    exact ⟨o, hk₀ _ _ h1, h2⟩
  · obtain ⟨o, h1, h2⟩ := (hled p hp).dx _ q
    rw [not_at] at h1; cases h1

theorem enterE {R : Result → Shared → Prop} {f : Addr} {o : Obj} {name qual : Str} {params : Arguments} {body : Expr} {scope : Scope} {cl : List (Str × Addr)} {doc pm cdv ct : Value} {args : Args} {binds : List (Str × Value)} (S : St H0 A l s) (M : List Addr) (led : List (Addr × Obj)) (hled : ∀ p ∈ led, Okk s.heap p) (hnod : (led.map (·.1)).Nodup)
    (hroom : A.depth < recursionLimit) (ho : s.heap.get? f = some o) (hdata : o.data = .func (fnV name qual params (.expr body) scope cl doc pm cdv ct)) (hlim : s.heap.NoLimit) (hcd : s.heap.CodeRec cdv qual)
    (hbind : BindsTo s (fnV name qual params (.expr body) scope cl doc pm cdv ct) args binds) (hcell : ∀ x ∈ scope.names, x.2 ≠ .cell) (hloc : ∀ x ∈ binds, scope.names.lookup x.1 = some .local)
    (h : ∀ L s', L = s.heap.objs.size → Cx H0 (A.deeper (envX qual scope L f cdv cl)) (envX qual scope L f cdv cl :: l) M s L (fun x => binds.reverse.lookup x) led s' →
      wpAny (model prog w) (A.deeper (envX qual scope L f cdv cl)) (eval body (envX qual scope L f cdv cl)) (fun v s' => R (.ok (.ret v)) s')
        (eOut prog w (A.deeper (envX qual scope L f cdv cl)) (envX qual scope L f cdv cl) R) s')
    (hco : scope.isCoroutine = false := by rfl) (hgen : scope.isGenerator = false := by rfl) (hk : scope.kind = .function := by rfl) :
    codeAny (model prog w) A (.call (.ref f) args) R s := by
  refine kla_callFunE hroom ho hdata hco hgen rfl hcd (hbind _ _ _ _ ?_)
  refine wpAny_newFunctionEnv hcell hloc (fun h₀ hns hsb => ⟨hlim.fresh _ hsb, kla_codeExpr ?_⟩) hk
  have hk₀ : ∀ b o, s.heap.get? b = some o → h₀.get? b = some o := fun b o e => hsb.extBut b o (Nat.ne_of_lt (Heap.lt_size e)) (Heap.get?_push_of_some _ e)
  exact h _ _ rfl (cx_entry S M led hled hnod rfl hns hk₀ hk rfl)
theorem enterD {R : Result → Shared → Prop} {f : Addr} {o : Obj} {name qual : Str} {params : Arguments} {body : List Stmt} {scope : Scope} {cl : List (Str × Addr)} {doc pm cdv ct : Value} {args : Args} {binds : List (Str × Value)} (S : St H0 A l s) (M : List Addr) (led : List (Addr × Obj)) (hled : ∀ p ∈ led, Okk s.heap p) (hnod : (led.map (·.1)).Nodup)
    (hroom : A.depth < recursionLimit) (ho : s.heap.get? f = some o) (hdata : o.data = .func (fnV name qual params (.stmts body) scope cl doc pm cdv ct)) (hlim : s.heap.NoLimit) (hcd : s.heap.CodeRec cdv qual)
    (hbind : BindsTo s (fnV name qual params (.stmts body) scope cl doc pm cdv ct) args binds) (hcell : ∀ x ∈ scope.names, x.2 ≠ .cell) (hloc : ∀ x ∈ binds, scope.names.lookup x.1 = some .local)
    (h : ∀ L s', L = s.heap.objs.size → Cx H0 (A.deeper (envX qual scope L f cdv cl)) (envX qual scope L f cdv cl :: l) M s L (fun x => binds.reverse.lookup x) led s' →
      wpAny (model prog w) (A.deeper (envX qual scope L f cdv cl)) (execs body (envX qual scope L f cdv cl)) (qRet R)
        (eOut prog w (A.deeper (envX qual scope L f cdv cl)) (envX qual scope L f cdv cl) R) s')
    (hco : scope.isCoroutine = false := by rfl) (hgen : scope.isGenerator = false := by rfl) (hk : scope.kind = .function := by rfl) :
    codeAny (model prog w) A (.call (.ref f) args) R s := by
  refine codeAny_call_function hroom ho hdata hco hgen rfl hcd (hbind _ _ _ _ ?_)
  refine wpAny_newFunctionEnv hcell hloc (fun h₀ hns hsb => ⟨hlim.fresh _ hsb, codeAny_func ?_⟩) hk
  have hk₀ : ∀ b o, s.heap.get? b = some o → h₀.get? b = some o := fun b o e => hsb.extBut b o (Nat.ne_of_lt (Heap.lt_size e)) (Heap.get?_push_of_some _ e)
  exact h _ _ rfl (cx_entry S M led hled hnod rfl hns hk₀ hk rfl)
end
end Mine
end
section
set_option maxRecDepth 100000
set_option autoImplicit false
set_option genInjectivity false
set_option genSizeOf false
namespace Mine
open PySem PySem.W PySem.Calls PyProof.Rows PySem.Spec

theorem owner_map : Manifest.owners.lookup (String.ofList ['p', 'a', 'm'].reverse) = some Manifest.sig_map := by kernel_rfl
theorem slot_map_init : Slot "map" "__init__" "object.__init__" :=
  .of (owner := "object") (n := "__init__") (by rw [typeLookup_type, builtinLookup_eq_fast]; kernel_rfl) (by decide +kernel) (by decide +kernel) (by decide +kernel)
    (.inl (by decide +kernel)) (by rw [isSubtype_type]; kernel_rfl)
theorem slot_map_iter : Slot "map" "__iter__" "map.__iter__" :=
  .of (owner := "map") (n := "__iter__") (by rw [typeLookup_type, builtinLookup_eq_fast]; kernel_rfl) (by decide +kernel) (by decide +kernel) (by decide +kernel)
    (.inl (by decide +kernel)) (by rw [isSubtype_type]; kernel_rfl)
theorem slot_map_next : Slot "map" "__next__" "map.__next__" :=
  .of (owner := "map") (n := "__next__") (by rw [typeLookup_type, builtinLookup_eq_fast]; kernel_rfl) (by decide +kernel) (by decide +kernel) (by decide +kernel)
    (.inl (by decide +kernel)) (by rw [isSubtype_type]; kernel_rfl)
theorem args_map_iter (a : Value) : argsOk "map.__iter__" ⟨[a], []⟩ := by
  unfold argsOk; rw [signature?_of (id := "map.__iter__") (n := ['_', '_', 'r', 'e', 't', 'i', '_', '_']) (o := ['p', 'a', 'm']) (by kernel_rfl) owner_map]; kernel_rfl
theorem args_map_next (a : Value) : argsOk "map.__next__" ⟨[a], []⟩ := by
  unfold argsOk; rw [signature?_of (id := "map.__next__") (n := ['_', '_', 't', 'x', 'e', 'n', '_', '_']) (o := ['p', 'a', 'm']) (by kernel_rfl) owner_map]; kernel_rfl
theorem entry_map_iter : entryFor table "map.__iter__" = some Builtin.«dict_keyiterator.__iter__» :=
  entryFor_alias (id' := "dict_keyiterator.__iter__") (by kernel_rfl) (by first | rfl | decide +kernel | (unfold String.splitOn; simp +decide [String.splitOnAux])) (by decide +kernel) (by kernel_rfl)
theorem entry_map_next : entryFor table "map.__next__" = some Builtin.«map.__next__» := entryFor_of_tree (by kernel_rfl)
theorem entry_map_new : entryFor table "map.__new__" = some Builtin.«map.__new__» := entryFor_of_tree (by kernel_rfl)
theorem mro_map : mroOf (.type "map") = pure [.type "map", .type "object"] := by rw [mroOf_type]; kernel_rfl
theorem lookup_map_new : typeLookup (.type "map") "__new__" = pure (some (.builtin "map.__new__")) := by rw [typeLookup_type, builtinLookup_eq_fast]; kernel_rfl
theorem called_map : TypeCalled "map" "map.__new__" "object.__init__" :=
  ⟨by decide +kernel, by decide +kernel, ⟨_, _, mro_map⟩, madeBy_type mro_map lookup_map_new (by decide +kernel), by decide +kernel, by rw [isSubtype_type]; kernel_rfl, slot_map_init⟩
theorem typeCall_map (a b : Value) : checkTypeCall "map" ⟨[a, b], []⟩ = pure () := by kernel_rfl
theorem newCall_map (a b : Value) : checkBuiltinCall "map.__new__" ⟨[.type "map", a, b], []⟩ = pure () := by kernel_rfl
theorem sub_map : isSubtype (.type "map") (.type "map") = pure true := by rw [isSubtype_type]; kernel_rfl
theorem plain_map_new : plainId "map.__new__" = true := by decide +kernel

noncomputable abbrev mapO (TI : Addr) (f : Value) : Obj := { cls := .type "map", data := .fields #[.ref TI, f] }
section
variable {prog : Program} {w : World} {A : Around} {E : Value → Shared → Prop} {s : Shared}
theorem nextOf_map {mo TI J : Addr} {f : Value} {Q : Value → Shared → Prop} (hmo : s.heap.get? mo = some (mapO TI f)) (hTI : s.heap.get? TI = some (tupO [.ref J]))
    (h : wpAny (model prog w) A.in1 (Builtin.SmallTypes.nextOf (.ref J)) (fun v s1 => s1.heap.get? mo = some (mapO TI f) ∧ wpAny (model prog w) A.in1 (PySem.call f [v]) Q E s1) E s) : wpAny (model prog w) A (Builtin.SmallTypes.nextOf (.ref mo)) Q E s := by
  have hT : s.TypeIs (.ref mo) "map" := ⟨_, hmo, rfl⟩
  unfold Builtin.SmallTypes.nextOf
  refine wpAny_bind (wpAny_callSpecial?_slot (name := Str.ofString "__next__") hT slot_map_next (wpAny_call_entry slot_map_next hT entry_map_next ?_ (args_map_next _)))
  show wpAny _ _ (field (.ref mo) 0 >>= _) _ _ s
  refine wpAny_bind (wpAny_field hmo rfl (x := .ref TI) rfl ?_)
  refine wpAny_bind (wpAny_seqItems hTI rfl ?_)
  refine wpAny_bind (wp_forIn_arr (l := [Value.ref J]) (wp_forIn_cons (wpAny_bind (wpAny_holding (wpAny_mono h (fun v s1 h1 => wpAny_pure (wp_forIn_nil ?_)) fun _ _ z => z)))))
  obtain ⟨hm1, h1⟩ := h1
  refine wpAny_bind (wpAny_field hm1 rfl (x := f) rfl ?_)
  refine wpAny_bind (wpAny_holding ?_)
  refine wpAny_mono h1 (fun r s2 h2 => ?_) fun _ _ z => z
  refine wpAny_bind (wpAny_letGo (wpAny_pure ⟨r, rfl, wpAny_pure h2⟩))
theorem map_new {v f : Value} {Q : Value → Shared → Prop}
    (h : wpAny (model prog w) A.in1 (pyIter v) (fun J s1 => wpAny (model prog w) A.in1 (newTuple [J]) (fun TI s2 =>
      Q (.ref s2.heap.objs.size) { s2 with heap := s2.heap.push { cls := .type "map", data := .fields #[TI, f] } }) (fun e s' => wants Q E (.error e) s') s1) (fun e s' => wants Q E (.error e) s') s) :
    codeAny (model prog w) A (.call (.builtin "map.__new__") ⟨[.type "map", f, v], []⟩) (wants Q E) s := by
  refine codeAny_of_tree ?_
  show wpAny _ A.in1 (do checkBuiltinCall "map.__new__" ⟨[.type "map", f, v], []⟩; again (.builtin "map.__new__" ⟨[.type "map", f, v], []⟩)) _ _ s
  refine wpAny_bind (wpAny_of_eq (newCall_map _ _) (wpAny_pure ⟨plainId_quiet plain_map_new _, codeAny_plain entry_map_new plain_map_new ?_⟩))
  have hsub := sub_map
  unfold Builtin.«map.__new__»
  refine wpAny_bind ?_
  unfold Builtin.SmallTypes.newClass
  dsimp only
  refine wpAny_bind (m := isType (.type "map")) (wpAny_pure ?_)
  (try simp only [Bool.not_true, Bool.false_eq_true, if_false])
  rw [hsub]
  refine wpAny_bind (wpAny_pure ?_)
  (try simp only [Bool.not_true, Bool.false_eq_true, if_false])
  refine wpAny_pure ?_
  dsimp only
  unfold Builtin.SmallTypes.refuseKeywords
  refine wpAny_bind (ite_yes (c := List.isEmpty ([] : List (Str × Value)) = true) rfl (wpAny_pure ?_))
  refine ite_no (show ¬ (2 < 2) from Nat.lt_irrefl 2) ?_
  refine wpAny_bind ?_
  unfold Builtin.SmallTypes.iterAll
  refine wpAny_bind (wp_forIn_cons (wpAny_bind (wpAny_holding (wpAny_mono h (fun J s1 h1 => wpAny_pure (wp_forIn_nil ?_)) fun _ _ z => z))))
  refine wpAny_pure ?_
  refine wpAny_bind (wpAny_mono h1 (fun TI s2 h2 => ?_) fun _ _ z => z)
  refine wpAny_bind ?_
  show wpAny _ _ (newObj (.type "map") (.fields #[TI, f])) _ _ _
  exact wpAny_newObj_type (wpAny_pure h2) (by size_fits)
end
end Mine
end
section
set_option maxRecDepth 100000
set_option autoImplicit false
namespace Mine
open PySem PySem.Float64

theorem compare_scale (p q K : Int) (hK : 0 < K) : compare p q = compare (p * K) (q * K) := by
  rcases Int.lt_trichotomy p q with h | h | h
  · rw [Int.compare_eq_lt.mpr h, Int.compare_eq_lt.mpr (Int.mul_lt_mul_of_pos_right h hK)]
  · subst h; simp
  · rw [Int.compare_eq_gt.mpr h, Int.compare_eq_gt.mpr (Int.mul_lt_mul_of_pos_right h hK)]
theorem cmp_val {x y : UInt64} {a b : Bool} {m k : Nat} {e f : Int} (hx : decode x = .fin a m e) (hy : decode y = .fin b k f) : Float64.cmp x y = some (compare (val x) (val y)) := by
  have he := decode_ge hx
  have hf := decode_ge hy
  have hpow : ∀ n : Nat, ((2 ^ n : Nat) : Int) = (2 : Int) ^ n := fun n => by simp
  have hpos : ∀ n : Nat, (0 : Int) < (2 : Int) ^ n := fun n => by rw [← hpow]; exact Int.ofNat_lt.mpr (Nat.two_pow_pos _)
  have hv : val x = sgn a m * ((2 ^ (e + 1074).toNat : Nat) : Int) := by rw [val_eq hx, sgn_mul]
  have hw : val y = sgn b k * ((2 ^ (f + 1074).toNat : Nat) : Int) := by rw [val_eq hy, sgn_mul]
  unfold Float64.cmp
  rw [hx, hy]
  simp only [align]
  congr 1
  rw [compare_scale _ _ ((2 : Int) ^ (min e f + 1074).toNat) (hpos _), hv, hw, hpow, hpow, sgn_mul, sgn_mul, hpow, hpow, Int.mul_assoc, Int.mul_assoc, ← Int.pow_add, ← Int.pow_add]
  have e1 : (e - min e f).toNat + (min e f + 1074).toNat = (e + 1074).toNat := by omega
  have e2 : (f - min e f).toNat + (min e f + 1074).toNat = (f + 1074).toNat := by omega
  rw [e1, e2]
theorem hf_cmp {a b : Int} (ha : a.natAbs ≤ 2 ^ 52) (hb : b.natAbs ≤ 2 ^ 52) : Float64.cmp (hf a) (hf b) = some (compare a b) := by
  obtain ⟨m, e, d1, v1⟩ := hf_dec ha
  obtain ⟨k, f, d2, v2⟩ := hf_dec hb
  rw [cmp_val d1 d2, v1, v2, ← compare_scale a b _ pow_pos_i]
theorem hf_cmpInt {a i : Int} (ha : a.natAbs ≤ 2 ^ 52) : Float64.cmpInt (hf a) i = some (compare a (2 * i)) := by
  obtain ⟨m, e, d1, v1⟩ := hf_dec ha
  rw [cmpInt_right d1, v1, show i * 2 ^ 1074 = (2 * i) * 2 ^ 1073 by rw [show (2 : Int) ^ 1074 = 2 ^ 1073 * 2 from Int.pow_succ .., Int.mul_comm 2 i, Int.mul_assoc, Int.mul_comm 2], ← compare_scale a (2 * i) _ pow_pos_i]
theorem hf_lt {a b : Int} (ha : a.natAbs ≤ 2 ^ 52) (hb : b.natAbs ≤ 2 ^ 52) : (Float64.cmp (hf a) (hf b) == some .lt) = decide (a < b) := by
  rw [hf_cmp ha hb]
  rcases Int.lt_trichotomy a b with h | h | h
  · rw [Int.compare_eq_lt.mpr h]; simp [h]
  · subst h; simp
  · rw [Int.compare_eq_gt.mpr h]; simp; omega
theorem hf_eq {a b : Int} (ha : a.natAbs ≤ 2 ^ 52) (hb : b.natAbs ≤ 2 ^ 52) : (Float64.cmp (hf a) (hf b) == some .eq) = decide (a = b) := by
  rw [hf_cmp ha hb]
  rcases Int.lt_trichotomy a b with h | h | h
  · rw [Int.compare_eq_lt.mpr h]; simp; omega
  · subst h; simp
  · rw [Int.compare_eq_gt.mpr h]; simp; omega
theorem hf_inj {a b : Int} (ha : a.natAbs ≤ 2 ^ 52) (hb : b.natAbs ≤ 2 ^ 52) (h : hf a = hf b) : a = b := by
  have h1 := hf_eq ha hb
  rw [h, hf_eq hb hb] at h1
  simpa using h1.symm
end Mine
end
section
set_option maxRecDepth 100000
set_option autoImplicit false
set_option genInjectivity false
set_option genSizeOf false
namespace Mine
open PySem PySem.W PySem.Calls PyProof.Rows PySem.Spec

noncomputable def strLt : Value → Value → Bool
  | .str a _, .str b _ => decide (a.cps.toList < b.cps.toList)
  | _, _ => false
noncomputable def strEq : Value → Value → Bool
  | .str a _, .str b _ => decide (a = b)
  | _, _ => false
theorem str_ext {a b : Str} (h : a.cps.toList = b.cps.toList) : a = b := by
  cases a; cases b
  simp only [Str.mk.injEq]
  exact Array.toList_inj.mp h
theorem is_str {prog : Program} {w : World} {A : Around} {E : Value → Shared → Prop} {s : Shared} {x y : Str} {t u : Tok} {Q : Value → Shared → Prop} (hb : NoneBooked s.heap) (ht : t ≠ 0) (hu : u ≠ 0) (hq : t = u → x = y) (h : ∀ r, (r = true → x = y) → Q (.bool r) s) : wpAny (model prog w) A (compareOp .Is (.str x t) (.str y u)) Q E s := by
  show wpAny (model prog w) A (do return Value.bool (← isSame (.str x t) (.str y u))) Q E s
  refine wpAny_bind ?_
  show wpAny _ _ (isSame.created (x == y) t u) _ _ _
  exact created_any hb ht hu fun r hr => wpAny_pure (h r fun e => (hr e).elim hq fun q => by simpa using q)
noncomputable def strKey : KeyOps where
  P := fun v => ∃ n t, v = .str n t
  lt := strLt
  eq := strEq
  ty := .type "str"
  eq_iff := by
    rintro _ _ ⟨a, t, rfl⟩ ⟨b, u, rfl⟩
    simp only [strLt, strEq, decide_eq_true_eq, decide_eq_false_iff_not]
    exact ⟨fun h => by subst h; exact ⟨List.lt_irrefl _, List.lt_irrefl _⟩, fun h => str_ext (List.le_antisymm (List.not_lt.mp h.2) (List.not_lt.mp h.1))⟩
  irrefl := by rintro _ ⟨a, t, rfl⟩; simp only [strLt, decide_eq_false_iff_not]; exact List.lt_irrefl _
  trans := by rintro _ _ _ ⟨a, t, rfl⟩ ⟨b, u, rfl⟩ ⟨c, v, rfl⟩; simp only [strLt, decide_eq_true_eq]; exact List.lt_trans
  neg := by
    rintro _ _ _ ⟨a, t, rfl⟩ ⟨b, u, rfl⟩ ⟨c, v, rfl⟩
    simp only [strLt, decide_eq_true_eq]
    intro h
    by_cases hab : a.cps.toList < b.cps.toList
    · exact .inl hab
    · exact .inr (List.lt_of_le_of_lt (List.not_lt.mp hab) h)
  hty := by rintro M h _ ⟨a, t, rfl⟩; exact Looks.of_pure rfl
  nty := by decide
  hd := by rintro _ ⟨a, t, rfl⟩; rfl
  eqR := by rintro prog w A E s _ _ Q _ ⟨a, t, rfl⟩ ⟨b, u, rfl⟩ _ _ _ h; exact wpAny_eqBool_str h
  ltR := by
    rintro prog w A E s b _ _ Q ⟨x, t, rfl⟩ ⟨y, u, rfl⟩ h
    cases b with
    | true => exact oneLt_str h
    | false => exact kat_one _ _ (lt_str h)
  cmpR := by
    rintro prog w A E s _ _ Q ⟨a, t, rfl⟩ ⟨b, u, rfl⟩ h
    refine eq_str ?_
    have e : strEq (.str a t) (.str b u) = (a == b) := by simp only [strEq]; by_cases q : a = b <;> simp [q]
    rw [← e]; exact h
  isR := by
    rintro prog w A E s _ _ Q hb ⟨a, t, rfl⟩ ⟨b, u, rfl⟩ ht hu hq h
    exact is_str hb ht hu (fun e => by simpa [strEq] using hq e) fun r hr => h r fun e => by simpa [strEq] using hr e

noncomputable def fltLt : Value → Value → Bool
  | .float a _, .float b _ => Float64.cmp a b == some .lt
  | _, _ => false
noncomputable def fltEq : Value → Value → Bool
  | .float a _, .float b _ => Float64.cmp a b == some .eq
  | _, _ => false
theorem is_flt {prog : Program} {w : World} {A : Around} {E : Value → Shared → Prop} {s : Shared} {x y : UInt64} {t u : Tok} {Q : Value → Shared → Prop} (hb : NoneBooked s.heap) (ht : t ≠ 0) (hu : u ≠ 0) (hq : t = u → x = y) (h : ∀ r, (r = true → x = y) → Q (.bool r) s) : wpAny (model prog w) A (compareOp .Is (.float x t) (.float y u)) Q E s := by
  show wpAny (model prog w) A (do return Value.bool (← isSame (.float x t) (.float y u))) Q E s
  refine wpAny_bind ?_
  show wpAny _ _ (isSame.created (x == y && !Float64.isNaN x) t u) _ _ _
  exact created_any hb ht hu fun r hr => wpAny_pure (h r fun e => (hr e).elim hq fun q => by simp at q; exact q.1)
theorem oneLt_flt {prog : Program} {w : World} {A : Around} {E : Value → Shared → Prop} {s : Shared} {a b : UInt64} {t u : Tok} {Q : Bool → Shared → Prop} (h : Q (Float64.cmp a b == some .lt) s) : wpAny (model prog w) A (oneLt' true (.float a t) (.float b u)) Q E s := by
  rw [oneLt'_eq]
  simp only [if_true]
  refine wpAny_bind (wpAny_cRoomFor_byValue rfl ?_)
  refine wpAny_bind (wpAny_callSpecialIfBound?_slot (AutoFloatOps.typeIs_float s a t) F.slot_float_lt (call_gives F.slot_float_lt (AutoFloatOps.typeIs_float s a t) F.entry_float_lt (F.args_float_lt_2 _ _) (AutoFloatG5.float___lt___float_float_0 a t b u) ?_))
  exact wpAny_truthy_bool h
theorem eqBool_flt {prog : Program} {w : World} {A : Around} {E : Value → Shared → Prop} {s : Shared} {a b : UInt64} {t u : Tok} {Q : Bool → Shared → Prop} (hb : NoneBooked s.heap) (ht : t ≠ 0) (hu : u ≠ 0) (hs : t = u ∨ a = b → Float64.cmp a b = some .eq) (h : Q (Float64.cmp a b == some .eq) s) : wpAny (model prog w) A (eqBool (.float a t) (.float b u)) Q E s := by
  unfold eqBool
  show wpAny _ _ (if (Value.float a t == Value.float b u) = true then _ else _) Q E s
  by_cases hab : (Value.float a t == Value.float b u) = true
  · rw [if_pos hab]
    have e := eq_of_beq hab
    injection e with e1 e2
    refine wpAny_bind (wpAny_rule (wpAny_pure ?_))
    rw [hs (.inl e2)] at h; exact h
  · rw [if_neg hab]
    refine wpAny_bind ?_
    show wpAny _ _ (isSame.created (a == b && !Float64.isNaN a) t u) _ _ _
    refine created_any hb ht hu fun r hr => ?_
    cases r with
    | true =>
      refine ite_yes rfl (wpAny_pure ?_)
      have : t = u ∨ a = b := (hr rfl).imp id fun q => by simp at q; exact q.1
      rw [hs this] at h; exact h
    | false =>
      refine ite_no Bool.false_ne_true ?_
      refine wpAny_bind (m := richCompare .Eq _ _) (wpAny_mono (M := model prog w) (show wpAny (model prog w) A (richCompare .Eq (.float a t) (.float b u)) (fun v s' => v = .bool (Float64.cmp a b == some .eq) ∧ s' = s) E s from AutoFloatOps.eq_0 (Q := fun v s' => v = .bool (Float64.cmp a b == some .eq) ∧ s' = s) ⟨rfl, rfl⟩) (fun v s' hv => ?_) fun _ _ z => z)
      obtain ⟨rfl, rfl⟩ := hv; exact wpAny_truthy_bool h
noncomputable def HfV (v : Value) (z : Int) : Prop := z.natAbs ≤ 2 ^ 52 ∧ ∃ t, v = .float (hf z) t
noncomputable def fltKey : KeyOps where
  P := fun v => ∃ z, HfV v z
  lt := fltLt
  eq := fltEq
  ty := .type "float"
  eq_iff := by rintro _ _ ⟨a, ha, t, rfl⟩ ⟨b, hb, u, rfl⟩; simp only [fltLt, fltEq]; rw [hf_lt ha hb, hf_lt hb ha, hf_eq ha hb]; simp; omega
  irrefl := by rintro _ ⟨a, ha, t, rfl⟩; simp only [fltLt]; rw [hf_lt ha ha]; simp
  trans := by rintro _ _ _ ⟨a, ha, t, rfl⟩ ⟨b, hb, u, rfl⟩ ⟨c, hc, v, rfl⟩; simp only [fltLt]; rw [hf_lt ha hb, hf_lt hb hc, hf_lt ha hc]; simp; omega
  neg := by rintro _ _ _ ⟨a, ha, t, rfl⟩ ⟨b, hb, u, rfl⟩ ⟨c, hc, v, rfl⟩; simp only [fltLt]; rw [hf_lt ha hb, hf_lt hb hc, hf_lt ha hc]; simp; omega
  hty := by rintro M h _ ⟨a, ha, t, rfl⟩; exact Looks.of_pure rfl
  nty := by decide
  hd := by rintro _ ⟨a, ha, t, rfl⟩; rfl
  eqR := by
    rintro prog w A E s _ _ Q hbk ⟨a, ha, t, rfl⟩ ⟨b, hb, u, rfl⟩ ht hu hq h
    refine eqBool_flt hbk ht hu (fun e => ?_) h
    rcases e with e | e
    · have := hq e; simp only [fltEq] at this; exact eq_of_beq this
    · have := hf_inj ha hb e
      subst this
      rw [hf_cmp ha ha]; simp
  ltR := by
    rintro prog w A E s b _ _ Q ⟨x, hx, t, rfl⟩ ⟨y, hy, u, rfl⟩ h
    cases b with
    | true => exact oneLt_flt h
    | false => exact kat_one _ _ (AutoFloatOps.lt_0 h)
  cmpR := by rintro prog w A E s _ _ Q ⟨a, ha, t, rfl⟩ ⟨b, hb, u, rfl⟩ h; exact AutoFloatOps.eq_0 h
  isR := by
    rintro prog w A E s _ _ Q hbk ⟨a, ha, t, rfl⟩ ⟨b, hb, u, rfl⟩ ht hu hq h
    have k : ∀ {x y : Int}, x.natAbs ≤ 2 ^ 52 → y.natAbs ≤ 2 ^ 52 → fltEq (.float (hf x) t) (.float (hf y) u) = true → x = y := fun hx hy q => by simp only [fltEq] at q; rw [hf_eq hx hy] at q; simpa using q
    refine is_flt hbk ht hu (fun e => by rw [k ha hb (hq e)]) fun r hr => h r fun e => ?_
    have := hf_inj ha hb (hr e)
    subst this
    simp only [fltEq]; rw [hf_eq ha ha]; simp

structure KeyZ (κ : KeyOps) where
  KV : Value → Int → Prop
  P : ∀ {v a}, KV v a → κ.P v
  lt : ∀ {x y a b}, KV x a → KV y b → κ.lt x y = decide (a < b)
  eq : ∀ {x y a b}, KV x a → KV y b → κ.eq x y = decide (a = b)
noncomputable def intZ : KeyZ intKey where
  KV := fun v a => ∃ t, v = .int a t
  P := by rintro _ a ⟨t, rfl⟩; exact ⟨_, _, rfl⟩
  lt := by rintro _ _ a b ⟨t, rfl⟩ ⟨u, rfl⟩; rfl
  eq := by rintro _ _ a b ⟨t, rfl⟩ ⟨u, rfl⟩; show (a == b) = _; by_cases q : a = b <;> simp [q]
noncomputable def sgnS (a : Int) : Str := ⟨#[97 + a.toNat]⟩
noncomputable def strZ : KeyZ strKey where
  KV := fun v a => 0 ≤ a ∧ ∃ t, v = .str (sgnS a) t
  P := by rintro _ a ⟨_, t, rfl⟩; exact ⟨_, _, rfl⟩
  lt := by
    rintro _ _ a b ⟨ha, t, rfl⟩ ⟨hb, u, rfl⟩
    show decide ([97 + a.toNat] < [97 + b.toNat]) = _
    rw [decide_eq_decide, List.cons_lt_cons_iff]
    constructor
    · rintro (h | ⟨_, h⟩)
      · omega
      · exact absurd h (List.lt_irrefl _)
    · intro h; left; omega
  eq := by
    rintro _ _ a b ⟨ha, t, rfl⟩ ⟨hb, u, rfl⟩
    show decide (sgnS a = sgnS b) = _
    rw [decide_eq_decide]
    constructor
    · intro h
      have : (sgnS a).cps.toList = (sgnS b).cps.toList := by rw [h]
      simp [sgnS] at this
      omega
    · intro h; rw [h]
noncomputable def fltZ : KeyZ fltKey where
  KV := HfV
  P := fun h => ⟨_, h⟩
  lt := by rintro _ _ a b ⟨ha, t, rfl⟩ ⟨hb, u, rfl⟩; exact hf_lt ha hb
  eq := by rintro _ _ a b ⟨ha, t, rfl⟩ ⟨hb, u, rfl⟩; exact hf_eq ha hb
end Mine
end
section
set_option maxRecDepth 100000
set_option autoImplicit false
namespace Mine
open PySem PySem.W PySem.Calls PyProof.Rows PySem.Spec

section
variable {κ : KeyOps} {rows : List Row} {g : Row → Int}
theorem ordZ_le (ho : rows.Pairwise fun x y => g x ≤ g y) {i j : Nat} {x y : Row} (hij : i ≤ j) (hi : rows[i]? = some x) (hj : rows[j]? = some y) : g x ≤ g y := by
  rcases Nat.eq_or_lt_of_le hij with e | h
  · subst e; rw [hi] at hj; cases hj; exact Int.le_refl _
  · obtain ⟨a1, b1⟩ := List.getElem?_eq_some_iff.mp hi
    obtain ⟨a2, b2⟩ := List.getElem?_eq_some_iff.mp hj
    have := List.pairwise_iff_getElem.mp ho i j a1 a2 h
    rw [b1, b2] at this
    exact this
theorem grpZ_counts (he : ∀ x ∈ rows, ∀ y ∈ rows, κ.eq x.key y.key = decide (g x = g y)) (ho : rows.Pairwise fun x y => g x ≤ g y) {i0 i1 m : Nat} {q : Row} (hg : Grp κ rows i0 i1) (hu : Upto κ rows i0) (hm : rows[m]? = some q) (h0 : i0 ≤ m) (h1 : m < i1) :
    rows.countP (fun r => decide (g r < g q)) = i0 ∧ rows.countP (fun r => decide (g r = g q)) = i1 - i0 := by
  have get : ∀ i, i < rows.length → ∃ r, rows[i]? = some r := fun i hi => ⟨_, List.getElem?_eq_getElem hi⟩
  have mem : ∀ {i : Nat} {r : Row}, rows[i]? = some r → r ∈ rows := fun h => List.mem_of_getElem? h
  have eqt : ∀ {i j : Nat} {x y : Row}, rows[i]? = some x → rows[j]? = some y → κ.eq x.key y.key = true → g x = g y := fun hx hy h => by
    rw [he _ (mem hx) _ (mem hy)] at h; simpa using h
  have eqf : ∀ {i j : Nat} {x y : Row}, rows[i]? = some x → rows[j]? = some y → κ.eq x.key y.key = false → g x ≠ g y := fun hx hy h => by
    rw [he _ (mem hx) _ (mem hy)] at h; simpa using h
  have hlt := hg.lt
  have hle := hg.le
  obtain ⟨q0, hq0⟩ := get i0 (by lia)
  have hq0q := eqt hq0 hm (hg.same q0 m q hq0 h0 h1 hm)
  have same : ∀ i r, rows[i]? = some r → i0 ≤ i → i < i1 → g r = g q := fun i r hr a b => by rw [← eqt hq0 hr (hg.same q0 i r hq0 a b hr), hq0q]
  have below : ∀ i r, rows[i]? = some r → i < i0 → g r < g q := by
    intro i r hr hi
    rcases hu with rfl | ⟨ip, hp⟩
    · lia
    · have := hp.lt
      obtain ⟨qp, hqp⟩ := get ip (by lia)
      obtain ⟨ql, hql⟩ := get (i0 - 1) (by lia)
      have e1 := eqt hqp hql (hp.same qp (i0 - 1) ql hqp (by lia) (by lia) hql)
      have e2 := eqf hqp hq0 (hp.stop qp q0 hqp hq0)
      have a1 := ordZ_le ho (i := i) (j := i0 - 1) (by lia) hr hql
      have a2 := ordZ_le ho (i := i0 - 1) (j := i0) (by lia) hql hq0
      omega
  have above : ∀ i r, rows[i]? = some r → i1 ≤ i → g q < g r := by
    intro i r hr hi
    have hil := (List.getElem?_eq_some_iff.mp hr).1
    obtain ⟨q1, hq1⟩ := get i1 (by lia)
    have e2 := eqf hq0 hq1 (hg.stop q0 q1 hq0 hq1)
    have a1 := ordZ_le ho hi hq1 hr
    have a2 := ordZ_le ho (i := i0) (j := i1) (by lia) hq0 hq1
    omega
  constructor
  · have := countP_range (p := fun r => decide (g r < g q)) (rows := rows) (i0 := 0) (i1 := i0) (Nat.zero_le _) (by lia) (fun i r hr => by
      simp only [decide_eq_true_eq]
      constructor
      · intro h
        refine ⟨Nat.zero_le _, ?_⟩
        apply Classical.byContradiction
        intro hc
        by_cases h2 : i < i1
        · have := same i r hr (by lia) h2; omega
        · have := above i r hr (by lia); omega
      · intro h; exact below i r hr h.2)
    simpa using this
  · refine countP_range (p := fun r => decide (g r = g q)) (rows := rows) (i0 := i0) (i1 := i1) (by lia) (by omega) (fun i r hr => ?_)
    simp only [decide_eq_true_eq]
    constructor
    · intro h
      apply Classical.byContradiction
      intro hc
      by_cases h2 : i < i0
      · have := below i r hr h2; omega
      · have := above i r hr (by lia); omega
    · intro h; exact same i r hr h.1 h.2
end
noncomputable def dirZ (rv : Bool) (a : Int) : Int := if rv then -a else a
theorem dirZ_inj (rv : Bool) (a b : Int) : dirZ rv a = dirZ rv b ↔ a = b := by cases rv <;> simp [dirZ]

theorem rank_at {κ : KeyOps} (Z : KeyZ κ) {rv : Bool} {z : Int} {rows rows' : List Row} {rvals : List Value} {as : List Int} (hlen : rows.length = as.length) (hk : ∀ (j : Nat) (q : Row) (a : Int), rows[j]? = some q → as[j]? = some a → Z.KV q.key a)
    (hpos : ∀ (j : Nat) (q : Row), rows[j]? = some q → ∃ t, q.pos = .int j t) (hperm : rows'.Perm rows) (hord : OrdR κ rv rows') (hr : RK κ rows' z rows.length rvals) :
    rvals.length = as.length ∧ ∀ (j : Nat) (a : Int), as[j]? = some a →
      ∃ t, rvals[j]? = some (.float (hf (z + 2 * (as.countP fun x => decide (dirZ rv x < dirZ rv a)) + (as.countP fun x => decide (x = a)) + 1)) t) := by
  have hl' : rows'.length = rows.length := hperm.length_eq
  let f : Row → Int := fun q => dirZ rv (as.getD (posI q).toNat 0)
  have posJ : ∀ {j : Nat} {q : Row}, rows[j]? = some q → (posI q).toNat = j := fun h => by
    obtain ⟨t, ht⟩ := hpos _ _ h
    unfold posI; rw [ht]; rfl
  have hf' : ∀ {j : Nat} {q : Row} {a : Int}, rows[j]? = some q → as[j]? = some a → f q = dirZ rv a := fun h h2 => by
    show dirZ rv (as.getD _ 0) = _
    rw [posJ h, List.getD_eq_getElem?_getD, h2]; rfl
  have atq : ∀ q ∈ rows, ∃ j a, rows[j]? = some q ∧ as[j]? = some a ∧ Z.KV q.key a ∧ f q = dirZ rv a := fun q hq => by
    obtain ⟨j, hj, e⟩ := List.mem_iff_getElem.mp hq
    have h1 : rows[j]? = some q := by rw [List.getElem?_eq_getElem hj, e]
    have h2 : as[j]? = some as[j] := List.getElem?_eq_getElem (by lia)
    exact ⟨j, _, h1, h2, hk j q _ h1 h2, hf' h1 h2⟩
  have atq' : ∀ q ∈ rows', ∃ j a, rows[j]? = some q ∧ as[j]? = some a ∧ Z.KV q.key a ∧ f q = dirZ rv a := fun q hq => atq q (hperm.mem_iff.mp hq)
  have he : ∀ x ∈ rows', ∀ y ∈ rows', κ.eq x.key y.key = decide (f x = f y) := fun x hx y hy => by
    obtain ⟨_, a, _, _, k1, e1⟩ := atq' x hx
    obtain ⟨_, b, _, _, k2, e2⟩ := atq' y hy
    rw [Z.eq k1 k2, e1, e2, decide_eq_decide, dirZ_inj]
  have hlt : ∀ x ∈ rows', ∀ y ∈ rows', ∃ a b, f x = dirZ rv a ∧ f y = dirZ rv b ∧ κ.lt x.key y.key = decide (a < b) ∧ κ.eq x.key y.key = decide (a = b) := fun x hx y hy => by
    obtain ⟨_, a, _, _, k1, e1⟩ := atq' x hx
    obtain ⟨_, b, _, _, k2, e2⟩ := atq' y hy
    exact ⟨a, b, e1, e2, Z.lt k1 k2, Z.eq k1 k2⟩
  have ho : rows'.Pairwise fun x y => f x ≤ f y := by
    unfold OrdR at hord
    have le : ∀ x ∈ rows', ∀ y ∈ rows', (if rv = true then ltR κ y x = true else ltR κ x y = true) → f x ≤ f y := fun x hx y hy h => by
      obtain ⟨a, b, e1, e2, e3, e4⟩ := hlt x hx y hy
      obtain ⟨b', a', e5, e6, e7, e8⟩ := hlt y hy x hx
      cases rv with
      | true =>
        rw [if_pos rfl] at h
        simp only [ltR, Bool.or_eq_true, Bool.and_eq_true, decide_eq_true_eq, e7, e8] at h
        rw [e5, e6]; simp only [dirZ, if_true]
        rcases h with h | ⟨h, _⟩ <;> omega
      | false =>
        rw [if_neg Bool.false_ne_true] at h
        simp only [ltR, Bool.or_eq_true, Bool.and_eq_true, decide_eq_true_eq, e3, e4] at h
        rw [e1, e2]; simp only [dirZ, Bool.false_eq_true, if_false]
        rcases h with h | ⟨h, _⟩ <;> omega
    split at hord
    · rename_i hb
      exact List.Pairwise.imp_of_mem (fun {x y} hx hy h => le x hx y hy (by rw [if_pos hb]; exact h)) hord
    · rename_i hb
      exact List.Pairwise.imp_of_mem (fun {x y} hx hy h => le x hx y hy (by rw [if_neg hb]; exact h)) hord
  obtain ⟨hl, hr⟩ := hr
  refine ⟨by lia, fun j a hj => ?_⟩
  obtain ⟨q, hq⟩ : ∃ q, rows[j]? = some q := ⟨_, List.getElem?_eq_getElem (by have := (List.getElem?_eq_some_iff.mp hj).1; lia)⟩
  obtain ⟨m, hm⟩ := List.mem_iff_getElem?.mp (hperm.mem_iff.mpr (List.mem_of_getElem? hq))
  obtain ⟨i0, i1, hg, hu, h0, h1, t, ht⟩ := hr m q (by have := (List.getElem?_eq_some_iff.mp hm).1; lia) hm
  obtain ⟨c1, c2⟩ := grpZ_counts (g := f) he ho hg hu hm h0 h1
  rw [hperm.countP_eq] at c1 c2
  have rowsAs : rows.map f = as.map (dirZ rv) := by
    apply List.ext_getElem?
    intro i
    rw [List.getElem?_map, List.getElem?_map]
    cases e : rows[i]? with
    | none => rw [List.getElem?_eq_none (by have := List.getElem?_eq_none_iff.mp e; lia)]; rfl
    | some r =>
      obtain ⟨b, hb⟩ : ∃ b, as[i]? = some b := ⟨_, List.getElem?_eq_getElem (by have := (List.getElem?_eq_some_iff.mp e).1; lia)⟩
      rw [hb]; show some (f r) = _; rw [hf' e hb]; rfl
  have cm : ∀ p : Int → Bool, rows.countP (fun r => p (f r)) = as.countP fun x => p (dirZ rv x) := fun p => by
    have h1 : rows.countP (fun r => p (f r)) = (rows.map f).countP p := by rw [List.countP_map]; rfl
    rw [h1, rowsAs, List.countP_map]; rfl
  have d1 : as.countP (fun x => decide (dirZ rv x < dirZ rv a)) = i0 := by
    rw [← cm fun y => decide (y < dirZ rv a), ← c1, hf' hq hj]
  have d2 : as.countP (fun x => decide (x = a)) = i1 - i0 := by
    have := cm fun y => decide (y = dirZ rv a)
    rw [← hf' hq hj, c2] at this
    rw [this]
    refine List.countP_congr fun x _ => ?_
    rw [hf' hq hj, decide_eq_true_eq, decide_eq_true_eq, dirZ_inj]
  refine ⟨t, ?_⟩
  rw [posJ hq] at ht
  rw [ht, d1, d2]
  have : z + 2 * (i0 : Int) + ((i1 - i0 : Nat) : Int) + 1 = z + i0 + i1 + 1 := by have := hg.lt; lia
  rw [this]
end Mine
end
section
set_option maxRecDepth 100000
set_option autoImplicit false
namespace Mine

noncomputable def wN (bs : List Int) (b : Int) : Int := 2 * (bs.countP fun x => decide (x < b)) + (bs.countP fun x => decide (x = b))
theorem wN_cons (c : Int) (bs : List Int) (b : Int) : wN (c :: bs) b = wN bs b + (if c < b then 2 else 0) + (if c = b then 1 else 0) := by
  unfold wN
  rw [List.countP_cons, List.countP_cons]
  simp only [decide_eq_true_eq]
  split <;> split <;> omega
theorem three_counts (c : Int) (bs : List Int) : (bs.countP (fun x => decide (x < c))) + (bs.countP fun x => decide (x = c)) + (bs.countP fun x => decide (c < x)) = bs.length := by
  induction bs with
  | nil => rfl
  | cons d r ih =>
    rw [List.countP_cons, List.countP_cons, List.countP_cons, List.length_cons]
    simp only [decide_eq_true_eq]
    split <;> split <;> split <;> omega
theorem sum_w (bs : List Int) : (bs.map (wN bs)).sum = (bs.length : Int) * bs.length := by
  have step : ∀ (c : Int) (us bs : List Int), (us.map (wN (c :: bs))).sum = (us.map (wN bs)).sum + 2 * (us.countP fun x => decide (c < x)) + (us.countP fun x => decide (x = c)) := by
    intro c us bs
    induction us with
    | nil => rfl
    | cons u r ih =>
      rw [List.map_cons, List.map_cons, List.sum_cons, List.sum_cons, ih, wN_cons, List.countP_cons, List.countP_cons]
      simp only [decide_eq_true_eq]
      split <;> split <;> split <;> omega
  induction bs with
  | nil => rfl
  | cons c r ih =>
    rw [List.map_cons, List.sum_cons, step, ih, wN_cons, List.length_cons]
    have := three_counts c r
    unfold wN
    rw [if_neg (Int.lt_irrefl c), if_pos rfl]
    push_cast
    rw [Int.add_mul, Int.mul_add]
    generalize hp : ((r.length : Int) * r.length) = p
    omega
noncomputable def rkN (T : Int) (bs : List Int) (b : Int) : Int := T + wN bs b - 1
theorem count_mono {bs : List Int} {b c : Int} (h : b < c) : (bs.countP fun x => decide (x < b)) + (bs.countP fun x => decide (x = b)) ≤ bs.countP fun x => decide (x < c) := by
  induction bs with
  | nil => exact Nat.le_refl _
  | cons d r ih =>
    rw [List.countP_cons, List.countP_cons, List.countP_cons]
    simp only [decide_eq_true_eq]
    split <;> split <;> split <;> omega
theorem count_self {bs : List Int} {b : Int} (h : b ∈ bs) : 1 ≤ bs.countP fun x => decide (x = b) :=
  List.countP_pos_iff.mpr ⟨b, h, by simp⟩
theorem rkN_lt {T : Int} {bs : List Int} {b c : Int} (hc : c ∈ bs) (h : b < c) : rkN T bs b < rkN T bs c := by
  have h1 := count_mono (bs := bs) h
  have h2 := count_self hc
  unfold rkN wN
  omega
theorem rkN_lt_iff {T : Int} {bs : List Int} {b c : Int} (hb : b ∈ bs) (hc : c ∈ bs) : rkN T bs b < rkN T bs c ↔ b < c := by
  constructor
  · intro h
    apply Classical.byContradiction
    intro hn
    rcases Int.lt_or_eq_of_le (Int.not_lt.mp hn) with q | q
    · have := rkN_lt (T := T) hb q; omega
    · subst q; omega
  · exact rkN_lt hc
theorem rkN_eq_iff {T : Int} {bs : List Int} {b c : Int} (hb : b ∈ bs) (hc : c ∈ bs) : rkN T bs b = rkN T bs c ↔ b = c := by
  constructor
  · intro h
    rcases Int.lt_trichotomy b c with q | q | q
    · have := rkN_lt (T := T) hc q; omega
    · exact q
    · have := rkN_lt (T := T) hb q; omega
  · intro h; rw [h]
theorem wN_map {bs : List Int} {g : Int → Int} {b : Int} (h : ∀ x ∈ bs, (g x < g b ↔ x < b) ∧ (g x = g b ↔ x = b)) : wN (bs.map g) (g b) = wN bs b := by
  unfold wN
  rw [List.countP_map, List.countP_map]
  congr 1
  · congr 2
    refine List.countP_congr fun x hx => ?_
    simp only [Function.comp, decide_eq_true_eq]; exact (h x hx).1
  · congr 1
    refine List.countP_congr fun x hx => ?_
    simp only [Function.comp, decide_eq_true_eq]; exact (h x hx).2
theorem rkN_again {T : Int} {bs : List Int} {b : Int} (hb : b ∈ bs) : rkN T (bs.map (rkN T bs)) (rkN T bs b) = rkN T bs b := by
  have := wN_map (bs := bs) (g := rkN T bs) (b := b) fun x hx => ⟨rkN_lt_iff hx hb, rkN_eq_iff hx hb⟩
  show T + wN (bs.map (rkN T bs)) (rkN T bs b) - 1 = T + wN bs b - 1
  rw [this]
theorem wN_filter {bs : List Int} {b c : Int} (h : c ≤ b) : wN (bs.filter fun x => decide (x ≤ b)) c = wN bs c := by
  unfold wN
  rw [List.countP_filter, List.countP_filter]
  congr 1
  · congr 2
    refine List.countP_congr fun x hx => ?_
    simp only [Bool.and_eq_true, decide_eq_true_eq]; omega
  · congr 1
    refine List.countP_congr fun x hx => ?_
    simp only [Bool.and_eq_true, decide_eq_true_eq]; omega
theorem rkN_sum (T : Int) (bs : List Int) (b : Int) : ((bs.filter fun x => decide (x ≤ b)).map (rkN T bs)).sum = ((bs.filter fun x => decide (x ≤ b)).length : Int) * (T + (bs.filter fun x => decide (x ≤ b)).length - 1) := by
  have e : (bs.filter fun x => decide (x ≤ b)).map (rkN T bs) = (bs.filter fun x => decide (x ≤ b)).map fun x => (T - 1) + wN (bs.filter fun x => decide (x ≤ b)) x := by
    refine List.map_congr_left fun x hx => ?_
    have := (List.mem_filter.mp hx).2
    rw [wN_filter (by simpa using this)]
    unfold rkN; omega
  rw [e]
  generalize bs.filter (fun x => decide (x ≤ b)) = fs
  have add : ∀ (us : List Int) (f : Int → Int) (k : Int), (us.map fun x => k + f x).sum = us.length * k + (us.map f).sum := by
    intro us f k
    induction us with
    | nil => simp
    | cons u r ih =>
      rw [List.map_cons, List.map_cons, List.sum_cons, List.sum_cons, ih, List.length_cons]
      push_cast
      rw [Int.add_mul]
      omega
  rw [add, sum_w, ← Int.mul_add]
  congr 1
  omega
theorem wN_bound (bs : List Int) (b : Int) : 0 ≤ wN bs b ∧ wN bs b ≤ 2 * bs.length := by
  have := three_counts b bs
  unfold wN
  omega
end Mine
end
section
set_option maxRecDepth 100000
set_option autoImplicit false
set_option genInjectivity false
set_option genSizeOf false
namespace Mine
open PySem PySem.W PySem.Calls PyProof.Rows PySem.Spec

structure KAcc {κ : KeyOps} (Z : KeyZ κ) (xs : List Value) (as : List Int) (acc : List Value) (t0 tk : Nat) : Prop where
  kv : ∀ (j : Nat) (k : Value), acc[j]? = some k → ∃ (x : Value) (a : Int), xs[j]? = some x ∧ as[j]? = some a ∧ Z.KV k a ∧ tokOf k ≠ 0 ∧ tokOf k < tk ∧ (k = x ∨ t0 ≤ tokOf k)
  ne : acc.Pairwise fun x y => tokOf x ≠ tokOf y
structure Olds (xs : List Value) (t0 : Nat) : Prop where
  lt : ∀ x ∈ xs, tokOf x ≠ 0 ∧ tokOf x < t0
  ne : xs.Pairwise fun x y => tokOf x ≠ tokOf y
section
variable {κ : KeyOps} {Z : KeyZ κ} {xs : List Value} {as : List Int} {acc : List Value} {t0 tk tk' : Nat}
theorem KAcc.nil : KAcc Z xs as [] t0 tk := ⟨fun j k h => by simp at h, .nil⟩
theorem KAcc.mono (h : KAcc Z xs as acc t0 tk) (ht : tk ≤ tk') : KAcc Z xs as acc t0 tk' := ⟨fun j k e => by
  obtain ⟨x, a, h1, h2, h3, h4, h5, h6⟩ := h.kv j k e
  exact ⟨x, a, h1, h2, h3, h4, Nat.lt_of_lt_of_le h5 ht, h6⟩, h.ne⟩
theorem KAcc.snoc (h : KAcc Z xs as acc t0 tk) (O : Olds xs t0) (h0 : t0 ≤ tk) {x k : Value} {a : Int} (hx : xs[acc.length]? = some x) (ha : as[acc.length]? = some a) (hk : Z.KV k a) (hn : tokOf k ≠ 0) (hl : tokOf k < tk') (ht : tk ≤ tk') (ho : k = x ∨ tk ≤ tokOf k) :
    KAcc Z xs as (acc ++ [k]) t0 tk' := by
  refine ⟨fun j y e => ?_, ?_⟩
  · by_cases hj : j < acc.length
    · rw [List.getElem?_append_left hj] at e
      exact (h.mono ht).kv j y e
    · rw [List.getElem?_append_right (Nat.not_lt.mp hj)] at e
      have e0 : j - acc.length = 0 := by
        have := (List.getElem?_eq_some_iff.mp e).1; simp at this; omega
      rw [e0] at e; cases e
      have : j = acc.length := by omega
      subst this
      exact ⟨x, a, hx, ha, hk, hn, hl, ho.imp id fun q => Nat.le_trans h0 q⟩
  · refine List.pairwise_append.mpr ⟨h.ne, by simp, fun y hy z hz => ?_⟩
    rw [List.mem_singleton.mp hz]
    obtain ⟨j, hj, rfl⟩ := List.mem_iff_getElem.mp hy
    obtain ⟨x', a', h1, h2, h3, h4, h5, h6⟩ := h.kv j _ (List.getElem?_eq_getElem hj)
    rcases ho with rfl | ho
    · rcases h6 with h6 | h6
      · rw [h6]
        obtain ⟨p1, q1⟩ := List.getElem?_eq_some_iff.mp h1
        obtain ⟨p2, q2⟩ := List.getElem?_eq_some_iff.mp hx
        have := List.pairwise_iff_getElem.mp O.ne j acc.length p1 p2 hj
        rw [q1, q2] at this; exact this
      · exact Nat.ne_of_gt (Nat.lt_of_lt_of_le (O.lt k (List.mem_of_getElem? hx)).2 h6)
    · exact Nat.ne_of_lt (Nat.lt_of_lt_of_le h5 ho)
theorem KAcc.tok (h : KAcc Z xs as acc t0 tk) {i j : Nat} {x y : Value} (hi : acc[i]? = some x) (hj : acc[j]? = some y) (e : tokOf x = tokOf y) : x = y := by
  obtain ⟨p1, q1⟩ := List.getElem?_eq_some_iff.mp hi
  obtain ⟨p2, q2⟩ := List.getElem?_eq_some_iff.mp hj
  rcases Nat.lt_trichotomy i j with q | q | q
  · have := List.pairwise_iff_getElem.mp h.ne i j p1 p2 q
    rw [q1, q2] at this; exact absurd e this
  · subst q; rw [hi] at hj; exact Option.some.inj hj
  · have := List.pairwise_iff_getElem.mp h.ne j i p2 p1 q
    rw [q1, q2] at this; exact absurd e.symm this
theorem KAcc.keyR (h : KAcc Z xs as acc t0 tk) {rows : List Row} (e : rows.map (·.key) = acc) : KeyR κ rows := by
  have at_ : ∀ q ∈ rows, ∃ j, acc[j]? = some q.key := fun q hq => by
    obtain ⟨j, hj, e'⟩ := List.mem_iff_getElem.mp hq
    exact ⟨j, by rw [← e, List.getElem?_map, List.getElem?_eq_getElem hj, e']; rfl⟩
  refine ⟨fun q hq => ?_, fun q hq q' hq' ht => ?_⟩
  · obtain ⟨j, hj⟩ := at_ q hq
    obtain ⟨x, a, _, _, h3, h4, _⟩ := h.kv j _ hj
    exact ⟨Z.P h3, h4⟩
  · obtain ⟨j, hj⟩ := at_ q hq
    obtain ⟨j', hj'⟩ := at_ q' hq'
    have e2 := h.tok hj hj' ht
    obtain ⟨x, a, _, _, h3, _⟩ := h.kv j _ hj
    rw [← e2, Z.eq h3 h3]; simp
end

structure RowsAt (h : Heap) (rs : List Addr) (ps xs : List Value) : Prop where
  lp : ps.length = rs.length
  lx : xs.length = rs.length
  at_ : ∀ (j : Nat) (r : Addr) (p x : Value), rs[j]? = some r → ps[j]? = some p → xs[j]? = some x → h.get? r = some (tupO [p, x])
theorem RowsAt.go {H0 : Heap} {M : List Addr} {s s' : Shared} {rs : List Addr} {ps xs : List Value} (R : RowsAt s.heap rs ps xs) (g : Go H0 M s s') (hM : ∀ p ∈ M, p ∉ rs) : RowsAt s'.heap rs ps xs :=
  ⟨R.lp, R.lx, fun j r p x h1 h2 h3 => g.nd _ _ (R.at_ j r p x h1 h2 h3) (fun q => hM _ q (List.mem_of_getElem? h1)) nd_seq⟩
theorem RowsAt.get {h : Heap} {rs : List Addr} {ps xs : List Value} (R : RowsAt h rs ps xs) {j : Nat} {r : Addr} (hr : rs[j]? = some r) : ∃ p x, ps[j]? = some p ∧ xs[j]? = some x ∧ h.get? r = some (tupO [p, x]) := by
  have hj := (List.getElem?_eq_some_iff.mp hr).1
  have h1 : ps[j]? = some _ := List.getElem?_eq_getElem (by rw [R.lp]; exact hj)
  have h2 : xs[j]? = some _ := List.getElem?_eq_getElem (by rw [R.lx]; exact hj)
  exact ⟨_, _, h1, h2, R.at_ j r _ _ hr h1 h2⟩
noncomputable def refA (rs : List Addr) : List Value := rs.map Value.ref

structure KeyCall (prog : Program) (w : World) (H0 : Heap) {κ : KeyOps} (Z : KeyZ κ) (l : List Env) (d : Nat) (kv : Value) (rs : List Addr) (ps xs : List Value) (as : List Int) (own chg : List Addr) (KI : Nat → Shared → Prop) : Prop where
  call : ∀ (A : Around) (i : Nat) (s : Shared) (r : Addr) (x : Value) (a : Int) (Q : Value → Shared → Prop) (E : Value → Shared → Prop), St H0 A l s → A.handled = none → A.depth + d < recursionLimit → KI i s → RowsAt s.heap rs ps xs → rs[i]? = some r → xs[i]? = some x → as[i]? = some a →
    (∀ k s', Go H0 chg s s' → KI (i + 1) s' → Z.KV k a → tokOf k ≠ 0 → tokOf k < s'.toks → (k = x ∨ s.toks ≤ tokOf k) → Q k s') → wpAny (model prog w) A (PySem.call kv [.ref r]) Q E s
  keep : ∀ i s s' M, KI i s → Go H0 M s s' → (∀ p ∈ M, p ∉ own) → KI i s'
  sub : ∀ p ∈ chg, p ∈ own
  there : ∀ i s p, KI i s → p ∈ own → ∃ o, s.heap.get? p = some o

section
variable {prog : Program} {w : World} {H0 : Heap} {l : List Env} {κ : KeyOps} {Z : KeyZ κ} {d : Nat} {kv : Value} {rs : List Addr} {ps xs : List Value} {as : List Int} {own chg : List Addr} {KI : Nat → Shared → Prop}
noncomputable abbrev mapL (mo TI J rl : Addr) (kv : Value) (rs : List Addr) (ep i : Nat) : List (Addr × Obj) := [(mo, mapO TI kv), (TI, tupO [.ref J]), (J, itO rl i), (rl, lstO (refA rs) ep)]
structure MapI (Z : KeyZ κ) (mo TI J rl : Addr) (kv : Value) (rs : List Addr) (ps xs : List Value) (as : List Int) (ep t0 : Nat) (KI : Nat → Shared → Prop) (acc : List Value) (s : Shared) : Prop where
  lg : Lg s.heap (mapL mo TI J rl kv rs ep acc.length)
  ra : RowsAt s.heap rs ps xs
  ki : KI acc.length s
  ka : KAcc Z xs as acc t0 s.toks
  t0 : t0 ≤ s.toks
structure MapF (Z : KeyZ κ) (xs : List Value) (as : List Int) (n t0 : Nat) (KI : Nat → Shared → Prop) (acc : List Value) (s : Shared) : Prop where
  len : acc.length = n
  ki : KI n s
  ka : KAcc Z xs as acc t0 s.toks

theorem srcMap (KC : KeyCall prog w H0 Z l d kv rs ps xs as own chg KI) (hla : as.length = rs.length) {mo TI J rl : Addr} {ep t0 : Nat} (O : Olds xs t0) (hJ : H0.get? J = none) (hap : ∀ p ∈ [mo, TI, J, rl], p ∉ own ∧ p ∉ rs) (hrs : ∀ p ∈ chg, p ∉ rs) :
    Src prog w H0 l d mo ([mo, TI, J, rl] ++ rs ++ own) (J :: chg) rs.length (MapI Z mo TI J rl kv rs ps xs as ep t0 KI) (MapF Z xs as rs.length t0 KI) where
  item := fun A acc s Q E S hh hd hlt V k => by
    obtain ⟨r, hr⟩ : ∃ r, rs[acc.length]? = some r := ⟨_, List.getElem?_eq_getElem hlt⟩
    obtain ⟨p, x, hp, hx, hrx⟩ := V.ra.get hr
    obtain ⟨a, ha⟩ : ∃ a, as[acc.length]? = some a := ⟨_, List.getElem?_eq_getElem (by omega)⟩
    refine nextOf_map (V.lg.at 0 rfl) (V.lg.at 1 rfl) ?_
    refine nextOf_list (V.lg.at 2 rfl) (V.lg.at 3 rfl) (show (refA rs)[acc.length]? = some (.ref r) by unfold refA; rw [List.getElem?_map, hr]; rfl) ?_
    obtain ⟨g, C'⟩ := V.lg.upd (H0 := H0) (s := s) 2 (f := Obj.mapFields (·.setIfInBounds 1 (rawInt ((acc.length : Int) + 1)))) rfl rfl nd_fields rfl hJ
    refine ⟨C'.at 0 rfl, ?_⟩
    have hJo : ∀ q ∈ [J], q ∉ own := fun q hq => by rw [List.mem_singleton.mp hq]; exact (hap J (by simp)).1
    have hJr : ∀ q ∈ [J], q ∉ rs := fun q hq => by rw [List.mem_singleton.mp hq]; exact (hap J (by simp)).2
    have ki1 := KC.keep _ _ _ _ V.ki g hJo
    refine KC.call _ acc.length _ r x a Q E ((S.go g).around (A' := A.in1) rfl) hh hd ki1 (V.ra.go g hJr) hr hx ha fun key s' g' ki' hkv hn hl hor => ?_
    have gg : Go H0 (J :: chg) s s' := (g.mono (fun q hq => by rw [List.mem_singleton.mp hq]; simp)).trans (g'.mono fun q hq => .tail _ hq)
    have hlen : (acc ++ [key]).length = acc.length + 1 := by simp
    refine k key s' gg ⟨?_, (V.ra.go g hJr).go g' hrs, by rw [hlen]; exact ki', V.ka.snoc O V.t0 hx ha hkv hn hl gg.toks hor, Nat.le_trans V.t0 gg.toks⟩
    rw [hlen]
    exact C'.turn g' _ rfl fun q hq => .inl ⟨hq, fun hc => by
      have : q.1 ∈ [mo, TI, J, rl] := by
        have := List.mem_map_of_mem (f := (·.1)) hq
        exact this
      exact (hap _ this).1 (KC.sub _ hc)⟩
  done := fun A acc s Q E S hh hd hlt V k => by
    refine nextOf_map (V.lg.at 0 rfl) (V.lg.at 1 rfl) ?_
    refine nextOf_list_end (A := A.in1) hh (V.lg.at 2 rfl) (V.lg.at 3 rfl) (List.getElem?_eq_none (by simp [refA]; omega)) fun h' e hm => ?_
    obtain ⟨g, C'⟩ := V.lg.upd (H0 := H0) (s := s) 2 (f := Obj.mapFields (·.setIfInBounds 0 .none)) rfl rfl nd_fields rfl hJ
    obtain ⟨t, ht, _⟩ := hm.there
    have gg : Go H0 [J] s { s with heap := h' } := g.trans (made_go (s := { s with heap := s.heap.update J (Obj.mapFields (·.setIfInBounds 0 .none)) }) hm)
    have hJo : ∀ q ∈ [J], q ∉ own := fun q hq => by rw [List.mem_singleton.mp hq]; exact (hap J (by simp)).1
    exact k e _ (gg.mono (fun q hq => by rw [List.mem_singleton.mp hq]; simp)) ⟨_, ht, rfl⟩ ⟨hlt, hlt ▸ KC.keep _ _ _ _ V.ki gg hJo, V.ka.mono gg.toks⟩
  keepF := fun acc s s' M V g hM => ⟨V.len, KC.keep _ _ _ _ V.ki g fun p hp hq => hM p hp (by simp [hq]), V.ka.mono g.toks⟩
  keep := fun acc s s' M V g hM => ⟨V.lg.turn g _ rfl fun p hp => .inl ⟨hp, fun q => hM _ q (by
      have : p.1 ∈ [mo, TI, J, rl] := List.mem_map_of_mem (f := (·.1)) hp
      exact List.mem_append_left _ (List.mem_append_left _ this))⟩, V.ra.go g (fun p hp hq => hM p hp (by simp [hq])), KC.keep _ _ _ _ V.ki g fun p hp hq => hM p hp (by simp [hq]), V.ka.mono g.toks, Nat.le_trans V.t0 g.toks⟩
  sub := fun p hp => by
    rcases List.mem_cons.mp hp with rfl | hp
    · simp
    · exact List.mem_append_right _ (KC.sub p hp)
  there := fun acc s p V hp => by
    rcases List.mem_append.mp hp with hp | hp
    · rcases List.mem_append.mp hp with hp | hp
      · obtain ⟨q, hq, rfl⟩ := List.mem_map.mp (show p ∈ (mapL mo TI J rl kv rs ep acc.length).map (·.1) from hp)
        exact ⟨_, (V.lg.has q hq).at_⟩
      · obtain ⟨j, hj⟩ := List.mem_iff_getElem?.mp hp
        obtain ⟨_, _, _, _, h⟩ := V.ra.get hj
        exact ⟨_, h⟩
    · exact KC.there _ _ p V.ki hp
end
end Mine
end
section
set_option maxRecDepth 100000
set_option autoImplicit false
set_option genInjectivity false
set_option genSizeOf false
namespace Mine
open PySem PySem.W PySem.Calls PyProof.Rows PySem.Spec

structure FindK (prog : Program) (w : World) (H0 : Heap) {κ : KeyOps} (Z : KeyZ κ) (g : Int → Int) (f fc : Addr) (fo : Obj) (qual : Str) : Prop where
  call : ∀ (A : Around) (l : List Env) (s : Shared) (r : Addr) (p : Value) (n : Int) (t : Tok) (Q : Value → Shared → Prop) (E : Value → Shared → Prop), St H0 A l s → A.handled = none → A.depth + 1 < recursionLimit → s.heap.get? f = some fo → s.heap.CodeRec (.ref fc) qual →
    s.heap.get? r = some (tupO [p, .int n t]) → t ≠ 0 → t < s.toks → (∀ k s', Go H0 [] s s' → Z.KV k (g n) → tokOf k ≠ 0 → tokOf k < s'.toks → (k = .int n t ∨ s.toks ≤ tokOf k) → Q k s') → wpAny (model prog w) A (PySem.call (.ref f) [.ref r]) Q E s
  fn : ∃ oc od fd sl, fo = ⟨oc, od, .func fd, sl⟩

noncomputable def lamQ : Str := "law.<locals>.<lambda>"
noncomputable def forE : Stmt → Expr
  | .For _ e _ _ _ => e
  | _ => default
noncomputable def listE : Expr → List Expr
  | .List es _ => es
  | _ => []
noncomputable def lamP : Expr → Arguments × Expr × Scope × Pos
  | .Lambda a b s p => (a, b, s, p)
  | _ => (⟨[], [], none, [], [], none, []⟩, default, default, default)
noncomputable def lam1 := lamP ((listE (forE (dLaw.2.1.getD 4 (.Pass default)))).getD 0 default)
noncomputable def lam2 := lamP ((listE (forE (dLaw.2.1.getD 4 (.Pass default)))).getD 1 default)

section
variable {K : Frag} {H0 : Heap} {mg mb : Str → Option Value} {A : Around} {l : List Env} {s : Shared} {prog : Program} {w : World} {E : Value → Shared → Prop}
noncomputable abbrev lamO (L : Arguments × Expr × Scope × Pos) (pm : Value) (fc : Addr) (ct : Value) : Obj := fnVO "<lambda>" lamQ L.1 (.expr L.2.1) L.2.2.1 [] .none pm (.ref fc) ct

theorem find1 (G : Gl K H0 mg mb) {f fc : Addr} {pm ct : Value} : FindK prog w H0 intZ (fun n => n) f fc (lamO lam1 pm fc ct) lamQ where
  fn := ⟨_, _, _, _, rfl⟩
  call := fun A l s r p n t Q E S hh hd ho hc hr ht hlt k => by
    refine wpAny_call (enterE (binds := [(Str.ofString "row", .ref r)]) S [] [(r, tupO [p, .int n t])] (fun q hq => by rw [List.mem_singleton.mp hq]; exact okk_tup hr) (by simp) (Nat.lt_of_succ_lt hd) ho rfl (S.lim G) hc (BindsTo.of_eq rfl) (by decide) (locs rfl) fun L s1 _ C => ?_)
    refine Subscript_ (C.nameE rfl (wpAny_Constant_int ?_))
    have C1 := C.tok 1
    refine item_tupleL ⟨_, C1.at 0 rfl, rfl, 0, rfl⟩ (by decide) (by decide) (j := 1) (by simp [seqIndex?]) rfl ?_
    exact k _ _ C1.go ⟨t, rfl⟩ ht (Nat.lt_of_lt_of_le hlt C1.go.toks) (.inl rfl)
theorem emod5 (n : Int) : n.fmod 5 = n % 5 := Int.fmod_eq_emod_of_nonneg n (by decide)
theorem sgn_at {a : Int} (h0 : 0 ≤ a) (h5 : a < 5) : (seqIndex? a (Str.ofString "abcde").length).bind ((Str.ofString "abcde").cps[·]?) = some (97 + a.toNat) := by
  have : a = 0 ∨ a = 1 ∨ a = 2 ∨ a = 3 ∨ a = 4 := by omega
  rcases this with rfl | rfl | rfl | rfl | rfl <;> decide
theorem find2 (G : Gl K H0 mg mb) {f fc : Addr} {pm ct : Value} : FindK prog w H0 strZ (fun n => n % 5) f fc (lamO lam2 pm fc ct) lamQ where
  fn := ⟨_, _, _, _, rfl⟩
  call := fun A l s r p n t Q E S hh hd ho hc hr ht hlt k => by
    refine wpAny_call (enterE (binds := [(Str.ofString "row", .ref r)]) S [] [(r, tupO [p, .int n t])] (fun q hq => by rw [List.mem_singleton.mp hq]; exact okk_tup hr) (by simp) (Nat.lt_of_succ_lt hd) ho rfl (S.lim G) hc (BindsTo.of_eq rfl) (by decide) (locs rfl) fun L s1 _ C => ?_)
    refine Subscript_ (wpAny_Constant_str ?_)
    have C0 := C.tok 1
    refine wpAny_BinOp (Subscript_ (C0.nameE rfl (wpAny_Constant_int ?_)))
    have C1 := C0.tok 1
    refine item_tupleL ⟨_, C1.at 0 rfl, rfl, 0, rfl⟩ (by decide) (by decide) (j := 1) (by simp [seqIndex?]) rfl ?_
    refine wpAny_Constant_int (PyProof.Rows.mod_int (by decide) ?_)
    have C2 := C1.tok 2
    rw [emod5]
    have h0 : 0 ≤ n % 5 := Int.emod_nonneg _ (by decide)
    have h5 : n % 5 < 5 := Int.emod_lt_of_pos _ (by decide)
    refine subscriptTail_builtin (typeIs_str _ _ _) slot_str_getitem.lookup (getItem_str (by simp; omega) (sgn_at h0 h5) ?_)
    have C3 := C2.tok 1
    refine k _ _ C3.go ⟨h0, _, rfl⟩ ?_ (Nat.lt_succ_self _) (.inr ?_)
    · exact Nat.ne_of_gt C2.st.toks
    · exact C2.go.toks
end
end Mine
end
section
set_option maxRecDepth 100000
set_option autoImplicit false
set_option genInjectivity false
set_option genSizeOf false
namespace Mine
open PySem PySem.W PySem.Calls PyProof.Rows PySem.Spec

noncomputable def dKey := fnP (dRight.2.1.getD 1 (.Pass default))
noncomputable def keyQ : Str := "_law_right.<locals>._law_key"
noncomputable abbrev keyCl (ca cb : Addr) : List (Str × Addr) := [(Str.ofString "find", cb), (Str.ofString "asked", ca)]
noncomputable abbrev keyO (ca cb : Addr) (doc pm : Value) (kc : Addr) (ct : Value) : Obj := fnVO "_law_key" keyQ dKey.1 (.stmts dKey.2.1) dKey.2.2 (keyCl ca cb) doc pm (.ref kc) ct
noncomputable abbrev lkL (kf ca cb al f : Addr) (ko fo : Obj) (rs : List Addr) (i ep : Nat) : List (Addr × Obj) := [(kf, ko), (ca, cellO (some (.ref al))), (cb, cellO (some (.ref f))), (al, lstO (refA (rs.take i)) ep), (f, fo)]
structure LkI (kf kc ca cb al f fc : Addr) (ko fo : Obj) (fq : Str) (rs : List Addr) (i : Nat) (s : Shared) : Prop where
  lg : ∃ ep, Lg s.heap (lkL kf ca cb al f ko fo rs i ep)
  kc : s.heap.CodeRec (.ref kc) keyQ
  fc : s.heap.CodeRec (.ref fc) fq

section
variable {K : Frag} {H0 : Heap} {mg mb : Str → Option Value} {l : List Env} {prog : Program} {w : World} {κ : KeyOps} {Z : KeyZ κ} {g : Int → Int}
theorem code_ne {h : Heap} {c : Addr} {q : Str} {a : Addr} {o : Obj} (hc : h.CodeRec (.ref c) q) (ha : h.get? a = some o) (hn : ∀ vs, o.data ≠ .fields vs) : c ≠ a := fun e => by
  obtain ⟨c2, oc, vs, t, e2, h1, h2, h3⟩ := hc
  cases e2
  rw [e, ha] at h1; cases h1
  exact hn vs h2
set_option maxHeartbeats 1000000 in
theorem keyLaw (G : Gl K H0 mg mb) {kf kc ca cb al f fc : Addr} {doc pm ct : Value} {fo : Obj} {fq : Str} (F : FindK prog w H0 Z g f fc fo fq) (hH : H0.get? al = none) {rs : List Addr} {ps xs : List Value} {ns : List Int} (iv : IV xs ns) {t0 : Nat} (O : Olds xs t0) (hlen : rs.length ≤ 1000) (hal : al ∉ rs) :
    KeyCall prog w H0 Z l 2 (.ref kf) rs ps xs (ns.map g) [kf, ca, cb, al, f, kc, fc] [al] (fun i s => LkI kf kc ca cb al f fc (keyO ca cb doc pm kc ct) fo fq rs i s ∧ t0 ≤ s.toks) where
  call := fun A i s r x a Q E S hh hd ⟨KI, hts⟩ R hr hx ha k => by
    obtain ⟨ep, Lk⟩ := KI.lg
    obtain ⟨p, x', hp, hx', hrx⟩ := R.get hr
    rw [hx] at hx'; cases hx'
    obtain ⟨n, hn, rfl⟩ : ∃ n, ns[i]? = some n ∧ g n = a := by
      rw [List.getElem?_map] at ha
      cases e : ns[i]? with
      | none => rw [e] at ha; cases ha
      | some n => rw [e] at ha; exact ⟨n, rfl, Option.some.inj ha⟩
    obtain ⟨t, ht⟩ := iv.at_ i n hn
    rw [hx] at ht; cases ht
    have ht := O.lt _ (List.mem_of_getElem? hx)
    obtain ⟨oc, od, fd, sl, hfo⟩ := F.fn
    have hral : r ≠ al := fun e => hal (e ▸ List.mem_of_getElem? hr)
    refine wpAny_call (enterD (binds := [(Str.ofString "row", .ref r)]) S [al] _ Lk.has Lk.nodup (by omega) (Lk.at 0 rfl) rfl (S.lim G) KI.kc (BindsTo.of_eq rfl) (by decide) (locs rfl) fun L s1 _ C => ?_)
    refine wpAny_execs_cons (wpAny_Expr_any (MethodCall_ (C.ldFree 1 rfl rfl (Calls.getMethod_list_append (C.at 3 rfl) rfl rfl (callWith_method1 (args_cons (C.nameE rfl (args_nil ?_))))))))
    refine append_list (C.at 3 rfl) (by simp [refA]; omega) ?_
    have C2 := C.upd 3 (f := Obj.mapSeq (·.push (.ref r))) rfl rfl nd_seq rfl (.inl (by simp)) hH
    have e : (Obj.mapSeq (·.push (Value.ref r)) (lstO (refA (rs.take i)) ep)) = lstO (refA (rs.take (i + 1))) (ep + 1) := by
      simp only [Obj.mapSeq, refA, List.take_add_one, hr, List.map_append]
      simp
    rw [e] at C2
    refine wpAny_execs_cons (wpAny_Return_some (Call_ (C2.ldFree 2 rfl rfl (callWith_F ⟨oc, od, fd, sl, by rw [← hfo]; exact C2.at 4 rfl⟩ (args_cons (C2.nameE rfl (args_nil ⟨⟨oc, od, fd, sl, by rw [← hfo]; exact C2.at 4 rfl⟩, ?_⟩)))))))
    have kcne : kc ≠ al := code_ne KI.kc (Lk.at 3 rfl) (fun vs q => by cases q)
    have fcne : fc ≠ al := code_ne KI.fc (Lk.at 3 rfl) (fun vs q => by cases q)
    have hc2 := codeRec_go KI.fc C2.go fun c q => by cases q; simpa using fcne
    have hk2 := codeRec_go KI.kc C2.go fun c q => by cases q; simpa using kcne
    refine F.call _ _ _ r p n t _ _ C2.st hh (by show A.depth + 1 + 1 < _; omega) (C2.at 4 rfl) hc2 (C2.go.nd _ _ hrx (by simpa using hral) nd_seq) ht.1 (Nat.lt_of_lt_of_le (Nat.lt_of_lt_of_le ht.2 hts) C2.go.toks) fun key s3 g3 hkv hk0 hkl hor => ?_
    have C3 := C2.call g3
    refine k key s3 C3.go ⟨⟨⟨ep + 1, ⟨C3.has, C3.nodup⟩⟩, codeRec_go hk2 g3 (fun c q h => nomatch h), codeRec_go hc2 g3 (fun c q h => nomatch h)⟩, Nat.le_trans hts C3.go.toks⟩ hkv hk0 hkl (hor.imp id fun q => Nat.le_trans C2.go.toks q)
  keep := fun i s s' M ⟨KI, hts⟩ gg hM => by
    obtain ⟨ep, Lk⟩ := KI.lg
    refine ⟨⟨⟨ep, Lk.turn gg _ rfl fun p hp => .inl ⟨hp, fun q => hM _ q ?_⟩⟩, codeRec_go KI.kc gg fun c q h => hM _ h (by cases q; simp), codeRec_go KI.fc gg fun c q h => hM _ h (by cases q; simp)⟩, Nat.le_trans hts gg.toks⟩
    have : p.1 ∈ [kf, ca, cb, al, f] := List.mem_map_of_mem (f := (·.1)) hp
    simp only [List.mem_cons, List.not_mem_nil, or_false] at this ⊢
    rcases this with h | h | h | h | h <;> simp [h]
  sub := by simp
  there := fun i s p ⟨KI, _⟩ hp => by
    obtain ⟨ep, Lk⟩ := KI.lg
    obtain ⟨c1, o1, _, _, e1, h1, _⟩ := KI.kc
    obtain ⟨c2, o2, _, _, e2, h2, _⟩ := KI.fc
    cases e1; cases e2
    simp only [List.mem_cons, List.not_mem_nil, or_false] at hp
    rcases hp with rfl | rfl | rfl | rfl | rfl | rfl | rfl
    · exact ⟨_, Lk.at 0 rfl⟩
    · exact ⟨_, Lk.at 1 rfl⟩
    · exact ⟨_, Lk.at 2 rfl⟩
    · exact ⟨_, Lk.at 3 rfl⟩
    · exact ⟨_, Lk.at 4 rfl⟩
    · exact ⟨_, h1⟩
    · exact ⟨_, h2⟩
theorem keyFind {f fc : Addr} {fo : Obj} {fq : Str} (F : FindK prog w H0 Z g f fc fo fq) {rs : List Addr} {ps xs : List Value} {ns : List Int} (iv : IV xs ns) {t0 : Nat} (O : Olds xs t0) :
    KeyCall prog w H0 Z l 2 (.ref f) rs ps xs (ns.map g) [f, fc] [] (fun _ s => s.heap.get? f = some fo ∧ s.heap.CodeRec (.ref fc) fq ∧ t0 ≤ s.toks) where
  call := fun A i s r x a Q E S hh hd ⟨h1, h2, hts⟩ R hr hx ha k => by
    obtain ⟨p, x', hp, hx', hrx⟩ := R.get hr
    rw [hx] at hx'; cases hx'
    obtain ⟨n, hn, rfl⟩ : ∃ n, ns[i]? = some n ∧ g n = a := by
      rw [List.getElem?_map] at ha
      cases e : ns[i]? with
      | none => rw [e] at ha; cases ha
      | some n => rw [e] at ha; exact ⟨n, rfl, Option.some.inj ha⟩
    obtain ⟨t, ht⟩ := iv.at_ i n hn
    rw [hx] at ht; cases ht
    have ht := O.lt _ (List.mem_of_getElem? hx)
    refine F.call _ _ _ r p n t _ _ S hh (by omega) h1 h2 hrx ht.1 (Nat.lt_of_lt_of_le ht.2 hts) fun key s3 g3 hkv hk0 hkl hor => ?_
    obtain ⟨oc, od, fd, sl, hfo⟩ := F.fn
    exact k key s3 g3 ⟨g3.nd _ _ h1 (fun h => nomatch h) (by rw [hfo]; exact nd_fn), codeRec_go h2 g3 (fun c q h => nomatch h), Nat.le_trans hts g3.toks⟩ hkv hk0 hkl hor
  keep := fun i s s' M ⟨h1, h2, hts⟩ gg hM => by
    obtain ⟨oc, od, fd, sl, hfo⟩ := F.fn
    exact ⟨gg.nd _ _ h1 (fun h => hM _ h (by simp)) (by rw [hfo]; exact nd_fn), codeRec_go h2 gg fun c q h => hM _ h (by cases q; simp), Nat.le_trans hts gg.toks⟩
  sub := by simp
  there := fun i s p ⟨h1, h2, _⟩ hp => by
    obtain ⟨c2, o2, _, _, e2, h2, _⟩ := h2
    cases e2
    simp only [List.mem_cons, List.not_mem_nil, or_false] at hp
    rcases hp with rfl | rfl
    · exact ⟨_, h1⟩
    · exact ⟨_, h2⟩
end
end Mine
end
section
set_option maxRecDepth 100000
set_option autoImplicit false
set_option genInjectivity false
set_option genSizeOf false
namespace Mine
open PySem PySem.W PySem.Calls PyProof.Rows PySem.Spec

section
variable {K : Frag} {a : Adr} {H0 : Heap} {mg mb : Str → Option Value} {A : Around} {l : List Env} {s : Shared} {prog : Program} {w : World} {E : Value → Shared → Prop} {z : Int}
noncomputable abbrev rkNames : List Str := [Str.ofString "key", Str.ofString "reverse", Str.ofString "ties", Str.ofString "start"]
theorem rank_bind_krs (X : K.In s.heap) {v kv rvv sv : Value} {t u : Tok} (hk : ∀ {MM : Model} {h : Heap}, K.In h → ∀ n ∈ rkNames, Looks MM h (nsGet a.rankK n) (some (rkD t u n))) {name : Str} {doc pm : Value} {an : Option Addr} {cdv ct : Value} {Q : List (Str × Value) → Shared → Prop}
    (k : Q [(Str.ofString "data", v), (Str.ofString "key", kv), (Str.ofString "reverse", rvv), (Str.ofString "ties", .str "average" t), (Str.ofString "start", sv)] s) :
    wpAny (model prog w) A (bindArgs (fnOf name "_rank" dRank.1 dRank.2.1 dRank.2.2 .none (.ref a.rankK) doc pm an cdv ct) ⟨[v], [(Str.ofString "key", kv), (Str.ofString "reverse", rvv), (Str.ofString "start", sv)]⟩) Q E s := by
  unfold bindArgs
  refine wpAny_bind (wpAny_of_eq (a := ([(Str.ofString "data", v), (Str.ofString "key", kv), (Str.ofString "reverse", rvv), (Str.ofString "start", sv)], [])) rfl ?_)
  refine wpAny_bind (wpAny_of_eq (a := none) rfl ?_)
  refine ite_no Bool.false_ne_true ?_
  refine ite_no Bool.false_ne_true ?_
  refine wpAny_bind (wpAny_of_eq (a := [(Str.ofString "data", v), (Str.ofString "key", kv), (Str.ofString "reverse", rvv), (Str.ofString "start", sv)]) rfl ?_)
  refine wpAny_bind (kw_loop (rkD t u) _ _ _ (hk X) ?_)
  refine ite_no Bool.false_ne_true ?_
  exact wpAny_pure k
theorem rank_bind_rev (X : K.In s.heap) {v rvv : Value} {t u : Tok} (hk : ∀ {MM : Model} {h : Heap}, K.In h → ∀ n ∈ rkNames, Looks MM h (nsGet a.rankK n) (some (rkD t u n))) {name : Str} {doc pm : Value} {an : Option Addr} {cdv ct : Value} {Q : List (Str × Value) → Shared → Prop}
    (k : Q [(Str.ofString "data", v), (Str.ofString "key", .none), (Str.ofString "reverse", rvv), (Str.ofString "ties", .str "average" t), (Str.ofString "start", .int 1 u)] s) :
    wpAny (model prog w) A (bindArgs (fnOf name "_rank" dRank.1 dRank.2.1 dRank.2.2 .none (.ref a.rankK) doc pm an cdv ct) ⟨[v], [(Str.ofString "reverse", rvv)]⟩) Q E s := by
  unfold bindArgs
  refine wpAny_bind (wpAny_of_eq (a := ([(Str.ofString "data", v), (Str.ofString "reverse", rvv)], [])) rfl ?_)
  refine wpAny_bind (wpAny_of_eq (a := none) rfl ?_)
  refine ite_no Bool.false_ne_true ?_
  refine ite_no Bool.false_ne_true ?_
  refine wpAny_bind (wpAny_of_eq (a := [(Str.ofString "data", v), (Str.ofString "reverse", rvv)]) rfl ?_)
  refine wpAny_bind (kw_loop (rkD t u) _ _ _ (hk X) ?_)
  refine ite_no Bool.false_ne_true ?_
  exact wpAny_pure k
theorem rank_bind_ties (X : K.In s.heap) {v tv : Value} {t u : Tok} (hk : ∀ {MM : Model} {h : Heap}, K.In h → ∀ n ∈ rkNames, Looks MM h (nsGet a.rankK n) (some (rkD t u n))) {name : Str} {doc pm : Value} {an : Option Addr} {cdv ct : Value} {Q : List (Str × Value) → Shared → Prop}
    (k : Q [(Str.ofString "data", v), (Str.ofString "key", .none), (Str.ofString "reverse", .bool false), (Str.ofString "ties", tv), (Str.ofString "start", .int 1 u)] s) :
    wpAny (model prog w) A (bindArgs (fnOf name "_rank" dRank.1 dRank.2.1 dRank.2.2 .none (.ref a.rankK) doc pm an cdv ct) ⟨[v], [(Str.ofString "ties", tv)]⟩) Q E s := by
  unfold bindArgs
  refine wpAny_bind (wpAny_of_eq (a := ([(Str.ofString "data", v), (Str.ofString "ties", tv)], [])) rfl ?_)
  refine wpAny_bind (wpAny_of_eq (a := none) rfl ?_)
  refine ite_no Bool.false_ne_true ?_
  refine ite_no Bool.false_ne_true ?_
  refine wpAny_bind (wpAny_of_eq (a := [(Str.ofString "data", v), (Str.ofString "ties", tv)]) rfl ?_)
  refine wpAny_bind (kw_loop (rkD t u) _ _ _ (hk X) ?_)
  refine ite_no Bool.false_ne_true ?_
  exact wpAny_pure k

theorem pyIter_map {mo TI : Addr} {f : Value} {Q : Value → Shared → Prop} (hmo : s.heap.get? mo = some (mapO TI f)) (h : Q (.ref mo) s) : wpAny (model prog w) A (pyIter (.ref mo)) Q E s := by
  have hT : s.TypeIs (.ref mo) "map" := ⟨_, hmo, rfl⟩
  refine wpAny_pyIter_slot hT slot_map_iter (wpAny_call_entry slot_map_iter hT entry_map_iter ?_ (args_map_iter _))
  show wpAny _ _ (ret (.ref mo)) _ _ _
  exact wpAny_pure ⟨_, rfl, "map", _, hT, slot_map_next.lookup, h⟩
theorem call_map {v f : Value} {Q : Value → Shared → Prop}
    (h : ∀ (A' : Around) (E' : Value → Shared → Prop), A'.handled = A.handled → A'.depth = A.depth → A'.frames = A.frames → wpAny (model prog w) A' (pyIter v) (fun J s1 => ∃ Jr, J = .ref Jr ∧ Q (.ref ((s1.heap.push (tupO [.ref Jr])).objs.size)) { s1 with heap := (s1.heap.push (tupO [.ref Jr])).push (mapO s1.heap.objs.size f) }) E' s) :
    wpAny (model prog w) A (PySem.call (.type "map") [f, v]) Q E s := by
  refine callType_codes (Q₁ := fun obj s₁ => s₁.TypeIs obj "map" ∧ Q obj s₁) called_map (typeCall_map _ _) PySem.F.entry_object_init (map_new ?_) fun obj s₁ h₁ => ⟨h₁.1, PySem.F.args_object_init_3 obj _ _, ?_⟩
  rotate_left
  · exact object_init_meets (T := "map") (newId := "map.__new__") slot_map_init.lookup called_map.made (by decide) prog w A.in1 _ s₁ ⟨h₁.1, rfl, h₁.2⟩
  refine wpAny_mono (h _ _ rfl rfl rfl) (fun J s1 h1 => ?_) fun _ _ z => z
  obtain ⟨Jr, rfl, h1⟩ := h1
  refine wpAny_newTuple ?_ (by rw [sizeLine_eq]; show 1 ≤ _; decide)
  refine ⟨⟨_, Heap.get?_push_size _ rfl, rfl⟩, h1⟩
end
end Mine
end
section
set_option maxRecDepth 100000
set_option autoImplicit false
set_option genInjectivity false
set_option genSizeOf false
namespace Mine
open PySem PySem.W PySem.Calls PyProof.Rows PySem.Spec

structure K1 (K : Frag) (a : Adr) : Prop where
  nmap : nsIn K mainGlobals "map" = some none
  nrank : nsIn K mainGlobals "_rank" = some (some (.ref a.rank))
  krank : keepIn K (.ref a.rank) = true
  niter : nsIn K mainGlobals "iter" = some none
  nisin : nsIn K mainGlobals "isinstance" = some none
  nflt : nsIn K mainGlobals "float" = some none
  nsum : nsIn K mainGlobals "sum" = some none
  nabs : nsIn K mainGlobals "abs" = some none
  nenum : nsIn K mainGlobals "enumerate" = some none
  ntype : nsIn K mainGlobals "type" = some none
  nve : nsIn K mainGlobals "ValueError" = some none
  nzip : nsIn K mainGlobals "zip" = some none
  nlen : nsIn K mainGlobals "len" = some none

section
variable {K : Frag} {a : Adr} {H0 : Heap} {mg mb : Str → Option Value} {A : Around} {l : List Env} {s : Shared} {prog : Program} {w : World} {E : Value → Shared → Prop} {z : Int}
theorem Cx.mono {M M' : List Addr} {sE : Shared} {L : Addr} {m : Str → Option Value} {led : List (Addr × Obj)} (C : Cx H0 A l M sE L m led s) (h : ∀ p ∈ M, p ∈ M') : Cx H0 A l M' sE L m led s := { C with go := C.go.mono h }

structure RankedK {κ : KeyOps} (Z : KeyZ κ) (rv : Bool) (z : Int) (as : List Int) (rvals : List Value) (tk : Nat) : Prop where
  at_ : rvals.length = as.length ∧ ∀ (j : Nat) (b : Int), as[j]? = some b →
      ∃ t, rvals[j]? = some (.float (hf (z + 2 * (as.countP fun x => decide (dirZ rv x < dirZ rv b)) + (as.countP fun x => decide (x = b)) + 1)) t)
  tk : TK rvals tk

variable {κ : KeyOps} {Z : KeyZ κ}
set_option maxHeartbeats 2000000 in
theorem rank_key (G : Gl K H0 mg mb) (FF : KF K a) (F : K1 K a) (S : St H0 A l s) {kf rl : Addr} {dv sv : Value} {rv : Bool} {rs : List Addr} {ps xs : List Value} {as : List Int} {own chg mJ : List Addr} {KI : Nat → Shared → Prop} {t0 ep : Nat} {led0 : List (Addr × Obj)}
    (KC : ∀ l', KeyCall prog w H0 Z l' 2 (.ref kf) rs ps xs as own chg KI) (O : Olds xs t0) (ht0 : t0 ≤ s.toks) (ki : KI 0 s) (ra : RowsAt s.heap rs ps xs) (L0 : Lg s.heap led0)
    (hit : ∀ (A' : Around) (s1 : Shared) (Q E' : Value → Shared → Prop), Go H0 [] s s1 → (∀ J s2, Go H0 [] s1 s2 → Lg s2.heap [(J, itO rl 0), (rl, lstO (refA rs) ep)] → (s1.heap.get? J = none ∨ (J ∈ mJ ∧ J ∉ own ∧ J ∉ rs ∧ H0.get? J = none)) → Q (.ref J) s2) → wpAny (model prog w) A' (pyIter dv) Q E' s1)
    (hrl : rl ∉ own ∧ rl ∉ rs) (hch : ∀ p ∈ chg, p ∉ rs) (hla : as.length = rs.length) (hn : rs.length < 64) (hsv : NumV sv (z + 2)) (hz : z.natAbs ≤ 2 ^ 45) (hroom : A.depth + 7 < recursionLimit) (hh : A.handled = none) {R : Result → Shared → Prop}
    (k : ∀ res rvals c s2 s', RankedK Z rv z as rvals s'.toks → Go H0 (mJ ++ chg) s s' → Okk s'.heap (res, lstO rvals c) → s.heap.get? res = none → KI rs.length s2 → (∀ p, Okk s2.heap p → p.2.dict = none → Okk s'.heap p ∧ p.1 ≠ res) → R (.ok (.ret (.ref res))) s') :
    codeAny (model prog w) A (.call (.ref a.rank) ⟨[dv], [(Str.ofString "key", .ref kf), (Str.ofString "reverse", .bool rv), (Str.ofString "start", sv)]⟩) R s := by
  refine enterFX G S FF.rank [] (by lia) (by decide) fun name doc pm an cdv ct E' => ?_
  obtain ⟨t, u, hk⟩ := rk_looks FF
  refine rank_bind_krs (S.X G) hk ⟨fun b o h => h, Nat.le_refl _, rfl, rfl, locs rfl, led0, L0.has, L0.nodup, fun L cdv s1 C => ?_⟩
  refine wpAny_execs_cons (wpAny_If (wpAny_isTrue_Compare1 (C.name rfl (wpAny_Constant_str (PySem.P.ne_str (wpAny_truthy_bool ?_))))))
  refine ite_no' (by decide) (wpAny_execs_nil ?_)
  have C1 := C.tok 1
  refine wpAny_execs_cons (wpAny_If (wpAny_isTrue_Compare1 (C1.name (v := .ref kf) rfl (wpAny_Constant_none (isNot_none (wpAny_truthy_bool ?_))))))
  refine ite_yes' rfl ?_
  refine wpAny_execs_cons (wpAny_Assign_Name (Call_ (C1.boot G F.nmap Boot.«map» (PyProof.Rows.callWith_type1 (args_cons (C1.name (v := .ref kf) rfl (args_cons (C1.name (v := dv) rfl (args_nil ?_)))))))))
  refine call_map fun A' E'' e1 e2 e3 => ?_
  refine hit A' _ _ _ C1.go fun J s2 g2 LJ hJ => ⟨J, rfl, ?_⟩
  have C2 := C1.call g2
  have g02 := C2.go
  have LJ' := LJ
  have hJ0 : H0.get? J = none := by
    rcases hJ with h | h
    · cases q : H0.get? J with
      | none => rfl
      | some o => have := C1.st.glob _ _ q; rw [h] at this; cases this
    · exact h.2.2.2
  have there0 : ∀ p, s.heap.get? p ≠ none → ∀ {q : Addr}, (tk s1 1).heap.get? q = none → p ≠ q := fun p hp q hq e => by
    subst e
    cases e2 : s.heap.get? p with
    | none => exact hp e2
    | some o => obtain ⟨o', h⟩ := C1.go.there _ _ e2; rw [hq] at h; cases h
  have ownS : ∀ p ∈ own, s.heap.get? p ≠ none := fun p hp e => by
    obtain ⟨o, h⟩ := (KC l).there 0 s p ki hp
    rw [e] at h; cases h
  have rsS : ∀ p ∈ rs, s.heap.get? p ≠ none := fun p hp e => by
    obtain ⟨j, hj⟩ := List.mem_iff_getElem?.mp hp
    obtain ⟨_, _, _, _, h⟩ := ra.get hj
    rw [e] at h; cases h
  have hJo : J ∉ own ∧ J ∉ rs := by
    rcases hJ with h | h
    · exact ⟨fun hm => there0 J (ownS J hm) h rfl, fun hm => there0 J (rsS J hm) h rfl⟩
    · exact ⟨h.2.1, h.2.2.1⟩
  have hTI : s2.heap.get? s2.heap.objs.size = none := not_at
  have C3 := (C2.push (tupO [.ref J]) rfl nd_seq rfl).push (mapO s2.heap.objs.size (.ref kf)) rfl nd_fields rfl
  have g3 : Go H0 [] s2 { s2 with heap := (s2.heap.push (tupO [.ref J])).push (mapO s2.heap.objs.size (.ref kf)) } := (Go.push (s := s2) _).trans (Go.push (s := { s2 with heap := s2.heap.push (tupO [.ref J]) }) _)
  have hmo2 : s2.heap.get? (s2.heap.push (tupO [.ref J])).objs.size = none := none_ge (by rw [Heap.size_push]; exact Nat.le_succ _)
  have nTI := C2.noE hTI
  have nmo := C2.noE hmo2
  have L3 : Lg ((s2.heap.push (tupO [.ref J])).push (mapO s2.heap.objs.size (.ref kf))) (mapL (s2.heap.push (tupO [.ref J])).objs.size s2.heap.objs.size J rl (.ref kf) rs ep 0) := by
    have L2 := LJ.go g3
    have ne : ∀ p ∈ [(J, itO rl 0), (rl, lstO (refA rs) ep)], p.1 ≠ s2.heap.objs.size ∧ p.1 ≠ (s2.heap.push (tupO [.ref J])).objs.size := fun p hp => by
      have := (LJ.has p hp).at_
      exact ⟨fun q => (by rw [q, hTI] at this; cases this), fun q => (by rw [q, hmo2] at this; cases this)⟩
    refine (L2.add (a := s2.heap.objs.size) (o := tupO [.ref J]) (okk_tup (Heap.get?_push_of_some _ (Heap.get?_push_size _ rfl))) fun p hp => (ne p hp).1).add (a := (s2.heap.push (tupO [.ref J])).objs.size) (o := mapO s2.heap.objs.size (.ref kf)) (.of (Heap.get?_push_size _ rfl) nd_fields rfl) fun p hp => ?_
    rcases List.mem_cons.mp hp with rfl | hp
    · show s2.heap.objs.size ≠ _; rw [Heap.size_push]; exact Nat.ne_of_lt (Nat.lt_succ_self _)
    · exact (ne p hp).2
  generalize hmoE : (s2.heap.push (tupO [.ref J])).objs.size = mo at *
  generalize hTIE : s2.heap.objs.size = TI at *
  generalize hs3 : ({ s2 with heap := (s2.heap.push (tupO [.ref J])).push (mapO TI (.ref kf)) } : Shared) = s3 at *
  have L3' : Lg s3.heap (mapL mo TI J rl (.ref kf) rs ep 0) := by rw [← hs3]; exact L3
  have g03 : Go H0 [] s s3 := g02.trans g3
  have ki3 : KI 0 s3 := (KC l).keep _ _ _ _ ki g03 fun p hp => nomatch hp
  have ra3 := ra.go g03 fun p hp => nomatch hp
  have CB : Cx H0 (A.deeper (envOf "_rank" dRank.2.2 L a.rank cdv)) (envOf "_rank" dRank.2.2 L a.rank cdv :: l) [] s L _ (mapL mo TI J rl (.ref kf) rs ep 0) s3 := C3.goN (Go.refl H0 [] s3) (fun _ h => nomatch h) _ L3'.has (fun p hp => by
    simp only [mapL, List.mem_cons, List.not_mem_nil, or_false] at hp
    rcases hp with rfl | rfl | rfl | rfl <;> (intro q; cases q)) L3'.nodup
  show wpAny _ _ (storeName _ _ (.ref mo)) _ _ _
  refine CB.set fun s4 C4 => wpAny_execs_nil ?_
  have notL : ∀ p, s.heap.get? p ≠ none → p ≠ L := fun p hp e => hp (by rw [e]; exact C.new)
  have g04 := C4.go
  have ki4 : KI 0 s4 := (KC l).keep _ _ _ _ ki g04 fun p hp => nomatch hp
  have ra4 := ra.go g04 fun p hp => nomatch hp
  have C5 := C4.mono (M' := mJ ++ chg) fun p hp => nomatch hp
  have hap : ∀ p ∈ [mo, TI, J, rl], p ∉ own ∧ p ∉ rs := fun p hp => by
    have nw : ∀ {q : Addr}, s2.heap.get? q = none → q ∉ own ∧ q ∉ rs := fun {q} hq => by
      have : s.heap.get? q = none := by
        cases e : s.heap.get? q with
        | none => rfl
        | some o => obtain ⟨o', h⟩ := g02.there _ _ e; rw [hq] at h; cases h
      exact ⟨fun hm => ownS q hm this, fun hm => rsS q hm this⟩
    simp only [List.mem_cons, List.not_mem_nil, or_false] at hp
    rcases hp with rfl | rfl | rfl | rfl
    · exact nw hmo2
    · exact nw hTI
    · exact hJo
    · exact hrl
  refine rank_tail (d := 2) (n := rs.length) (P := MapF Z xs as rs.length t0 KI) (κ := κ) (rv := rv) (sv := sv) (v := .ref mo) G FF C5 rfl rfl rfl hsv hz hn (fun s5 g5 => ?_) (by omega) hh PassesOwn.leaving fun m' res rvals c rows rows' s6 s7 hN hpos hP KR hperm hord hrk htk C7 nres hfr => ?_
  · have L5 : Lg s5.heap (mapL mo TI J rl (.ref kf) rs ep 0) := (Lg.mk C4.has C4.nodup).go g5
    have ki5 := (KC l).keep _ _ _ _ ki4 g5 fun p hp => nomatch hp
    have ra5 := ra4.go g5 fun p hp => nomatch hp
    have C5' := C4.call g5
    refine ⟨mo, _, _, _, _, ⟨srcMap (KC _) hla (ep := ep) O hJ0 hap hch, fun p hp => ?_, fun p hp => ?_, fun A2 Q2 E2 h1 h2 h3 h4 => ?_, fun rows s8 hN V => V.ka.keyR rfl⟩, fun acc s' V => V⟩
    · refine .inr ?_
      rcases List.mem_append.mp hp with hp | hp
      · rcases List.mem_append.mp hp with hp | hp
        · obtain ⟨q, hq, rfl⟩ := List.mem_map.mp (show p ∈ (mapL mo TI J rl (.ref kf) rs ep 0).map (·.1) from hp)
          exact ⟨_, (C4.has q hq).at_⟩
        · obtain ⟨j, hj⟩ := List.mem_iff_getElem?.mp hp
          obtain ⟨_, _, _, _, h⟩ := ra4.get hj
          exact ⟨_, h⟩
      · exact (KC l).there _ _ p ki4 hp
    · rcases List.mem_cons.mp hp with rfl | hp
      · rcases hJ with h | h
        · right
          cases e : s.heap.get? p with
          | none => rfl
          | some o => obtain ⟨o', h'⟩ := C1.go.there _ _ e; rw [h] at h'; cases h'
        · exact .inl (List.mem_append_left _ h.1)
      · exact .inl (List.mem_append_right _ hp)
    · refine pyIter_map (L5.at 0 rfl) (h4 _ (Go.refl H0 [] s5) ⟨L5, ra5, ki5, .nil, ?_⟩)
      exact Nat.le_trans ht0 (C5'.go.toks)
  · refine k res rvals c s6 s7 ⟨?_, htk⟩ C7.go (C7.ok 0 rfl) nres.e hP.ki fun p hp hd => hfr p hp (by rw [hd]; intro q; cases q)
    refine rank_at Z (by rw [hN, hla]) (fun j q b hq hb => ?_) hpos hperm hord (by rw [hN]; exact hrk)
    obtain ⟨x, b', h1, h2, h3, _⟩ := hP.ka.kv j q.key (by rw [List.getElem?_map, hq]; rfl)
    rw [hb] at h2; cases h2
    exact h3
end
end Mine
end
section
set_option maxRecDepth 100000
set_option autoImplicit false
namespace Mine
open PySem PySem.Float64
theorem dist_mul (D a b : Nat) : dist (D * a) (D * b) = D * dist a b := by
  unfold dist
  rw [Nat.mul_add, Nat.mul_sub, Nat.mul_sub]
theorem Right.cancel {r : UInt64} {neg : Bool} {W D : Nat} (hD : 0 < D) (h : Right r neg (D * W) D) : Right r neg W 1 := by
  obtain ⟨t, h1, h2, h3, h4⟩ := h
  refine ⟨t, h1, h2, ?_, fun ht t' => ?_⟩
  · rw [h3, Nat.one_mul, Nat.mul_left_comm 2 D W]
    exact ⟨fun q => Nat.le_of_mul_le_mul_left q hD, fun q => Nat.mul_le_mul_left D q⟩
  · obtain ⟨a, b⟩ := h4 ht t'
    rw [dist_mul, dist_mul] at a b
    rw [Nat.one_mul, Nat.one_mul]
    exact ⟨Nat.le_of_mul_le_mul_left a hD, fun q e => b q (by rw [e])⟩
theorem hf_mul2 {z : Int} (h : (2 * z).natAbs ≤ 2 ^ 52) : Float64.mul (Float64.ofInt 2) (hf z) = hf (2 * z) := by
  rw [hf_ofInt (n := 2) (by decide)]
  obtain ⟨m, e, d1, v1⟩ := hf_dec (z := 2 * 2) (by decide)
  obtain ⟨k, f, d2, v2⟩ := hf_dec (z := z) (by omega)
  have R := mul_right d1 d2
  rw [v1, v2, abs_cast, abs_cast] at R
  have e1 : ((2 * 2 : Int).natAbs * 2 ^ 1073) * (z.natAbs * 2 ^ 1073) = 2 ^ 1074 * ((2 * z).natAbs * 2 ^ 1073) := by
    rw [show (2 * z).natAbs = 2 * z.natAbs from by omega, show (2 * 2 : Int).natAbs = 2 * 2 from rfl, pow1074]
    generalize (2 : Nat) ^ 1073 = p
    generalize z.natAbs = y
    rw [Nat.mul_comm 2 2]
    simp only [Nat.mul_comm, Nat.mul_left_comm, Nat.mul_assoc]
  rw [e1] at R
  have R1 := Right.cancel (Nat.two_pow_pos _) R
  have hs : (decide ((2 * 2 : Int) < 0) != decide (z < 0)) = decide (2 * z < 0) := by
    rw [show decide ((2 * 2 : Int) < 0) = false from rfl]
    by_cases q : z < 0
    · rw [decide_eq_true q, decide_eq_true (by omega)]; rfl
    · rw [decide_eq_false q, decide_eq_false (by omega)]; rfl
  rw [hs] at R1
  exact hf_uniq h R1

theorem hf0 : hf 0 = 0 := by rw [hf_zero]; decide +kernel
theorem lost0 {a b : Int} (ha : a.natAbs ≤ 2 ^ 51) (hb : b.natAbs ≤ 2 ^ 51) : (if Float64.cmp (Float64.abs (hf a)) (Float64.abs (hf b)) == some .lt || Float64.isNaN (hf a) || Float64.isNaN (hf b) then Float64.add (Float64.sub (hf b) (Float64.add (hf a) (hf b))) (hf a) else Float64.add (Float64.sub (hf a) (Float64.add (hf a) (hf b))) (hf b)) = 0 := by
  have hs : Float64.add (hf a) (hf b) = hf (a + b) := hf_add (by omega) (by omega) (by omega)
  rw [hs]
  split
  · rw [hf_sub (by omega) (by omega) (by omega), hf_add (by omega) (by omega) (by omega)]
    rw [show b - (a + b) + a = 0 by omega]; exact hf0
  · rw [hf_sub (by omega) (by omega) (by omega), hf_add (by omega) (by omega) (by omega)]
    rw [show a - (a + b) + b = 0 by omega]; exact hf0
theorem sumBits_hf : ∀ (zs : List Int) (a : Int) (B : Nat), (∀ z ∈ zs, z.natAbs ≤ B) → a.natAbs + B * zs.length ≤ 2 ^ 51 → Flt.sumBits (zs.map hf) (hf a) 0 = hf (a + zs.sum)
  | [], a, B, _, h => by
    show PySem.W.Num.settled (hf a) 0 = _
    rw [List.sum_nil, Int.add_zero]
    unfold PySem.W.Num.settled
    rw [if_neg (by decide +kernel)]
  | z :: r, a, B, hz, h => by
    have h1 := hz z (.head _)
    rw [List.length_cons, Nat.mul_add, Nat.mul_one] at h
    show Flt.sumBits (r.map hf) (Float64.add (hf a) (hf z)) (Float64.add 0 _) = _
    rw [lost0 (by omega) (by omega), hf_add (by omega) (by omega) (by omega)]
    have : Float64.add 0 0 = 0 := by decide +kernel
    rw [this, sumBits_hf r (a + z) B (fun x hx => hz x (.tail _ hx)) (by omega), List.sum_cons, Int.add_assoc]
theorem sumOf_hf {zs : List Int} {B : Nat} (hne : zs ≠ []) (hz : ∀ z ∈ zs, z.natAbs ≤ B) (h : B * zs.length ≤ 2 ^ 51) : Flt.sumOf (zs.map hf) = hf zs.sum := by
  cases zs with
  | nil => exact absurd rfl hne
  | cons z r =>
    have h1 := hz z (.head _)
    rw [List.length_cons, Nat.mul_add, Nat.mul_one] at h
    show Flt.sumBits (r.map hf) (Float64.add (Float64.ofInt 0) (hf z)) 0 = _
    rw [hf_ofInt (n := 0) (by decide), hf_add (by decide) (by omega) (by omega), sumBits_hf r _ B (fun x hx => hz x (.tail _ hx)) (by omega), List.sum_cons]
    congr 1
    omega
end Mine
end
section
set_option maxRecDepth 100000
set_option autoImplicit false
set_option genInjectivity false
set_option genSizeOf false
namespace Mine
open PySem PySem.W PySem.Calls PyProof.Rows PySem.Spec

theorem isl {h : Heap} {l : Addr} {vs : List Value} {c : Nat} (e : h.get? l = some (lstO vs c)) : h.IsList l vs.toArray := ⟨_, e, rfl, c, rfl⟩
structure Grew (s s' : Shared) : Prop where
  keep : ∀ b o, s.heap.get? b = some o → s'.heap.get? b = some o
  toks : s.toks ≤ s'.toks
  gens : s'.gens = s.gens
  os : s'.os = s.os
theorem Grew.go {s s' : Shared} (g : Grew s s') (H0 : Heap) (M : List Addr) : Go H0 M s s' := Go.ext g.keep g.toks g.gens g.os M
structure HV (vs : List Value) (zs : List Int) : Prop where
  len : vs.length = zs.length
  at_ : ∀ (i : Nat) (z : Int), zs[i]? = some z → ∃ t, vs[i]? = some (.float (hf z) t)
theorem HV.are : ∀ {vs : List Value} {zs : List Int}, HV vs zs → Flt.FloatsAre vs (zs.map hf)
  | [], [], _ => .nil
  | [], _ :: _, h => by have := h.len; simp at this
  | _ :: _, [], h => by have := h.len; simp at this
  | v :: vs, z :: zs, h => by
    obtain ⟨t, ht⟩ := h.at_ 0 z rfl
    have : v = .float (hf z) t := by simpa using ht
    subst this
    exact .cons _ _ (HV.are (vs := vs) (zs := zs) ⟨by simpa using h.len, fun i x hx => h.at_ (i + 1) x hx⟩)
theorem HV.get {vs : List Value} {zs : List Int} (h : HV vs zs) {i : Nat} {v : Value} (hv : vs[i]? = some v) : ∃ z t, zs[i]? = some z ∧ v = .float (hf z) t := by
  obtain ⟨z, hz⟩ : ∃ z, zs[i]? = some z := ⟨_, List.getElem?_eq_getElem (by rw [← h.len]; exact (List.getElem?_eq_some_iff.mp hv).1)⟩
  obtain ⟨t, ht⟩ := h.at_ i z hz
  rw [hv] at ht
  exact ⟨z, t, hz, Option.some.inj ht⟩
theorem HV.nil : HV [] [] := ⟨rfl, fun i z h => by simp at h⟩
theorem HV.snoc {vs : List Value} {zs : List Int} (h : HV vs zs) (z : Int) (t : Tok) : HV (vs ++ [.float (hf z) t]) (zs ++ [z]) := by
  refine ⟨by simp [h.len], fun i x hx => ?_⟩
  by_cases hi : i < zs.length
  · rw [List.getElem?_append_left hi] at hx
    rw [List.getElem?_append_left (by rw [h.len]; exact hi)]
    exact h.at_ i x hx
  · rw [List.getElem?_append_right (Nat.not_lt.mp hi)] at hx
    rw [List.getElem?_append_right (by rw [h.len]; exact Nat.not_lt.mp hi), h.len]
    have e0 : i - zs.length = 0 := by have := (List.getElem?_eq_some_iff.mp hx).1; simp at this; omega
    rw [e0] at hx ⊢
    cases hx
    exact ⟨t, rfl⟩

section
variable {prog : Program} {w : World} {A : Around} {E : Value → Shared → Prop} {s : Shared}
theorem sumF {l : Addr} {vs : List Value} {c : Nat} {zs : List Int} {B : Nat} {Q : Value → Shared → Prop} (hl : s.heap.get? l = some (lstO vs c)) (hv : HV vs zs) (hne : zs ≠ []) (hz : ∀ z ∈ zs, z.natAbs ≤ B) (hb : B * zs.length ≤ 2 ^ 51) (hh : A.handled = none)
    (k : ∀ s' t, Grew s s' → Q (.float (hf zs.sum) t) s') : wpAny (model prog w) A (PySem.call (.builtin "sum") [.ref l]) Q E s := by
  have hf' := hv.are
  refine PySem.wpAny_with_toks (n := s.toks) (Nat.le_refl _) (Flt.call_sum_walkF (Flt.sumInts_map (bs := zs.map hf) (by simpa using hne)) (Flt.iter_list_ (isl hl) fun s₂ e st hfp hlI => ?_))
  subst e
  have W := (Walks.list (prog := prog) (w := w) (A := A.in1) hh _ l hlI vs.toArray).toS
  have hlen : vs.toArray.size = ((zs.map hf).map WData.float).length := by simpa using hv.len
  rw [hlen] at W
  refine ⟨_, _, _, _, _, _, rfl, W, st, hfp, fun i v hP => ?_, fun s' v hv' hm htk => ?_⟩
  · obtain ⟨b, t, rfl, e⟩ := hf'.at i v (by simpa using hP)
    rw [List.getElem?_map] at e
    obtain ⟨x, hx, rfl⟩ := Option.map_eq_some_iff.mp e
    exact ⟨.float (hf x), by simp [hx], .float _ t⟩
  · cases hv'
    rw [sumOf_hf hne hz hb]
    exact k s' _ ⟨Flt.kept_iter hm.heap, htk, hm.gens, hm.os⟩

theorem eqAt_ref (x : Addr) : SeqAt.EqAt A s (.ref x) (.ref x) true := fun prog w E Q h => by
  unfold eqBool
  refine wpAny_holding ?_
  refine ite_yes (by simp) ?_
  exact wpAny_bind (wpAny_rule (wpAny_pure h))
theorem eqAt_flt {z z' : Int} {t u : Tok} (hb : NoneBooked s.heap) (ht : t ≠ 0) (hu : u ≠ 0) (hz : z.natAbs ≤ 2 ^ 52) (hz' : z'.natAbs ≤ 2 ^ 52) (e : t = u → z = z') : SeqAt.EqAt A s (.float (hf z) t) (.float (hf z') u) (decide (z = z')) := fun prog w E Q h => by
  refine eqBool_flt hb ht hu (fun q => ?_) ?_
  · have : z = z' := q.elim e fun q => hf_inj hz hz' q
    subst this
    rw [hf_cmp hz hz]; simp
  · rw [hf_eq hz hz']; exact h
theorem get_arr {vs : List Value} {j : Nat} (h : j < vs.toArray.size) : vs[j]? = some vs.toArray[j] := by
  rw [List.getElem_toArray]
  exact List.getElem?_eq_getElem _
theorem all_t {n : Nat} : ((List.range n).all fun _ => true) = true := List.all_eq_true.mpr fun _ _ => rfl
theorem lists_eq {D1 D2 : Addr} {vs ws : List Value} {c d : Nat} {Q : Value → Shared → Prop} (h1 : s.heap.get? D1 = some (lstO vs c)) (h2 : s.heap.get? D2 = some (lstO ws d)) (hlen : vs.length = ws.length) (hu : A.units < cLine)
    (he : ∀ (j : Nat) (v u : Value), vs[j]? = some v → ws[j]? = some u → SeqAt.EqAt A.in1 s v u true) (h : Q (.bool true) s) : wpAny (model prog w) A (compareOp .Eq (.ref D1) (.ref D2)) Q E s := by
  have := SeqAt.RcAt.lists (A := A) (s := s) (e := fun _ => true) (isl h1) (isl h2) (by simpa using hlen) hu fun j a b => he j _ _ (get_arr a) (get_arr b)
  refine this prog w E Q ?_
  rw [all_t]; exact h
theorem lists_ne {D1 D2 : Addr} {vs ws : List Value} {c d : Nat} {Q : Value → Shared → Prop} (h1 : s.heap.get? D1 = some (lstO vs c)) (h2 : s.heap.get? D2 = some (lstO ws d)) (hlen : vs.length = ws.length) (hu : A.units < cLine)
    (he : ∀ (j : Nat) (v u : Value), vs[j]? = some v → ws[j]? = some u → SeqAt.EqAt A.in1 s v u true) (h : Q (.bool false) s) : wpAny (model prog w) A (compareOp .NotEq (.ref D1) (.ref D2)) Q E s := by
  have := SeqAt.RcNeAt.lists (A := A) (s := s) (e := fun _ => true) (isl h1) (isl h2) (by simpa using hlen) hu fun j a b => he j _ _ (get_arr a) (get_arr b)
  refine this prog w E Q ?_
  rw [all_t]; exact h
theorem div2 {n : Int} (h : n.natAbs ≤ 2 ^ 50) {t u : Tok} {Q : Value → Shared → Prop} (k : Q (.float (hf n) s.toks) { s with toks := s.toks + 1 }) : wpAny (model prog w) A (binaryOp .Div (.int n t) (.int 2 u)) Q E s := by
  have e : Float64.ofFrac (decide (n < 0) != decide ((2 : Int) < 0)) n.natAbs (2 : Int).natAbs = hf n := by
    have : (decide (n < 0) != decide ((2 : Int) < 0)) = decide (n < 0) := by rw [show decide ((2 : Int) < 0) = false from rfl]; simp
    rw [this]; rfl
  refine AutoIntOps.truediv_2 (by decide) ?_ ?_
  · rw [e, hf_notInf (by omega)]; decide
  · show Q _ _
    rw [e]; exact k
theorem call_iter {l : Addr} {vs : List Value} {c : Nat} {Q : Value → Shared → Prop} (hl : s.heap.get? l = some (lstO vs c)) (h : Q (.ref s.heap.objs.size) { s with heap := s.heap.push (itO l 0) }) : wpAny (model prog w) A (PySem.call (.builtin "iter") [.ref l]) Q E s :=
  Mine.iter_list hl rfl rfl h
end
end Mine
end
section
set_option maxRecDepth 100000
set_option autoImplicit false
set_option genInjectivity false
set_option genSizeOf false
namespace Mine
open PySem PySem.W PySem.Calls PyProof.Rows PySem.Spec

theorem Ranked.toK {κ : KeyOps} {Z : KeyZ κ} {rv : Bool} {z : Int} {vals rvals : List Value} {tk : Nat} {as : List Int} (h : Ranked κ rv z vals rvals tk) (hlen : vals.length = as.length) (hv : ∀ (j : Nat) (v : Value) (a : Int), vals[j]? = some v → as[j]? = some a → Z.KV v a) : RankedK Z rv z as rvals tk := by
  obtain ⟨rows, rows', e, hpos, hperm, hord, hrk⟩ := h.ex
  have hl : rows.length = vals.length := by rw [← e, List.length_map]
  refine ⟨rank_at Z (by rw [hl, hlen]) (fun j q b hq hb => hv j q.key b (by rw [← e, List.getElem?_map, hq]; rfl) hb) hpos hperm hord (by rw [hl]; exact hrk), h.tk⟩
section
variable {K : Frag} {a : Adr} {H0 : Heap} {mg mb : Str → Option Value} {A : Around} {l : List Env} {s : Shared} {prog : Program} {w : World} {E : Value → Shared → Prop} {z : Int}
set_option maxHeartbeats 1000000 in
theorem rank_rev (G : Gl K H0 mg mb) (F : KF K a) (S : St H0 A l s) (κ : KeyOps) {lst : Addr} {vals : List Value} {ep : Nat} {rv : Bool} (hl : Okk s.heap (lst, lstO vals ep)) (hn : vals.length < 64) (KL : KeyL κ vals)
    (hroom : A.depth + 5 < recursionLimit) (hh : A.handled = none) {R : Result → Shared → Prop}
    (k : ∀ res rvals c s', Ranked κ rv 0 vals rvals s'.toks → Go H0 [] s s' → Okk s'.heap (res, lstO rvals c) → s.heap.get? res = none → R (.ok (.ret (.ref res))) s') :
    codeAny (model prog w) A (.call (.ref a.rank) ⟨[.ref lst], [(Str.ofString "reverse", .bool rv)]⟩) R s := by
  refine enterFX G S F.rank [] (by lia) (by decide) fun name doc pm an cdv ct E' => ?_
  obtain ⟨t, u, hk⟩ := rk_looks F
  refine rank_bind_rev (S.X G) hk ⟨fun b o h => h, Nat.le_refl _, rfl, rfl, locs rfl, [(lst, lstO vals ep)], fun p hp => by rw [List.mem_singleton.mp hp]; exact hl, by simp, fun L cdv s1 C => ?_⟩
  refine wpAny_execs_cons (wpAny_If (wpAny_isTrue_Compare1 (C.name rfl (wpAny_Constant_str (PySem.P.ne_str (wpAny_truthy_bool ?_))))))
  refine ite_no' (by decide) (wpAny_execs_nil ?_)
  have C1 := C.tok 1
  refine wpAny_execs_cons (wpAny_If (wpAny_isTrue_Compare1 (C1.name (v := .none) rfl (wpAny_Constant_none (isNot_none (wpAny_truthy_bool ?_))))))
  refine ite_no' (by decide) (wpAny_execs_nil ?_)
  refine rank_tail (z := 0) (d := 0) (n := vals.length) (P := fun acc _ => acc = vals) (κ := κ) G F C1 rfl rfl rfl (.int 1 u rfl rfl) (by decide) hn (fun s2 g2 => ⟨_, _, _, _, _, drawn_list (C1.st.go g2) (C1.ok 0 rfl) ((C1.ok 0 rfl).go g2 (fun h => nomatch h)) ?_ KL, fun _ _ h => h⟩) (by omega) hh PassesOwn.leaving fun m' res rvals c rows rows' s2 s3 hN hpos hP KR hperm hord hrk htk C3 nres hfr => ?_
  · exact ((C1.call g2).noE not_at).e
  · exact k res rvals c s3 ⟨⟨rows, rows', hP, hpos, hperm, hord, hrk⟩, htk⟩ C3.go (C3.ok 0 rfl) nres.e
end
noncomputable def rkZ (rv : Bool) (T : Int) (as : List Int) : List Int := as.map fun b => rkN T (as.map (dirZ rv)) (dirZ rv b)
theorem RankedK.hv {κ : KeyOps} {Z : KeyZ κ} {rv : Bool} {T : Int} {as : List Int} {rvals : List Value} {tk : Nat} (h : RankedK Z rv (T - 2) as rvals tk) : HV rvals (rkZ rv T as) := by
  obtain ⟨h1, h2⟩ := h.at_
  refine ⟨by rw [h1]; simp [rkZ], fun i x hx => ?_⟩
  unfold rkZ at hx
  rw [List.getElem?_map] at hx
  obtain ⟨b, hb, rfl⟩ := Option.map_eq_some_iff.mp hx
  obtain ⟨t, ht⟩ := h2 i b hb
  refine ⟨t, ?_⟩
  rw [ht]
  congr 3
  unfold rkN wN
  rw [List.countP_map, List.countP_map]
  have e1 : as.countP ((fun x => decide (x = dirZ rv b)) ∘ dirZ rv) = as.countP fun x => decide (x = b) := List.countP_congr fun x _ => by
    simp only [Function.comp, decide_eq_true_eq, dirZ_inj]
  rw [e1]
  have e2 : as.countP ((fun x => decide (x < dirZ rv b)) ∘ dirZ rv) = as.countP fun x => decide (dirZ rv x < dirZ rv b) := rfl
  rw [e2]
  omega
theorem RankedK.toks {κ : KeyOps} {Z : KeyZ κ} {rv : Bool} {z : Int} {as : List Int} {rvals : List Value} {tk : Nat} {zs : List Int} (h : RankedK Z rv z as rvals tk) (hv : HV rvals zs) : ∀ (i : Nat) (v : Value), rvals[i]? = some v → tokOf v ≠ 0 ∧ tokOf v < tk := fun i v hi => by
  obtain ⟨x, t, _, rfl⟩ := hv.get hi
  rcases h.tk.all _ (List.mem_of_getElem? hi) with ⟨_, e⟩ | ⟨x', t', e, h1, h2⟩
  · cases e
  · cases e; exact ⟨Nat.ne_of_gt h1, h2⟩
theorem RankedK.same {κ : KeyOps} {Z : KeyZ κ} {rv : Bool} {z : Int} {as : List Int} {rvals : List Value} {tk : Nat} {x y : UInt64} {t : Tok} (h : RankedK Z rv z as rvals tk) (h1 : Value.float x t ∈ rvals) (h2 : Value.float y t ∈ rvals) : x = y := h.tk.same x t y h1 h2
theorem rkZ_bound {rv : Bool} {T : Int} {as : List Int} {B : Nat} (hT : T.natAbs ≤ B) (hn : as.length ≤ 64) : ∀ z ∈ rkZ rv T as, z.natAbs ≤ B + 129 := fun z hz => by
  obtain ⟨b, hb, rfl⟩ := List.mem_map.mp hz
  have := wN_bound (as.map (dirZ rv)) (dirZ rv b)
  rw [List.length_map] at this
  unfold rkN
  omega
theorem RankedK.keyL {κ : KeyOps} {Z : KeyZ κ} {rv : Bool} {T : Int} {as : List Int} {rvals : List Value} {tk : Nat} (h : RankedK Z rv (T - 2) as rvals tk) (hT : T.natAbs ≤ 2 ^ 50) (hn : as.length ≤ 64) : KeyL fltKey rvals := by
  have hv := h.hv
  have hf : ∀ x ∈ rvals, ∃ z t, HfV x z ∧ x = .float (hf z) t := fun x hx => by
    obtain ⟨i, hi⟩ := List.mem_iff_getElem?.mp hx
    obtain ⟨z, t, hz, rfl⟩ := hv.get hi
    have := rkZ_bound (rv := rv) hT hn z (List.mem_of_getElem? hz)
    exact ⟨z, t, ⟨by omega, t, rfl⟩, rfl⟩
  refine ⟨fun x hx => ?_, fun x hx y hy e => ?_⟩
  · obtain ⟨z, t, hz, _⟩ := hf x hx
    obtain ⟨i, hi⟩ := List.mem_iff_getElem?.mp hx
    exact ⟨⟨z, hz⟩, (h.toks hv i x hi).1⟩
  · obtain ⟨z, t, hz, rfl⟩ := hf x hx
    obtain ⟨z', t', hz', rfl⟩ := hf y hy
    have e' : t = t' := e
    subst e'
    have := hf_inj hz.1 hz'.1 (h.same hx hy)
    subst this
    show (Float64.cmp (Mine.hf z) (Mine.hf z) == some .eq) = true
    rw [hf_cmp hz.1 hz.1]; simp
end Mine
end
section
set_option maxRecDepth 100000
set_option autoImplicit false
set_option genInjectivity false
set_option genSizeOf false
namespace Mine
open PySem PySem.W PySem.Calls PyProof.Rows PySem.Spec

section
variable {H0 : Heap} {A : Around} {l : List Env} {M : List Addr} {sE : Shared} {L : Addr} {m : Str → Option Value} {led : List (Addr × Obj)} {s : Shared} {prog : Program} {w : World} {E : Value → Shared → Prop} {env : Env}
noncomputable abbrev cItemT (prog : Program) (w : World) (A : Around) (elt target : Expr) (ifs : List Expr) (it : Value) (env : Env) (acc : Value) (I : Nat → Shared → Prop) (n : Nat) (R : Result → Shared → Prop) : Option Value → Shared → Prop := fun r s₁ => match r with
  | none => R (.ok .next) s₁
  | some v => wpAny (model prog w) A (letOwnedTupleGo target it v) (fun _ s₂ => wpAny (model prog w) A (assign target env v) (cSet prog w A elt ifs env acc I n R) (eNote prog w A env R) s₂) (eNote prog w A env R) s₁
theorem codeAny_compLoop_all {R : Result → Shared → Prop} {elt target iter : Expr} {ifs : List Expr} {scope : Scope} {pos : Pos} {it acc : Value} {env : Env} (I : Nat → Shared → Prop)
    (step : ∀ n s, I n s → wpAny (model prog w) A (pyNext it) (cItemT prog w A elt target ifs it env acc I n R) (eNote prog w A env R) s)
    (n : Nat) (h : I n s) : codeAny (model prog w) A (.compLoop (.ListComp elt [⟨target, iter, ifs, 0⟩] scope pos) 0 it acc env) R s := by
  refine codeAny_loop rfl I (fun n s hI => ?_) n h
  show wpAny _ A ((compTurn (.ListComp elt [⟨target, iter, ifs, 0⟩] scope pos) 0 it acc env).onRaise (fun x => do noteFrame x env; theTreesLotGoes x)) _ _ s
  refine wpAny_noted ?_
  rw [compTurn_list]
  refine wpAny_bind (wpAny_standAt (wpAny_bind (wpAny_mono (step n s hI) (fun r s₁ h₁ => ?_) fun _ _ h' => h')))
  cases r with
  | none => exact wpAny_pure h₁
  | some v =>
    refine wpAny_bind (wpAny_mono h₁ (fun _ s₁' h₁' => ?_) fun _ _ h' => h')
    refine wpAny_bind (wpAny_mono h₁' (fun _ s₂ h₂ => wpAny_bind (wpAny_mono h₂ (fun ok s₃ h₃ => ?_) fun _ _ h' => h')) fun _ _ h' => h')
    cases ok with
    | false => exact wpAny_pure ⟨rfl, h₃⟩
    | true =>
      exact wpAny_bind (wpAny_bind (wpAny_mono h₃ (fun x s₄ h₄ => wpAny_bind (wpAny_mono h₄ (fun _ s₅ h₅ => wpAny_pure (wpAny_pure ⟨rfl, h₅⟩)) fun _ _ h' => h')) fun _ _ h' => h'))

structure Kept (W : List Addr) (s s' : Shared) : Prop where
  nd : ∀ b o, s.heap.get? b = some o → nd o → b ∉ W → s'.heap.get? b = some o
  toks : s.toks ≤ s'.toks
theorem Kept.trans {W : List Addr} {a b c : Shared} (x : Kept W a b) (y : Kept W b c) : Kept W a c := ⟨fun p o e n h => y.nd p o (x.nd p o e n h) n h, Nat.le_trans x.toks y.toks⟩
theorem Kept.mono {W W' : List Addr} {a b : Shared} (x : Kept W a b) (h : ∀ p ∈ W, p ∈ W') : Kept W' a b := ⟨fun p o e n q => x.nd p o e n fun r => q (h p r), x.toks⟩
theorem Go.kept {s s' : Shared} {W : List Addr} (g : Go H0 W s s') : Kept W s s' := ⟨fun b o e n h => g.nd b o e h n, g.toks⟩

structure Feed (prog : Program) (w : World) (H0 : Heap) (A : Around) (l : List Env) (sB : Shared) (C : Addr) (it : Value) (target : Expr) (cenv : Env) (W S : List Addr) (n : Nat) (Sst : Nat → Shared → Prop) (Bd : Nat → (Str → Option Value) → Prop) : Prop where
  draw : ∀ i mC led s (Q : Unit → Shared → Prop) (E : Value → Shared → Prop), i < n → Sst i s → Cx H0 A l [] sB C mC led s → (∀ p ∈ led, p.1 ∉ W ∧ ∀ a ∈ W, p.2.dict ≠ some a) → (∀ mC' s', Cx H0 A l [] sB C mC' led s' → Sst (i + 1) s' → Bd i mC' → Kept W s s' → Q () s') →
    wpAny (model prog w) A (pyNext it) (fun r s₁ => match r with | none => False | some v => wpAny (model prog w) A (letOwnedTupleGo target it v) (fun _ s₂ => wpAny (model prog w) A (assign target cenv v) Q E s₂) E s₁) E s
  fin : ∀ mC led s (Q : Shared → Prop) (E : Value → Shared → Prop), Sst n s → Cx H0 A l [] sB C mC led s → (∀ p ∈ led, p.1 ∉ W ∧ ∀ a ∈ W, p.2.dict ≠ some a) → (∀ s', Cx H0 A l [] sB C mC led s' → Kept W s s' → Q s') →
    wpAny (model prog w) A (pyNext it) (fun r s₁ => match r with | none => Q s₁ | some _ => False) E s
  thereW : ∀ i s, Sst i s → ∀ p ∈ W, ∃ o, s.heap.get? p = some o
  keep : ∀ i s s', Sst i s → (∀ b ∈ S, ∀ o, s.heap.get? b = some o → Mine.nd o → s'.heap.get? b = some o) → Sst i s'

noncomputable abbrev TurnG (prog : Program) (w : World) (H0 : Heap) (A : Around) (l : List Env) (led : List (Addr × Obj)) (D C : Addr) (sB : Shared) (W : List Addr) (ifs : List Expr) (elt : Expr) (cenv : Env) (n : Nat) (Bd : Nat → (Str → Option Value) → Prop) (P : Nat → List Value → Shared → Prop) : Prop :=
  ∀ (i : Nat) (acc : List Value) (c : Nat) (mC : Str → Option Value) (s : Shared) (E' : Value → Shared → Prop), i < n → P i acc s → Bd i mC → (∀ p ∈ W, ∃ o, s.heap.get? p = some o) → Cx H0 A l [] sB C mC ((D, lstO acc c) :: led) s →
    wpAny (model prog w) A (forIn ifs true fun c r => if r = true then do let ok ← isTrue c cenv (eval c cenv); pure (ForInStep.yield ok) else pure (ForInStep.yield r)) (fun ok s₃ =>
      if ok = true then wpAny (model prog w) A (eval elt cenv) (fun y s₄ => Go H0 [] s s₄ ∧ (Kept [D] s₄ { s₄ with heap := s₄.heap.update D (Obj.mapSeq (·.push y)) } → P (i + 1) (acc ++ [y]) { s₄ with heap := s₄.heap.update D (Obj.mapSeq (·.push y)) })) E' s₃
      else Go H0 [] s s₃ ∧ P (i + 1) acc s₃) E' s

theorem comp_all {elt target iter : Expr} {ifs : List Expr} {scope : Scope} {pos : Pos} {cenv : Env} {it : Value} {D C : Addr} {W S : List Addr} {n : Nat} {Sst : Nat → Shared → Prop} {Bd : Nat → (Str → Option Value) → Prop} {P : Nat → List Value → Shared → Prop} {R : Result → Shared → Prop} {sB : Shared}
    (F : Feed prog w H0 A l sB C it target cenv W S n Sst Bd) (hled : ∀ p ∈ led, p.1 ∉ W ∧ ∀ a ∈ W, p.2.dict ≠ some a) (hD0 : H0.get? D = none) (hD1 : sB.heap.get? D = none) (hDW : D ∉ W) (hDS : D ∉ S) (hn : n ≤ 1000)
    (mono : ∀ i acc s s', P i acc s → Kept (D :: W) s s' → P i acc s')
    (turn : TurnG prog w H0 A l led D C sB W ifs elt cenv n Bd P)
    (k : ∀ mC acc c s', Cx H0 A l [] sB C mC ((D, lstO acc c) :: led) s' → P n acc s' → R (.ok .next) s')
    {mC : Str → Option Value} {c : Nat} {s : Shared} (C0 : Cx H0 A l [] sB C mC ((D, lstO [] c) :: led) s) (hS : Sst 0 s) (h0 : P 0 [] s) :
    codeAny (model prog w) A (.compLoop (.ListComp elt [⟨target, iter, ifs, 0⟩] scope pos) 0 it (.ref D) cenv) R s := by
  have hl2 : ∀ (acc : List Value) (c : Nat), ∀ p ∈ (D, lstO acc c) :: led, p.1 ∉ W ∧ ∀ a ∈ W, p.2.dict ≠ some a := fun acc c p hp => by
    rcases List.mem_cons.mp hp with rfl | hp
    · exact ⟨hDW, fun a _ q => by cases q⟩
    · exact hled p hp
  refine codeAny_compLoop_all (fun k s => ∃ i acc c mC, k = n + 1 - i ∧ i ≤ n ∧ acc.length ≤ i ∧ P i acc s ∧ Sst i s ∧ Cx H0 A l [] sB C mC ((D, lstO acc c) :: led) s) ?_ (n + 1) ⟨0, [], c, mC, rfl, Nat.zero_le _, Nat.le_refl _, h0, hS, C0⟩
  rintro n1 s1 ⟨i, acc, c1, mC1, rfl, hi, hal, hP, hS1, C1⟩
  by_cases hlt : i < n
  · refine wpAny_mono (F.draw i mC1 _ s1 (cSet prog w A elt ifs cenv (.ref D) _ _ R) (eNote prog w A cenv R) hlt hS1 C1 (hl2 _ _) (fun mC' s2 C2 hS2 hB K2 => ?_)) (fun r s' z => by cases r with | none => exact z.elim | some v => exact z) fun _ _ z => z
    refine wpAny_mono (turn i acc c1 mC' s2 _ hlt (mono _ _ _ _ hP (K2.mono fun p hp => .tail _ hp)) hB (F.thereW _ _ hS2) C2) (fun ok s3 h3 => ?_) fun _ _ z => z
    have keepS : ∀ {s s' : Shared}, Go H0 [] s s' → Sst (i + 1) s → Sst (i + 1) s' := fun g h => F.keep _ _ _ h fun b _ o e hnd => g.nd b o e (fun h => nomatch h) hnd
    cases ok with
    | false =>
      rw [if_neg (by decide)] at h3
      refine ite_no' rfl ?_
      exact ⟨n + 1 - (i + 1), by omega, i + 1, acc, c1, mC', rfl, hlt, by omega, h3.2, keepS h3.1 hS2, C2.call h3.1⟩
    | true =>
      rw [if_pos rfl] at h3
      refine ite_yes' rfl ?_
      refine wpAny_mono h3 (fun y s4 h4 => ?_) fun _ _ z => z
      have C4 := C2.call h4.1
      refine append_list (C4.at 0 rfl) (by omega) ?_
      have C5 := C4.upd 0 (f := Obj.mapSeq (·.push y)) rfl rfl nd_seq rfl (.inr hD1) hD0
      have e : (Obj.mapSeq (·.push y) (lstO acc c1)) = lstO (acc ++ [y]) (c1 + 1) := by simp [Obj.mapSeq]
      rw [e] at C5
      have kD : Kept [D] s4 { s4 with heap := s4.heap.update D (Obj.mapSeq (·.push y)) } := ⟨fun b o e2 _ hb => (Heap.get?_update_other _ _ (fun q => hb (by simp [q]))).trans e2, Nat.le_refl _⟩
      refine ⟨n + 1 - (i + 1), by omega, i + 1, acc ++ [y], c1 + 1, mC', rfl, hlt, by simp; omega, h4.2 kD, ?_, C5⟩
      exact F.keep _ _ _ (keepS h4.1 hS2) fun b hb o e2 _ => (Heap.get?_update_other _ _ (fun q => hDS (by rw [q]; exact hb))).trans e2
  · have hin : i = n := by omega
    subst hin
    refine wpAny_mono (F.fin mC1 _ s1 (fun s' => R (.ok .next) s') (eNote prog w A cenv R) hS1 C1 (hl2 _ _) fun s2 C2 K2 => ?_) (fun r s' z => by cases r with | none => exact z | some v => exact z.elim) fun _ _ z => z
    exact k mC1 acc c1 s2 C2 (mono _ _ _ _ hP (K2.mono fun p hp => .tail _ hp))
end
end Mine
end
section
set_option maxRecDepth 100000
set_option autoImplicit false
set_option genInjectivity false
set_option genSizeOf false
namespace Mine
open PySem PySem.W PySem.Calls PyProof.Rows PySem.Spec
section
variable {H0 : Heap} {A : Around} {l : List Env} {M : List Addr} {sE : Shared} {L : Addr} {m : Str → Option Value} {led : List (Addr × Obj)} {s : Shared} {prog : Program} {w : World} {E : Value → Shared → Prop} {env : Env}
theorem Cx.compA {sB : Shared} (CB : Cx H0 A l M sE L m led sB) {elt iter target : Expr} {y : Str} {py : Pos} {ifs : List Expr} {scope : Scope} {cl : List (Str × Addr)} {pos spos : Pos} {Q : Flow → Shared → Prop} {P : Addr → Nat → List Value → Shared → Prop}
    (hsw : swapsWith (.ListComp elt [⟨target, iter, ifs, 0⟩] scope pos) (some (.Name y py)) spos.line env = pure true)
    (hclos : closureFor scope env = pure cl) (hcell : ∀ y ∈ scope.names, y.2 ≠ .cell) (hkind : scope.kind = .function)
    (hnames : ∀ y ∈ scope.names, y.2 = .local → scope.names.lookup y.1 = some .local)
    (hL : env.locals = L) (hy : env.kindOf y = some .local) (hp : (env.scope.kind == .class || (env.scope.kind == .module && env.locals != env.globals)) = false)
    (h : wpAny (model prog w) A (eval iter env) (fun xv s₁ => wpAny (model prog w) A (pyIter xv) (fun it s₂ => ∃ (W S : List Addr) (n : Nat) (Sst : Nat → Shared → Prop) (Bd : Nat → (Str → Option Value) → Prop), Go H0 [] sB s₂ ∧ n ≤ 1000 ∧ Sst 0 s₂ ∧ (∀ D, P D 0 [] s₂) ∧
      (∀ p ∈ W, sB.heap.get? p = none) ∧ (∀ p, p ∈ S ∨ p ∈ W → ∃ o, s₂.heap.get? p = some o) ∧ (∀ D i acc s s', P D i acc s → Kept (D :: W) s s' → P D i acc s') ∧
      (∀ (s : Shared) (Q' E' : Value → Shared → Prop), Sst 0 s → Q' it s → wpAny (model prog w) A (pyIter it) (fun v s => Q' v s) (fun v s => E' v s) s) ∧
      (∀ C, s₂.heap.get? C = none → Feed prog w H0 A l sB C it target (compEnvC scope cl C env) W S n Sst Bd) ∧
      (∀ D C, sB.heap.get? D = none → H0.get? D = none → TurnG prog w H0 A l led D C sB W ifs elt (compEnvC scope cl C env) n Bd (P D)) ∧
      (∀ D acc c s' s5, Cx H0 A l M sE L (updM m y (.ref D)) ((D, lstO acc c) :: led) s' → P D n acc s5 → Kept [] s5 s' → Nw H0 sE D → Q .next s')) E s₁) E sB)
    (hs : ∀ x, foldedSetIterable iter env x = pure x := by intro _; rfl) :
    wpAny (model prog w) A (exec (.Assign [.Name y py] (.ListComp elt [⟨target, iter, ifs, 0⟩] scope pos) spos) env) Q E sB := by
  rw [exec_Assign_Name_used _ _ _ _ hsw]
  refine wpAny_bind (wpAny_standAt (wpAny_bind ?_))
  show wpAny _ A (do let _ ← comprehension (.ListComp elt [⟨target, iter, ifs, 0⟩] scope pos) scope env _ (PySem.newList []) false (eval iter env) (some (assign (.Name y py) env))) _ _ sB
  refine wpAny_bind (wpAny_mono (wpAny_comprehension_free (use := some (assign (.Name y py) env)) (Q := fun _ s' => Q .next s') rfl hs hclos hkind hnames (wpAny_mono h (fun xv s₁ h₁ => wpAny_mono h₁ (fun it s₂ h₂ => ?_) fun _ _ e => e) fun _ _ e => e)) (fun _ s' hq => wpAny_pure (wpAny_pure hq)) fun _ _ e => e)
  obtain ⟨W, S, n, Sst, Bd, g02, hn, hS0, h0, hW, hSW, hPk, hit, hF, turn, k⟩ := h₂
  refine wpAny_newObj_type (wpAny_newFunctionEnv hcell (by intro y hy; simp at hy) (fun h₁ hns₁ hsb₁ => ?_) hkind) (by show 0 ≤ _; exact Nat.zero_le _)
  dsimp only at hns₁ hsb₁ ⊢
  have C2 := CB.call g02
  have C2p := C2.push (lstO []) rfl nd_seq rfl
  have g2 : Go H0 [] sB { s₂ with heap := s₂.heap.push (lstO []) } := g02.trans (Go.push (s := s₂) _)
  have C3 := C2p.inner (k := 0) g2 hns₁ hsb₁
  have nD2 : s₂.heap.get? s₂.heap.objs.size = none := not_at
  have fr : ∀ {p : Addr}, s₂.heap.get? p = none → sB.heap.get? p = none := fun {p} hp => by
    cases e : sB.heap.get? p with
    | none => rfl
    | some o => obtain ⟨o', h'⟩ := g02.there _ _ e; rw [hp] at h'; cases h'
  have nD := fr nD2
  have hD := CB.noE nD
  have nC2 : s₂.heap.get? (s₂.heap.push (lstO [])).objs.size = none := none_ge (by rw [Heap.size_push]; exact Nat.le_succ _)
  have nC := fr nC2
  have hCC := CB.noE nC
  have hDC : s₂.heap.objs.size ≠ (s₂.heap.push (lstO [])).objs.size := by rw [Heap.size_push]; exact Nat.ne_of_lt (Nat.lt_succ_self _)
  have hLC : (s₂.heap.push (lstO [])).objs.size ≠ L := fun q => by
    obtain ⟨o, es, ep', h1, _⟩ := CB.ns
    rw [← q, nC] at h1; cases h1
  have hold : ∀ b o, s₂.heap.get? b = some o → h₁.get? b = some o := fun b o e => hsb₁.extBut b o (fun q => by rw [q, nC2] at e; cases e) (Heap.get?_push_of_some _ (Heap.get?_push_of_some _ e))
  generalize hCe : (s₂.heap.push (lstO [])).objs.size = Cc at *
  generalize hDe : s₂.heap.objs.size = D at *
  have hDW : D ∉ W := fun q => by obtain ⟨o, e⟩ := hSW D (.inr q); rw [nD2] at e; cases e
  have hDS : D ∉ S := fun q => by obtain ⟨o, e⟩ := hSW D (.inl q); rw [nD2] at e; cases e
  have k1 : Kept [] s₂ { s₂ with heap := h₁, toks := s₂.toks + 0 } := ⟨fun b o e _ _ => hold b o e, Nat.le_refl _⟩
  have hledW : ∀ p ∈ led, p.1 ∉ W ∧ ∀ a ∈ W, p.2.dict ≠ some a := fun p hp => by
    refine ⟨fun q => ?_, fun a ha q => ?_⟩
    · have := (CB.has p hp).at_
      rw [hW _ q] at this; cases this
    · obtain ⟨o, e, _⟩ := (CB.has p hp).dx _ q
      rw [hW _ ha] at e; cases e
  have hS1 : Sst 0 { s₂ with heap := h₁, toks := s₂.toks + 0 } := (hF Cc nC2).keep _ _ _ hS0 fun b _ o e _ => hold b o e
  have loop : codeAny (model prog w) A (.compLoop (.ListComp elt [⟨target, iter, ifs, 0⟩] scope pos) 0 it (.ref D) (compEnvC scope cl Cc env))
      (compPost (model prog w) A E (some (assign (.Name y py) env)) (fun _ s' => Q .next s') (.ref D) Cc) { s₂ with heap := h₁, toks := s₂.toks + 0 } := by
    refine comp_all (hF Cc nC2) (P := P D) hledW hD.h nD hDW hDS hn (fun i acc s s' hp hk => hPk D i acc s s' hp hk) (turn D Cc nD hD.h) (fun mC acc c s' C4 hP => ?_) C3 hS1 (hPk _ _ _ _ _ (h0 D) (k1.mono fun p hp => nomatch hp))
    have C5 := CB.addNew C4.go (C4.ok 0 rfl) nD rfl
    show wpAny _ A (assign (.Name y py) env (.ref D)) _ _ _
    refine wpAny_assign_Name (C5.rebase.store hL (fun s'' C6 => ?_) hy hp)
    have C7 := C5.unbase C6
    refine ⟨mC, ?_, fun h' hs' => ?_⟩
    · obtain ⟨o, es, ep', h1, h2, r⟩ := C4.ns
      obtain ⟨sl, h3⟩ := C6.go.up Cc o es ep' ((wiped_of hLC).trans h1) h2
      exact ⟨_, es, ep', h3, h2, r⟩
    · refine k D acc c _ s' (C7.sameBut hs' hLC hCC.e hCC.h (fun e he q => ?_) fun p hp => ?_) hP ⟨fun b o e hnd _ => ?_, C6.go.toks⟩ hD
      · obtain ⟨_, L', o, es, n, h1, h2, h3, h4⟩ := CB.st.fr e he
        rw [h1] at q; cases q; rw [nC] at h3; cases h3
      · rcases List.mem_cons.mp hp with rfl | hp
        · exact ⟨hDC, fun q => by cases q⟩
        · refine ⟨fun q => (by have := (CB.has p hp).at_; rw [q, nC] at this; cases this), fun q => ?_⟩
          obtain ⟨o, h1, _⟩ := (CB.has p hp).dx _ q
          rw [nC] at h1; cases h1
      · have hbC : b ≠ Cc := fun q => by
          obtain ⟨o', es, ep', h1, h2, _⟩ := C4.ns
          rw [q, h1] at e; cases e
          exact hnd es ep' h2
        have hbL : b ≠ L := fun q => by
          obtain ⟨o', es, ep', h1, h2, _⟩ := C5.ns
          rw [q, h1] at e; cases e
          exact hnd es ep' h2
        exact (hs'.2 b hbC).trans (C6.go.nd b o ((wiped_of hbL).trans e) (fun h => nomatch h) hnd)
  exact codeAny_compStart_list loop (hit _ _ _ hS1 loop)
end
end Mine
end
section
set_option maxRecDepth 100000
set_option autoImplicit false
namespace Mine
open PySem PySem.W PySem.Calls PyProof.Rows PySem.Spec

structure ZS (z TI TO i1 i2 l1 l2 : Addr) (xs ys : List Value) (i : Nat) (h : Heap) : Prop where
  z : IsZip h z TI TO .none
  t : IsPair h TI (.ref i1) (.ref i2)
  o : ∃ a b, IsPair h TO a b
  j1 : h.IsListIter i1 l1 i
  j2 : h.IsListIter i2 l2 i
  m1 : h.IsList l1 xs.toArray
  m2 : h.IsList l2 ys.toArray
theorem iter_of_nd {h h' : Heap} {i l : Addr} {k : Nat} (x : h.IsListIter i l k) (hk : ∀ o, h.get? i = some o → nd o → h'.get? i = some o) : h'.IsListIter i l k := by
  obtain ⟨o, h1, h2, h3⟩ := x
  exact ⟨o, hk o h1 (fun es n q => by rw [h3] at q; cases q), h2, h3⟩
theorem list_of_nd {h h' : Heap} {l : Addr} {xs : Array Value} (x : h.IsList l xs) (hk : ∀ o, h.get? l = some o → nd o → h'.get? l = some o) : h'.IsList l xs := by
  obtain ⟨o, h1, h2, n, h3⟩ := x
  exact ⟨o, hk o h1 (fun es n q => by rw [h3] at q; cases q), h2, n, h3⟩
theorem ZS.keeps {z TI TO i1 i2 l1 l2 : Addr} {xs ys : List Value} {i : Nat} {h h' : Heap} (Z : ZS z TI TO i1 i2 l1 l2 xs ys i h) (hk : ∀ b o, b ∈ [z, TI, TO, i1, i2, l1, l2] → h.get? b = some o → nd o → h'.get? b = some o) : ZS z TI TO i1 i2 l1 l2 xs ys i h' := by
  obtain ⟨a, b, ho⟩ := Z.o
  exact ⟨hk _ _ (by simp) Z.z nd_fields, hk _ _ (by simp) Z.t nd_seq, ⟨a, b, hk _ _ (by simp) ho nd_seq⟩, iter_of_nd Z.j1 (fun o e n => hk _ o (by simp) e n), iter_of_nd Z.j2 (fun o e n => hk _ o (by simp) e n),
    list_of_nd Z.m1 (fun o e n => hk _ o (by simp) e n), list_of_nd Z.m2 (fun o e n => hk _ o (by simp) e n)⟩

section
variable {H0 : Heap} {A : Around} {l : List Env} {M : List Addr} {sE : Shared} {L : Addr} {m : Str → Option Value} {led : List (Addr × Obj)} {s : Shared} {prog : Program} {w : World} {E : Value → Shared → Prop} {env : Env}
theorem Cx.writes (C : Cx H0 A l M sE L m led s) {wr : List Addr} {h' : Heap} {tk : Nat} (hk : ∀ b o, b ∉ wr → s.heap.get? b = some o → h'.get? b = some o) (hL : L ∉ wr) (hE : ∀ b ∈ wr, sE.heap.get? b = none) (hH : ∀ b ∈ wr, H0.get? b = none)
    (hfr : ∀ e ∈ l, ∀ a ∈ wr, e.frame ≠ some a) (hled : ∀ p ∈ led, p.1 ∉ wr ∧ ∀ a ∈ wr, p.2.dict ≠ some a) (ht : s.toks ≤ tk) : Cx H0 A l M sE L m led { s with heap := h', toks := tk } := by
  have neE : ∀ {b o}, sE.heap.get? b = some o → b ∉ wr := fun {b o} e q => by rw [hE b q] at e; cases e
  have neH : ∀ {b o}, H0.get? b = some o → b ∉ wr := fun {b o} e q => by rw [hH b q] at e; cases e
  refine ⟨⟨fun b o e => hk b o (neH e) (C.st.glob b o e), C.st.frames, fun ev he => ?_, Nat.lt_of_lt_of_le C.st.toks ht⟩, ⟨fun hg b o e => hk b o (neH e) (C.go.glob hg b o e), fun b o e hm hn => hk b o (neE e) (C.go.nd b o e hm hn), fun b o es n e hd => ?_, fun b o e hn => ?_, Nat.le_trans C.go.toks ht, C.go.gens, C.go.os⟩, ?_, C.new, C.top, fun p hp => ⟨hk _ _ (hled p hp).1 (C.has p hp).at_, (C.has p hp).nd, fun dx e => ?_⟩, C.dn, C.nodup⟩
  · obtain ⟨hkk, L', o, es, n, h1, h2, h3, h4⟩ := C.st.fr ev he
    exact ⟨hkk, L', o, es, n, h1, h2, hk _ _ (fun q => hfr ev he _ q h1) h3, h4⟩
  · obtain ⟨sl, h1⟩ := C.go.up b o es n e hd
    exact ⟨sl, hk _ _ (neE e) h1⟩
  · obtain ⟨o', h1, h2⟩ := C.go.pres b o e hn
    exact ⟨o', hk _ _ (neE e) h1, h2⟩
  · obtain ⟨o, es, ep, h1, r⟩ := C.ns
    exact ⟨o, es, ep, hk _ _ hL h1, r⟩
  · obtain ⟨o, h1, h2⟩ := (C.has p hp).dx dx e
    exact ⟨o, hk _ _ (fun q => (hled p hp).2 _ q e) h1, h2⟩
end
end Mine
end
section
set_option maxRecDepth 100000
set_option autoImplicit false
set_option genInjectivity false
set_option genSizeOf false
namespace Mine
open PySem PySem.W PySem.Calls PyProof.Rows PySem.Spec
section
variable {H0 : Heap} {A : Around} {l : List Env} {M : List Addr} {sE : Shared} {L : Addr} {m : Str → Option Value} {led : List (Addr × Obj)} {s : Shared} {prog : Program} {w : World} {E : Value → Shared → Prop} {env : Env}
theorem Cx.unpackT {sB : Shared} {C : Addr} {mC : Str → Option Value} (C1 : Cx H0 A l [] sB C mC led s) {x y : Str} {p1 p2 pos : Pos} {k : Nat} {t : Addr} {u v : Value} {Q : Unit → Shared → Prop} (ht : s.heap.get? t = some (tupO [u, v])) (hh : A.handled = none) (hxy : x ≠ y)
    (h : ∀ mC' s', Cx H0 A l [] sB C mC' led s' → mC' x = some u → mC' y = some v → Kept [] s s' → Q () s') (hL : env.locals = C)
    (hx : env.kindOf x = some .local) (hy : env.kindOf y = some .local) (hp : (env.scope.kind == .class || (env.scope.kind == .module && env.locals != env.globals)) = false) :
    wpAny (model prog w) A (assign (.Tuple [.Name x p1, .Name y p2] k pos) env (.ref t)) Q E s := by
  have htC : t ≠ C := fun q => by
    obtain ⟨o, es, ep, h1, h2, _⟩ := C1.ns
    rw [← q, ht] at h1; cases h1; cases h2
  have CR := C1.rebase
  refine assign_Tuple_tuple hh ⟨_, ht, rfl, 0, rfl⟩ rfl rfl fun h' he => ?_
  have C2 := CR.ext (s' := { s with heap := h' }) (fun b o e => he b o (fun q => by rw [q, not_at] at e; cases e) e) (Nat.le_refl _) rfl rfl
  show wpAny _ _ (assignInOrder [assign (.Name x p1) env, assign (.Name y p2) env] [u, v]) _ _ _
  refine wpAny_assignInOrder_more (PySem.wpAny_assign_Name (C2.store hL (fun s1 C3 => ?_) hx hp))
  refine wpAny_assignInOrder_more (PySem.wpAny_assign_Name (C3.store hL (fun s2 C4 => ?_) hy hp))
  refine wpAny_assignInOrder_none (h _ _ (C1.unbase C4) ?_ (if_pos rfl) ⟨fun b o e hnd _ => ?_, C4.go.toks⟩)
  · show (if x = y then _ else if x = x then _ else _) = _
    rw [if_neg hxy, if_pos rfl]
  · have hbC : b ≠ C := fun q => by
      obtain ⟨o', es, ep, h1, h2, _⟩ := C1.ns
      rw [q, h1] at e; cases e; exact hnd es ep h2
    exact C4.go.nd b o ((wiped_of hbC).trans e) (fun h => nomatch h) hnd

noncomputable abbrev bdPair (x y : Str) (us vs : List Value) (i : Nat) (mC : Str → Option Value) : Prop := ∃ u v, us[i]? = some u ∧ vs[i]? = some v ∧ mC x = some u ∧ mC y = some v
noncomputable abbrev ctxOk (cenv : Env) (C : Addr) (x y : Str) : Prop := cenv.locals = C ∧ cenv.kindOf x = some .local ∧ cenv.kindOf y = some .local ∧ (cenv.scope.kind == .class || (cenv.scope.kind == .module && cenv.locals != cenv.globals)) = false

theorem feedPairs {sB : Shared} {C I a : Addr} {rs : List Addr} {us vs : List Value} {ep : Nat} {x y : Str} {p1 p2 pos : Pos} {k : Nat} {cenv : Env} (hh : A.handled = none) (hxy : x ≠ y) (hc : ctxOk cenv C x y) (hI0 : H0.get? I = none) (hI1 : sB.heap.get? I = none) (hIa : I ≠ a) (hIr : I ∉ rs) :
    Feed prog w H0 A l sB C (.ref I) (.Tuple [.Name x p1, .Name y p2] k pos) cenv [I] (I :: a :: rs) rs.length (fun i s => s.heap.get? I = some (itO a i) ∧ s.heap.get? a = some (lstO (refA rs) ep) ∧ RowsAt s.heap rs us vs) (bdPair x y us vs) where
  draw := fun i mC led s Q E hi ⟨hI, ha, R⟩ C1 hled kk => by
    obtain ⟨r, hr⟩ : ∃ r, rs[i]? = some r := ⟨_, List.getElem?_eq_getElem hi⟩
    obtain ⟨u, v, hu, hv, hrx⟩ := R.get hr
    have hra : (refA rs)[i]? = some (.ref r) := by unfold refA; rw [List.getElem?_map, hr]; rfl
    refine pyNext_item hI ha hra ?_
    have go1 : Go H0 [I] s { s with heap := s.heap.update I (Obj.mapFields (·.setIfInBounds 1 (rawInt ((i : Int) + 1)))) } := .upd _ hI nd_fields rfl nd_fields hI0
    have hI' := Heap.get?_update_self (Obj.mapFields (·.setIfInBounds 1 (rawInt ((i : Int) + 1)))) hI rfl
    have C2 : Cx H0 A l [] sB C mC led { s with heap := s.heap.update I (Obj.mapFields (·.setIfInBounds 1 (rawInt ((i : Int) + 1)))) } := C1.turn go1 (fun p hp => .inr (by rw [List.mem_singleton.mp hp]; exact hI1)) led rfl fun p hp => .inl ⟨hp, (hled p hp).1⟩
    have hrI : r ≠ I := fun q => hIr (q ▸ List.mem_of_getElem? hr)
    have hr2 : (s.heap.update I (Obj.mapFields (·.setIfInBounds 1 (rawInt ((i : Int) + 1))))).get? r = some (tupO [u, v]) := (Heap.get?_update_other _ _ (Ne.symm hrI)).trans hrx
    refine wpAny_letOwnedTupleGo_listiter ⟨_, hI', rfl, rfl⟩ ?_
    refine C2.unpackT hr2 hh hxy (fun mC' s' C3 h1 h2 K3 => kk mC' s' C3 ⟨?_, ?_, ⟨R.lp, R.lx, fun j r' p' x' a1 a2 a3 => ?_⟩⟩ ⟨u, v, hu, hv, h1, h2⟩ (go1.kept.trans (K3.mono fun p hp => nomatch hp))) hc.1 hc.2.1 hc.2.2.1 hc.2.2.2
    · exact K3.nd _ _ hI' nd_fields (fun h => nomatch h)
    · exact K3.nd _ _ ((Heap.get?_update_other _ _ hIa).trans ha) nd_seq (fun h => nomatch h)
    · have hr' : I ≠ r' := fun q => hIr (by rw [q]; exact List.mem_of_getElem? a1)
      exact K3.nd _ _ ((Heap.get?_update_other _ _ hr').trans (R.at_ j r' p' x' a1 a2 a3)) nd_seq (fun h => nomatch h)
  fin := fun mC led s Q E ⟨hI, ha, R⟩ C1 hled kk => by
    refine pyNext_end hh hI ha (List.getElem?_eq_none (by simp [refA])) fun h' e hm => ?_
    have go1 : Go H0 [I] s { s with heap := s.heap.update I (Obj.mapFields (·.setIfInBounds 0 .none)) } := .upd _ hI nd_fields rfl nd_fields hI0
    have go2 : Go H0 [I] s { s with heap := h' } := go1.trans (made_go (s := { s with heap := s.heap.update I (Obj.mapFields (·.setIfInBounds 0 .none)) }) hm)
    exact kk _ (C1.turn go2 (fun p hp => .inr (by rw [List.mem_singleton.mp hp]; exact hI1)) led rfl fun p hp => .inl ⟨hp, (hled p hp).1⟩) go2.kept
  thereW := fun i s ⟨hI, _, _⟩ p hp => by rw [List.mem_singleton.mp hp]; exact ⟨_, hI⟩
  keep := fun i s s' ⟨hI, ha, R⟩ hk => ⟨hk _ (by simp) _ hI nd_fields, hk _ (by simp) _ ha nd_seq, R.lp, R.lx, fun j r' p' x' a1 a2 a3 => hk _ (by simp [List.mem_of_getElem? a1]) _ (R.at_ j r' p' x' a1 a2 a3) nd_seq⟩

theorem feedEnum {sB : Shared} {C e it a : Addr} {xs : List Value} {ep : Nat} {x y : Str} {p1 p2 pos : Pos} {k : Nat} {cenv : Env} (hh : A.handled = none) (hxy : x ≠ y) (hc : ctxOk cenv C x y) (he0 : H0.get? e = none) (he1 : sB.heap.get? e = none) (hi0 : H0.get? it = none) (hi1 : sB.heap.get? it = none) (hne : e ≠ it) (hea : a ≠ e) (hia : a ≠ it)
    (hfr : ∀ env ∈ l, ∀ p ∈ [e, it], env.frame ≠ some p) (hC : C ∉ [e, it]) :
    Feed prog w H0 A l sB C (.ref e) (.Tuple [.Name x p1, .Name y p2] k pos) cenv [e, it] [e, it, a] xs.length (fun i s => (∃ old, IsEnum s.heap e it i old) ∧ s.heap.IsListIter it a i ∧ s.heap.get? a = some (lstO xs ep)) (fun i mC => ∃ t v, xs[i]? = some v ∧ mC x = some (.int i t) ∧ mC y = some v) where
  draw := fun i mC led s Q E hi ⟨⟨old, he⟩, hit, ha⟩ C1 hled kk => by
    obtain ⟨v, hv⟩ : ∃ v, xs[i]? = some v := ⟨_, List.getElem?_eq_getElem hi⟩
    refine wpAny_pyNext_enum_item he hit (isl ha) (x := v) (by simpa using hv) hne fun h' b1 b2 b3 b4 hk => ?_
    have C2 : Cx H0 A l [] sB C mC led { s with heap := h', toks := s.toks + 1 } := C1.writes (wr := [e, it]) (h' := h') (tk := s.toks + 1) (fun b o hb e2 => hk b o (fun q => hb (by simp [q])) (fun q => hb (by simp [q])) e2) hC (fun b hb => by simp at hb; rcases hb with rfl | rfl; exact he1; exact hi1) (fun b hb => by simp at hb; rcases hb with rfl | rfl; exact he0; exact hi0) hfr hled (Nat.le_succ _)
    have hTe : e ≠ s.heap.objs.size := Nat.ne_of_lt (Heap.lt_size he)
    refine wpAny_letOwnedTupleGo_enum (s := { s with heap := h', toks := s.toks + 1 }) b1 fun h2 c1 c2 => ?_
    have C3 : Cx H0 A l [] sB C mC led { s with heap := h2, toks := s.toks + 1 } := C2.writes (s := { s with heap := h', toks := s.toks + 1 }) (wr := [e]) (h' := h2) (tk := s.toks + 1) (fun b o hb e2 => (c2.2 b (fun q => hb (by simp [q]))).trans e2) (fun q => hC (by simp at q; simp [q])) (fun b hb => by simp at hb; subst hb; exact he1) (fun b hb => by simp at hb; subst hb; exact he0) (fun ev hev p hp => hfr ev hev p (by simp at hp; simp [hp]))
      (fun p hp => ⟨fun q => (hled p hp).1 (by simp at q; simp [q]), fun a ha => (hled p hp).2 a (by simp at ha; simp [ha])⟩) (Nat.le_refl _)
    have hT : h2.get? s.heap.objs.size = some (tupO [.int i s.toks, v]) := (c2.2 _ (Ne.symm hTe)).trans b3
    have keep : ∀ {b o}, b ≠ e → b ≠ it → s.heap.get? b = some o → h2.get? b = some o := fun q1 q2 e2 => (c2.2 _ q1).trans (hk _ _ q1 q2 e2)
    have it2 : h2.IsListIter it a (i + 1) := iter_of_nd b2 fun o e2 _ => (c2.2 _ (Ne.symm hne)).trans e2
    have K2 : Kept [e, it] s { s with heap := h2, toks := s.toks + 1 } := ⟨fun b o e2 _ hb => keep (fun q => hb (by simp [q])) (fun q => hb (by simp [q])) e2, Nat.le_succ _⟩
    refine C3.unpackT (s := { s with heap := h2, toks := s.toks + 1 }) hT hh hxy (fun mC' s' C4 h1 h2' K3 => kk mC' s' C4 ⟨⟨_, K3.nd _ _ c1 nd_fields (fun h => nomatch h)⟩, ?_, ?_⟩ ⟨s.toks, v, hv, h1, h2'⟩ (K2.trans (K3.mono fun p hp => nomatch hp))) hc.1 hc.2.1 hc.2.2.1 hc.2.2.2
    · exact iter_of_nd it2 fun o e2 hn => K3.nd _ _ e2 hn (fun h => nomatch h)
    · exact K3.nd _ _ (keep hea hia ha) nd_seq (fun h => nomatch h)
  fin := fun mC led s Q E ⟨⟨old, he⟩, hit, ha⟩ C1 hled kk => by
    refine wpAny_pyNext_enum_end hh he hit (isl ha) (by simp) fun h' hx => ?_
    have C2 : Cx H0 A l [] sB C mC led { s with heap := h', toks := s.toks } := C1.writes (wr := [it]) (h' := h') (tk := s.toks) (fun b o hb e2 => hx b o (fun q => hb (by simp [q])) e2) (fun q => hC (by simp at q; simp [q])) (fun b hb => by simp at hb; subst hb; exact hi1) (fun b hb => by simp at hb; subst hb; exact hi0) (fun ev hev p hp => hfr ev hev p (by simp at hp; simp [hp]))
      (fun p hp => ⟨fun q => (hled p hp).1 (by simp at q; simp [q]), fun a ha => (hled p hp).2 a (by simp at ha; simp [ha])⟩) (Nat.le_refl _)
    exact kk _ C2 ⟨fun b o e2 _ hb => hx b o (fun q => hb (by simp [q])) e2, Nat.le_refl _⟩
  thereW := fun i s ⟨⟨old, he⟩, hit, _⟩ p hp => by
    simp only [List.mem_cons, List.not_mem_nil, or_false] at hp
    obtain ⟨o, h1, _⟩ := hit
    rcases hp with rfl | rfl
    · exact ⟨_, he⟩
    · exact ⟨o, h1⟩
  keep := fun i s s' ⟨⟨old, he⟩, hit, ha⟩ hk => ⟨⟨old, hk _ (by simp) _ he nd_fields⟩, iter_of_nd hit fun o e2 hn => hk _ (by simp) _ e2 hn, hk _ (by simp) _ ha nd_seq⟩

theorem feedZip {sB : Shared} {C z TI TO i1 i2 l1 l2 : Addr} {us vs : List Value} {x y : Str} {p1 p2 pos : Pos} {k : Nat} {cenv : Env} (hh : A.handled = none) (hxy : x ≠ y) (hc : ctxOk cenv C x y) (ap : ZipApart z TI TO i1 i2 l1 l2) (hlen : us.length = vs.length)
    (hE : ∀ b ∈ [z, TO, i1, i2], sB.heap.get? b = none) (hH : ∀ b ∈ [z, TO, i1, i2], H0.get? b = none) (hfr : ∀ e ∈ l, ∀ a ∈ [z, TO, i1, i2], e.frame ≠ some a) (hC : C ∉ [z, TI, TO, i1, i2, l1, l2]) :
    Feed prog w H0 A l sB C (.ref z) (.Tuple [.Name x p1, .Name y p2] k pos) cenv [z, TO, i1, i2] [z, TI, TO, i1, i2, l1, l2] us.length (fun i s => ZS z TI TO i1 i2 l1 l2 us vs i s.heap) (bdPair x y us vs) where
  draw := fun i mC led s Q E hi Z1 C1 hled kk => by
    have sub4 : ∀ {b}, b ∈ [z, TO, i1, i2] → b ∈ [z, TI, TO, i1, i2, l1, l2] := fun {b} hb => by
      simp only [List.mem_cons, List.not_mem_nil, or_false] at hb ⊢
      rcases hb with h | h | h | h <;> simp [h]
    obtain ⟨za, zb, zo⟩ := Z1.o
    obtain ⟨u, hu⟩ : ∃ u, us[i]? = some u := ⟨_, List.getElem?_eq_getElem hi⟩
    obtain ⟨v, hv⟩ : ∃ v, vs[i]? = some v := ⟨_, List.getElem?_eq_getElem (by omega)⟩
    refine wpAny_pyNext_zip_item ap Z1.z Z1.t zo Z1.j1 Z1.j2 Z1.m1 Z1.m2 (x := u) (y := v) (by simpa using hu) (by simpa using hv) fun h' a1 a2 a3 a4 a5 a6 hk => ?_
    have C2 := C1.writes (wr := [z, TO, i1, i2]) (h' := h') (tk := s.toks) (fun b o hb e => hk b o (fun q => hb (by simp [q])) (fun q => hb (by simp [q])) (fun q => hb (by simp [q])) (fun q => hb (by simp [q])) e) (fun q => hC (sub4 q)) hE hH hfr hled (Nat.le_refl _)
    have lt : ∀ {c o}, s.heap.get? c = some o → s.heap.objs.size ≠ c := fun e => Nat.ne_of_gt (Heap.lt_size e)
    have hTz : z ≠ s.heap.objs.size := Ne.symm (lt Z1.z)
    refine wpAny_letOwnedTupleGo_zip (s := { s with heap := h' }) a1 fun h2 b1 b2 => ?_
    have C3 := C2.writes (wr := [z]) (h' := h2) (tk := s.toks) (fun b o hb e => (b2.2 b (fun q => hb (by simp [q]))).trans e) (fun q => hC (sub4 (by simp at q; simp [q]))) (fun b hb => hE b (by simp at hb; simp [hb])) (fun b hb => hH b (by simp at hb; simp [hb])) (fun e he a ha => hfr e he a (by simp at ha; simp [ha]))
      (fun p hp => ⟨fun q => (hled p hp).1 (by simp at q; simp [q]), fun a ha => (hled p hp).2 a (by simp at ha; simp [ha])⟩) (Nat.le_refl _)
    have hT3 : h2.get? s.heap.objs.size = some (tupO [u, v]) := (b2.2 _ (Ne.symm hTz)).trans a5
    have keep : ∀ {c o}, c ≠ z → c ≠ TO → c ≠ i1 → c ≠ i2 → s.heap.get? c = some o → h2.get? c = some o := fun q1 q2 q3 q4 e => (b2.2 _ q1).trans (hk _ _ q1 q2 q3 q4 e)
    have Z3 : ZS z TI TO i1 i2 l1 l2 us vs (i + 1) h2 := ⟨b1, keep ap.TIz ap.TITO ap.TIi1 ap.TIi2 Z1.t, ⟨_, _, (b2.2 _ ap.TOz).trans a2⟩, iter_of_nd a3 (fun o e _ => (b2.2 _ ap.i1z).trans e), iter_of_nd a4 (fun o e _ => (b2.2 _ ap.i2z).trans e),
      list_of_nd Z1.m1 (fun o e _ => keep ap.l1z ap.l1TO ap.l1i1 ap.l1i2 e), list_of_nd Z1.m2 (fun o e _ => keep ap.l2z ap.l2TO ap.l2i1 ap.l2i2 e)⟩
    have K2 : Kept [z, TO, i1, i2] s { s with heap := h2 } := ⟨fun b o e2 _ hb => keep (fun q => hb (by simp [q])) (fun q => hb (by simp [q])) (fun q => hb (by simp [q])) (fun q => hb (by simp [q])) e2, Nat.le_refl _⟩
    exact C3.unpackT (s := { s with heap := h2 }) hT3 hh hxy (fun mC' s' C4 h1 h2' K3 => kk mC' s' C4 (Z3.keeps fun b o hb e hn => K3.nd b o e hn (fun h => nomatch h)) ⟨u, v, hu, hv, h1, h2'⟩ (K2.trans (K3.mono fun p hp => nomatch hp))) hc.1 hc.2.1 hc.2.2.1 hc.2.2.2
  fin := fun mC led s Q E Z1 C1 hled kk => by
    have sub4 : ∀ {b}, b ∈ [z, TO, i1, i2] → b ∈ [z, TI, TO, i1, i2, l1, l2] := fun {b} hb => by
      simp only [List.mem_cons, List.not_mem_nil, or_false] at hb ⊢
      rcases hb with h | h | h | h <;> simp [h]
    obtain ⟨za, zb, zo⟩ := Z1.o
    refine wpAny_pyNext_zip_end hh ap Z1.z Z1.t zo Z1.j1 Z1.j2 Z1.m1 Z1.m2 (.inl (by simp)) fun h' hk => ?_
    have C2 := C1.writes (wr := [z, TO, i1, i2]) (h' := h') (tk := s.toks) (fun b o hb e => hk b o (fun q => hb (by simp [q])) (fun q => hb (by simp [q])) (fun q => hb (by simp [q])) (fun q => hb (by simp [q])) e) (fun q => hC (sub4 q)) hE hH hfr hled (Nat.le_refl _)
    exact kk _ C2 ⟨fun b o e _ hb => hk b o (fun q => hb (by simp [q])) (fun q => hb (by simp [q])) (fun q => hb (by simp [q])) (fun q => hb (by simp [q])) e, Nat.le_refl _⟩
  thereW := fun i s Z b hb => by
    obtain ⟨p, q, ho⟩ := Z.o
    obtain ⟨o1, h1, _⟩ := Z.j1
    obtain ⟨o2, h2, _⟩ := Z.j2
    simp only [List.mem_cons, List.not_mem_nil, or_false] at hb
    rcases hb with rfl | rfl | rfl | rfl
    · exact ⟨_, Z.z⟩
    · exact ⟨_, ho⟩
    · exact ⟨o1, h1⟩
    · exact ⟨o2, h2⟩
  keep := fun i s s' Z hk => Z.keeps fun b o hb e hn => hk b hb o e hn
end
end Mine
end
section
set_option maxRecDepth 100000
set_option autoImplicit false
set_option genInjectivity false
set_option genSizeOf false
namespace Mine
open PySem PySem.W PySem.Calls PyProof.Rows PySem.Spec

structure FnC (K : Frag) (f : Addr) (qual : Str) (d : Arguments × List Stmt × Scope) (c P : Addr) : Prop where
  ex : ∃ name doc pm an ct oc od osl, K.lookup f = some ⟨oc, od, .func (fnOf name qual d.1 d.2.1 d.2.2 .none .none doc pm an (.ref c) ct), osl⟩
  cd : codeIn K (.ref c) qual = true
  hd : ∀ h, K.In h → CodeHd h c P
section
variable {K : Frag} {H0 : Heap} {mg mb : Str → Option Value} {A : Around} {l : List Env} {s : Shared} {prog : Program} {w : World}
theorem enterCC {R : Result → Shared → Prop} {f : Addr} {qual : Str} {d : Arguments × List Stmt × Scope} {args : Args} (G : Gl K H0 mg mb) (S : St H0 A l s) {c : Addr} {P : Addr} (fk : FnC K f qual d c P) (M : List Addr)
    (hroom : A.depth < recursionLimit) (hnd : ∀ n, ((cellsFrom n d.2.2.names []).map (·.1)).Nodup)
    (hbind : ∀ name doc pm an ct E', wpAny (model prog w) A.in1 (bindArgs (fnOf name qual d.1 d.2.1 d.2.2 .none .none doc pm an (.ref c) ct) args) (fun binds s₁ => (∀ b o, s.heap.get? b = some o → s₁.heap.get? b = some o) ∧ s.toks ≤ s₁.toks ∧ s₁.gens = s.gens ∧ s₁.os = s.os ∧
      (∀ n, ∀ x ∈ binds, d.2.2.names.lookup x.1 = some .local ∨ (d.2.2.names.lookup x.1 = some .cell ∧ ((cellsFrom n d.2.2.names []).lookup x.1).isSome = true)) ∧ ∃ led, (∀ p ∈ led, Okk s₁.heap p) ∧ (led.map (·.1)).Nodup ∧
      ∀ L s', L = s₁.heap.objs.size → Cx H0 (A.deeper (envOfC qual d.2.2 L f (.ref c))) (envOfC qual d.2.2 L f (.ref c) :: l) M s L (bindL (envOfC qual d.2.2 L f (.ref c)).kindOf binds fun _ => none) (ledC (cellsFrom (L + 1) d.2.2.names []) (bindC (envOfC qual d.2.2 L f (.ref c)).kindOf binds fun _ => none) ++ led) s' →
      (∀ x ∈ cellsFrom (L + 1) d.2.2.names [], Nw H0 s x.2) →
      wpAny (model prog w) (A.deeper (envOfC qual d.2.2 L f (.ref c))) (execs d.2.1 (envOfC qual d.2.2 L f (.ref c))) (qRet R)
        (eOut prog w (A.deeper (envOfC qual d.2.2 L f (.ref c))) (envOfC qual d.2.2 L f (.ref c)) R) s') E' s)
    (hco : d.2.2.isCoroutine = false := by rfl) (hgen : d.2.2.isGenerator = false := by rfl) (hk : d.2.2.kind = .function := by rfl) :
    codeAny (model prog w) A (.call (.ref f) args) R s := by
  obtain ⟨name, doc, pm, an, ct, oc, od, osl, ho⟩ := fk.ex
  have hcd := fk.cd
  refine codeAny_call_function (fd := fnOf name qual d.1 d.2.1 d.2.2 .none .none doc pm an (.ref c) ct) hroom (S.X G _ _ ho) rfl hco hgen rfl (codeRec_of (S.X G) hcd) (wpAny_mono (hbind _ _ _ _ _ _) (fun binds s₁ ⟨k1, k2, k3, k4, hkind, led, hled, hnod, h⟩ => ?_) fun _ _ z => z)
  simp only [newFunctionEnv, Option.isSome_none, Bool.false_eq_true, if_false]
  refine wpAny_bind (wpAny_alloc ?_)
  refine wpAny_bind (wpAny_layCells _ (fun name kind cells => by cases hkc : kind == NameKind.cell <;> simp [hkc]) _ _ _ _ ?_)
  have hsz : (s₁.heap.push { cls := .type "frame", data := .dict #[] }).objs.size = s₁.heap.objs.size + 1 := Heap.size_push ..
  rw [show ({ s₁ with heap := s₁.heap.push { cls := .type "frame", data := .dict #[] } } : Shared).heap.objs.size = s₁.heap.objs.size + 1 from hsz]
  obtain ⟨cm1, cm2⟩ := cells_made d.2.2.names (s₁.heap.push { cls := .type "frame", data := .dict #[] }) (s₁.heap.objs.size + 1) [] (fun x hx => nomatch hx) List.nodup_nil (Nat.le_of_eq hsz.symm)
  rw [hsz] at cm1 cm2
  have keep : ∀ b o, s₁.heap.get? b = some o → (pushCells (s₁.heap.push { cls := .type "frame", data := .dict #[] }) d.2.2.names).get? b = some o := fun b o e => pushCells_keeps _ _ b o (Heap.get?_push_of_some _ e)
  have hs1 : ∀ {x : Addr}, s₁.heap.objs.size ≤ x → s₁.heap.get? x = none := fun {x} hx => by
    cases q : s₁.heap.get? x with
    | none => rfl
    | some o => exact absurd (Heap.lt_size q) (Nat.not_lt.mpr hx)
  have hs0 : ∀ {x : Addr}, s₁.heap.objs.size ≤ x → s.heap.get? x = none := fun {x} hx => by
    cases q : s.heap.get? x with
    | none => rfl
    | some o => have := k1 _ _ q; rw [hs1 hx] at this; cases this
  have hH0 : ∀ {x : Addr}, s₁.heap.objs.size ≤ x → H0.get? x = none := fun {x} hx => by
    cases q : H0.get? x with
    | none => rfl
    | some o => have := S.glob _ _ q; rw [hs0 hx] at this; cases this
  have hcl : ∀ x ∈ cellsFrom (s₁.heap.objs.size + 1) d.2.2.names [], s₁.heap.objs.size ≤ x.2 := fun x hx => Nat.le_of_succ_le (cm1 x hx).2
  generalize hhp : pushCells (s₁.heap.push { cls := .type "frame", data := .dict #[] }) d.2.2.names = hp at cm1 keep
  have gg : Go H0 [] s { s₁ with heap := hp } := Go.ext (s := s) (s' := { s₁ with heap := hp }) (fun b o e => keep _ _ (k1 _ _ e)) k2 k3 k4 _
  have C0 : Cx H0 A l M s s₁.heap.objs.size (fun _ => none) (ledC (cellsFrom (s₁.heap.objs.size + 1) d.2.2.names []) (fun _ => none) ++ led) { s₁ with heap := hp } := by
    refine ⟨S.go gg, gg.mono (fun p h => nomatch h), ?_, hs0 (Nat.le_refl _), hH0 (Nat.le_refl _), fun p hp' => ?_, fun p hp' => ?_, ?_⟩
    · rw [← hhp]; exact (Heap.Ns.new s₁.heap (.type "frame")).keeps (pushCells_keeps _ _)
    · rcases List.mem_append.mp hp' with h1 | h1
      · obtain ⟨x, hx, rfl⟩ := List.mem_map.mp h1
        exact .of (cm1 x hx).1 nd_cell rfl
      · have := hled p h1
        exact ⟨keep _ _ this.at_, this.nd, fun dx e => by obtain ⟨o, e1, e2⟩ := this.dx dx e; exact ⟨o, keep _ _ e1, e2⟩⟩
    · rcases List.mem_append.mp hp' with h1 | h1
      · obtain ⟨x, hx, rfl⟩ := List.mem_map.mp h1
        exact fun e => by cases e
      · intro e
        obtain ⟨o, e1, e2⟩ := (hled p h1).dx _ e
        rw [hs1 (Nat.le_refl _)] at e1; cases e1
    · rw [List.map_append]
      refine List.nodup_append.mpr ⟨?_, hnod, fun a ha b hb e => ?_⟩
      · have : (ledC (cellsFrom (s₁.heap.objs.size + 1) d.2.2.names []) fun _ => none).map (·.1) = (cellsFrom (s₁.heap.objs.size + 1) d.2.2.names []).map (·.2) := by unfold ledC; rw [List.map_map]; rfl
        rw [this]; exact cm2
      · obtain ⟨p, hp1, rfl⟩ := List.mem_map.mp ha
        obtain ⟨x, hx, rfl⟩ := List.mem_map.mp hp1
        obtain ⟨q, hq, e2⟩ := List.mem_map.mp hb
        have h1 := (hled q hq).at_
        have e3 : q.1 = x.2 := e2.trans e.symm
        rw [e3, hs1 (hcl x hx)] at h1; cases h1
  refine wpAny_bind (bind_cx (env := envOfC qual d.2.2 s₁.heap.objs.size f (.ref c)) _ (fun _ _ _ => rfl) hk rfl (hnd _) (fun x hx => ⟨hs0 (hcl x hx), hH0 (hcl x hx)⟩) binds (fun _ => none) (fun _ => none) _ _ (C0.around (A' := A.in1) rfl) (hkind _) fun s' C' => wpAny_pure ⟨C'.st.lim G, codeAny_func ?_⟩)
  refine h s₁.heap.objs.size s' rfl ?_ fun x hx => ⟨hs0 (hcl x hx), hH0 (hcl x hx)⟩
  refine { C' with st := ⟨C'.st.glob, ?_, fun env he => ?_, C'.st.toks⟩ }
  · show (Around.deeper A _).frames = _
    unfold Around.deeper; rw [S.frames]; rfl
  · rcases List.mem_cons.mp he with rfl | he
    · obtain ⟨oL, es, n, h1, h2⟩ := ns_dict C'.ns
      exact ⟨by show d.2.2.kind ≠ _; rw [hk]; decide, _, oL, es, n, rfl, hH0 (Nat.le_refl _), h1, h2⟩
    · exact C'.st.fr env he
end
end Mine
end
section
set_option maxRecDepth 100000
set_option autoImplicit false
set_option genInjectivity false
set_option genSizeOf false
namespace Mine
open PySem PySem.W PySem.Calls PyProof.Rows PySem.Spec

structure Ctx1 (K : Frag) (a : Adr) (H0 : Heap) (mg mb : Str → Option Value) (rf cR PR : Addr) : Prop where
  G : Gl K H0 mg mb
  B : Bm H0 mg
  FF : KF K a
  F : K1 K a
  FR : FnC K rf "_law_right" dRight cR PR
  hP : H0.get? PR = none
noncomputable def PartK (PR : Addr) (s : Shared) (ps : Array Value) : Prop := Okk s.heap (PR, tabObj ps) ∧ (ps = #[] ∨ ∃ kc, ps = #[rawInt 176, rawInt 4, .ref kc] ∧ s.heap.CodeRec (.ref kc) keyQ)
noncomputable abbrev rE (L rf cR : Addr) : Env := envOfC "_law_right" dRight.2.2 L rf (.ref cR)
noncomputable abbrev rM (rl : Addr) (T : Int) (tT : Tok) : Str → Option Value := updM (updM (fun _ => none) "rows" (.ref rl)) "twice" (.int T tT)
noncomputable abbrev rC (L al f : Addr) (kv : Option Value) (tv : Bool) : List (Addr × Obj) := [(L + 4, cellO (some (.ref al))), (L + 3, cellO kv), (L + 2, cellO (some (.bool tv))), (L + 1, cellO (some (.ref f)))]

section
variable {K : Frag} {a : Adr} {H0 : Heap} {mg mb : Str → Option Value} {rf cR PR : Addr} {A : Around} {l : List Env} {s : Shared} {prog : Program} {w : World} {E : Value → Shared → Prop} {κ : KeyOps} {Z : KeyZ κ} {g : Int → Int}

theorem key_pos : codeAmong ⟨176, 4, 178, 24⟩ [] = none := rfl
theorem key_hit (kc : Value) : codeAmong ⟨176, 4, 178, 24⟩ [rawInt 176, rawInt 4, kc] = some kc := by
  unfold codeAmong
  exact if_pos (by decide)
set_option maxHeartbeats 2000000 in
theorem right_head (X : Ctx1 K a H0 mg mb rf cR PR) (S : St H0 A l s) {f : Addr} {fo : Obj} {rl : Addr} {rs : List Addr} {ep : Nat} {T : Int} {tT : Tok} {tv : Bool} {ps : Array Value} (hf : Okk s.heap (f, fo)) (hrl : Okk s.heap (rl, lstO (refA rs) ep)) (PK : PartK PR s ps)
    (hne : f ≠ rl ∧ PR ≠ rl ∧ PR ≠ f) (hroom : A.depth < recursionLimit) {R : Result → Shared → Prop}
    (k : ∀ L al kf kc doc pm ct s1 ep1 ps1, Cx H0 (A.deeper (rE L rf cR)) (rE L rf cR :: l) [] (wiped s1 L) L (updM (rM rl T tT) "_law_key" (.ref kf)) ((kf, keyO (L + 4) (L + 1) doc pm kc ct) :: (al, lstO [] ep1) :: (rC L al f none tv ++ [(PR, tabObj ps1), (rl, lstO (refA rs) ep), (f, fo)])) s1 →
      Cx H0 (A.deeper (rE L rf cR)) (rE L rf cR :: l) [PR] s L (updM (rM rl T tT) "_law_key" (.ref kf)) ((kf, keyO (L + 4) (L + 1) doc pm kc ct) :: (al, lstO [] ep1) :: (rC L al f none tv ++ [(PR, tabObj ps1), (rl, lstO (refA rs) ep), (f, fo)])) s1 →
      (∀ p ∈ [L + 4, L + 3, L + 2, L + 1], Nw H0 s p) → Nw H0 s al → s1.heap.CodeRec (.ref kc) keyQ → (ps1 = #[] ∨ ps1 = #[rawInt 176, rawInt 4, .ref kc]) →
      wpAny (model prog w) (A.deeper (rE L rf cR)) (execs (dRight.2.1.drop 2) (rE L rf cR)) (qRet R) (eOut prog w (A.deeper (rE L rf cR)) (rE L rf cR) R) s1) :
    codeAny (model prog w) A (.call (.ref rf) ⟨[.ref rl, .ref f, .int T tT, .bool tv], []⟩) R s := by
  refine enterCC X.G S X.FR [PR] hroom (by intro n; show ([Str.ofString "asked", Str.ofString "key", Str.ofString "turned", Str.ofString "find"] : List Str).Nodup; decide) fun name doc pm an ct E' => wpAny_of_eq (a := [(Str.ofString "rows", .ref rl), (Str.ofString "find", .ref f), (Str.ofString "twice", .int T tT), (Str.ofString "turned", .bool tv)]) rfl ⟨fun _ _ h => h, Nat.le_refl _, rfl, rfl, fun n x hx => ?_, [(PR, tabObj ps), (rl, lstO (refA rs) ep), (f, fo)], fun p hp => ?_, by simp [hne.2.1, hne.2.2, Ne.symm hne.1], fun L s1 hL C hnw => ?_⟩
  · simp only [List.mem_cons, List.not_mem_nil, or_false] at hx
    rcases hx with rfl | rfl | rfl | rfl
    · exact .inl rfl
    · exact .inr ⟨rfl, rfl⟩
    · exact .inl rfl
    · exact .inr ⟨rfl, rfl⟩
  · simp only [List.mem_cons, List.not_mem_nil, or_false] at hp
    rcases hp with rfl | rfl | rfl
    · exact PK.1
    · exact hrl
    · exact hf
  have C0 : Cx H0 (A.deeper (rE L rf cR)) (rE L rf cR :: l) [PR] s L (rM rl T tT) [(L + 4, cellO none), (L + 3, cellO none), (L + 2, cellO (some (.bool tv))), (L + 1, cellO (some (.ref f))), (PR, tabObj ps), (rl, lstO (refA rs) ep), (f, fo)] s1 := C
  have nw : ∀ p ∈ [L + 4, L + 3, L + 2, L + 1], Nw H0 s p := fun p hp => by
    simp only [List.mem_cons, List.not_mem_nil, or_false] at hp
    rcases hp with rfl | rfl | rfl | rfl
    · exact hnw (Str.ofString "asked", L + 4) (.head _)
    · exact hnw (Str.ofString "key", L + 3) (.tail _ (.head _))
    · exact hnw (Str.ofString "turned", L + 2) (.tail _ (.tail _ (.head _)))
    · exact hnw (Str.ofString "find", L + 1) (.tail _ (.tail _ (.tail _ (.head _))))
  refine wpAny_execs_cons (wpAny_Assign_Name (lst_made (args_nil ⟨H0, _, _, _, s, L, _, _, C0, by rw [sizeLine_eq]; show 0 ≤ _; exact Nat.zero_le _, fun al s2 C2 nal nal' => ?_⟩)))
  refine C2.setCell 1 rfl rfl (.inr (nw _ (.head _)).e) (nw _ (.head _)).h fun s3 C3 => ?_
  have C3' : Cx H0 (A.deeper (rE L rf cR)) (rE L rf cR :: l) [PR] s L (rM rl T tT) ((al, lstO []) :: (rC L al f none tv ++ [(PR, tabObj ps), (rl, lstO (refA rs) ep), (f, fo)])) s3 := C3
  have hcl : closureFor dKey.2.2 (rE L rf cR) = pure (keyCl (L + 4) (L + 1)) := rfl
  have CH : CodeHd s3.heap cR PR := X.FR.hd _ (C3'.st.X X.G)
  refine wpAny_execs_cons (nestDef_K rfl rfl rfl ?_)
  rcases PK.2 with hps | ⟨kc, hps, hkc⟩
  · subst hps
    refine C3'.defNew X.G X.B 5 rfl (.inl (by simp)) X.hP hcl rfl rfl CH trivial key_pos fun kf kc doc' pm' ctv s4 C4 n1 n2 n3 hrec => ?_
    refine C4.rebase.setE fun s5 C5r => ?_
    have C5 := C4.unbase C5r
    have hrec5 : s5.heap.CodeRec (.ref kc) keyQ := by
      have hkL : ∀ c, Value.ref kc = .ref c → c ≠ L := fun c q => by
        cases q
        obtain ⟨o, es, ep', h1, h2, _⟩ := C4.ns
        exact code_ne hrec h1 fun vs q => by rw [h2] at q; cases q
      obtain ⟨c2, oc, vs, t, e2, h1, h2, h3⟩ := hrec
      exact ⟨c2, oc, vs, t, e2, C5r.go.nd _ _ ((wiped_of (hkL c2 e2)).trans h1) (fun h => nomatch h) (fun es n q => by rw [h2] at q; cases q), h2, h3⟩
    exact k L al kf kc doc' pm' ctv s5 0 _ C5.rebase C5 nw nal hrec5 (.inr rfl)
  · subst hps
    refine C3'.defHit X.G X.B 5 rfl X.hP hcl rfl rfl CH ?_ (key_hit _) fun kf doc' pm' ctv s4 C4 n1 n2 g4 => ?_
    · show TriplesOk [rawInt 176, rawInt 4, .ref kc]; trivial
    refine C4.setE fun s5 C5 => ?_
    have hkc5 : s5.heap.CodeRec (.ref kc) keyQ := codeRec_go hkc C5.go fun c q => by
      cases q
      simp only [List.mem_singleton]
      intro e
      obtain ⟨c2, oc, vs, t, e2, h1, h2, h3⟩ := hkc
      cases e2
      have h4 := PK.1.at_
      rw [← e] at h4
      rw [h1] at h4
      cases h4
      cases h2
      cases h3
    exact k L al kf kc doc' pm' ctv s5 0 _ C5.rebase C5 nw nal hkc5 (.inr rfl)
end
end Mine
end
section
set_option maxRecDepth 100000
set_option autoImplicit false
set_option genInjectivity false
set_option genSizeOf false
namespace Mine
open PySem PySem.W PySem.Calls PyProof.Rows PySem.Spec

section
variable {H0 : Heap} {A : Around} {l : List Env} {M M' : List Addr} {sE : Shared} {L : Addr} {m m' : Str → Option Value} {led led' : List (Addr × Obj)} {s s' : Shared}
theorem Cx.unbaseM (C : Cx H0 A l M sE L m led s) (C' : Cx H0 A l M' (wiped s L) L m' led' s') (hM : ∀ p ∈ M', p ∈ M ∨ sE.heap.get? p = none) : Cx H0 A l M sE L m' led' s' := by
  have ne : ∀ {b o}, sE.heap.get? b = some o → b ≠ L := fun e q => by rw [q, C.new] at e; cases e
  refine { C' with
    new := C.new
    go := ⟨fun _ => C'.st.glob, fun b o e hm hn => C'.go.nd b o ((wiped_of (ne e)).trans (C.go.nd b o e hm hn)) (fun h => (hM b h).elim hm fun q => by rw [e] at q; cases q) hn, fun b o es n e hd => ?_, fun b o e hn => ?_, Nat.le_trans C.go.toks C'.go.toks, fun h => C'.go.gens (C.go.gens h), C'.go.os.trans C.go.os⟩ }
  · obtain ⟨sl, h1⟩ := C.go.up b o es n e hd
    obtain ⟨sl', h2⟩ := C'.go.up b _ es n ((wiped_of (ne e)).trans h1) hd
    exact ⟨sl', h2⟩
  · obtain ⟨o', h1, h2⟩ := C.go.pres b o e hn
    exact C'.go.pres b o' ((wiped_of (ne e)).trans h1) h2
theorem code_wiped {L : Addr} {cd : Value} {q : Str} {s : Shared} (h : s.heap.CodeRec cd q) (hL : ∃ o es n, s.heap.get? L = some o ∧ o.data = .dict es n) : (wiped s L).heap.CodeRec cd q := by
  obtain ⟨c2, oc, vs, t, e2, h1, h2, h3⟩ := h
  have : c2 ≠ L := fun e => by
    obtain ⟨o, es, n, h4, h5⟩ := hL
    rw [e, h4] at h1; cases h1
    rw [h5] at h2; cases h2
  exact ⟨c2, oc, vs, t, e2, (wiped_of this).trans h1, h2, h3⟩
theorem Cx.dictL (C : Cx H0 A l M sE L m led s) : ∃ o es n, s.heap.get? L = some o ∧ o.data = .dict es n := by
  obtain ⟨o, es, n, h1, h2, _⟩ := C.ns
  exact ⟨o, es, n, h1, h2⟩
theorem Cx.code (C : Cx H0 A l M sE L m led s) {c : Addr} {q : Str} (h : sE.heap.CodeRec (.ref c) q) (hM : c ∉ M) : s.heap.CodeRec (.ref c) q := codeRec_go h C.go fun c' e => by cases e; exact hM
theorem RowsAt.cx (C : Cx H0 A l M sE L m led s) {rs : List Addr} {ps xs : List Value} (R : RowsAt sE.heap rs ps xs) (hM : ∀ p ∈ M, p ∉ rs) : RowsAt s.heap rs ps xs := R.go C.go hM
end

section
variable {K : Frag} {a : Adr} {H0 : Heap} {mg mb : Str → Option Value} {rf cR PR : Addr} {A : Around} {l : List Env} {prog : Program} {w : World} {κ : KeyOps} {Z : KeyZ κ} {g : Int → Int}
noncomputable abbrev rLed (L al f PR rl : Addr) (kv : Option Value) (tv : Bool) (ps1 : Array Value) (rs : List Addr) (ep : Nat) (fo : Obj) : List (Addr × Obj) := rC L al f kv tv ++ [(PR, tabObj ps1), (rl, lstO (refA rs) ep), (f, fo)]
set_option maxHeartbeats 4000000 in
theorem right_told (X : Ctx1 K a H0 mg mb rf cR PR) {f fc : Addr} {fo : Obj} {fq : Str} (FK : FindK prog w H0 Z g f fc fo fq) {rl al kf kc : Addr} {rs : List Addr} {ps xs : List Value} {ns : List Int} {ep ep1 : Nat} {T : Int} {tT : Tok} {tv : Bool} {ps1 : Array Value} {L : Addr} {doc pm ct : Value} {t0 : Nat} {s1 sW : Shared} {m : Str → Option Value}
    (C : Cx H0 (A.deeper (rE L rf cR)) (rE L rf cR :: l) [al, L + 3] sW L m ((kf, keyO (L + 4) (L + 1) doc pm kc ct) :: (al, lstO [] ep1) :: rLed L al f PR rl none tv ps1 rs ep fo) s1)
    (hmr : m "rows" = some (.ref rl)) (hmt : m "twice" = some (.int T tT)) (hmk : m "_law_key" = some (.ref kf)) (hal : H0.get? al = none) (hc : sW.heap.CodeRec (.ref kc) keyQ) (hfc : sW.heap.CodeRec (.ref fc) fq) (ra : RowsAt sW.heap rs ps xs) (iv : IV xs ns) (O : Olds xs t0) (ht0 : t0 ≤ s1.toks) (hn : rs.length ≤ 20) (hT : T.natAbs ≤ 2 ^ 40)
    (hMr : ∀ p ∈ [al, L + 3, kf, L + 4, L + 1, f, rl], p ∉ rs) (hkc : kc ∉ [al, L + 3, rl]) (hfcn : fc ∉ [al, L + 3, rl]) (hroom : A.depth + 8 < recursionLimit) (hh : A.handled = none)
    {Q : Flow → Shared → Prop} {E : Value → Shared → Prop}
    (k : ∀ res rvals c ep2 s2, RankedK Z tv (T - 2) (ns.map g) rvals s2.toks → Cx H0 (A.deeper (rE L rf cR)) (rE L rf cR :: l) [al, L + 3] sW L (updM m "told" (.ref res)) ((res, lstO rvals c) :: (al, lstO (refA rs) ep2) :: rLed L al f PR rl none tv ps1 rs ep fo) s2 →
      wpAny (model prog w) (A.deeper (rE L rf cR)) (execs (dRight.2.1.drop 3) (rE L rf cR)) Q E s2) :
    wpAny (model prog w) (A.deeper (rE L rf cR)) (execs (dRight.2.1.drop 2) (rE L rf cR)) Q E s1 := by
  refine wpAny_execs_cons (wpAny_Assign_Name (wpAny_Call_Name_kw (C.globalE X.G X.F.nrank (callWith_KW (C.st.X X.G) X.F.krank rfl (args_cons (Call_ (C.bootE X.G X.F.niter Boot.iter (PyProof.Rows.callWith_builtin1 (args_cons (C.nameE hmr (args_nil (call_iter (C.at 7 rfl) (args_nil ?_)))))))))))))
  have C2 := C.push (itO rl 0) rfl nd_fields rfl
  have nJ := C.noE not_at
  have nJ' : s1.heap.get? s1.heap.objs.size = none := not_at
  have g2 : Go H0 [] s1 { s1 with heap := s1.heap.push (itO rl 0) } := Go.push _
  generalize hJe : s1.heap.objs.size = J at *
  generalize hs2 : ({ s1 with heap := s1.heap.push (itO rl 0) } : Shared) = s2 at *
  refine kws_cons (C2.nameE hmk (kws_cons (C2.ldCell 5 rfl rfl (kws_cons (wpAny_BinOp (C2.nameE hmt (wpAny_Constant_int (div2 (by omega) (kws_nil ?_)))))))))
  have C3 := C2.tok 2
  refine ⟨C3.st.X X.G, wpAny_call ?_⟩
  have there : ∀ i p o, ((kf, keyO (L + 4) (L + 1) doc pm kc ct) :: (al, lstO [] ep1) :: rLed L al f PR rl none tv ps1 rs ep fo)[i]? = some (p, o) → p ≠ J := fun i p o h e => by
    have := C.at i h
    rw [e, nJ'] at this; cases this
  have code_there : ∀ {c : Addr} {q : Str}, s1.heap.CodeRec (.ref c) q → J ≠ c := fun {c q} h e => by
    obtain ⟨c2, oc, _, _, e2, h1, _⟩ := h
    cases e2
    rw [← e, nJ'] at h1; cases h1
  have up2 : ∀ {x : Addr}, x ∈ [al, L + 3] → x ∈ [al, L + 3, rl] := fun {x} h => by
    simp only [List.mem_cons, List.not_mem_nil, or_false] at h ⊢
    rcases h with h | h <;> simp [h]
  have hc1 := C.code hc (fun q => hkc (up2 q))
  have hfc1 := C.code hfc (fun q => hfcn (up2 q))
  have hc3 := C3.code hc (fun q => hkc (up2 q))
  have hfc3 := C3.code hfc (fun q => hfcn (up2 q))
  have nd3 := C3.nodup
  simp only [rLed, rC, List.map_cons, List.map_append, List.map_nil, List.cons_append, List.nil_append, List.nodup_cons, List.mem_cons, List.not_mem_nil, or_false, not_or, List.nodup_nil, and_true, not_false_eq_true] at nd3
  have ra3 : RowsAt (tk s2 2).heap rs ps xs := ra.cx C3 fun p hp => hMr p (by simp at hp; rcases hp with h | h <;> simp [h])
  have Lk3 : Lg (tk s2 2).heap (lkL kf (L + 4) (L + 1) al f (keyO (L + 4) (L + 1) doc pm kc ct) fo rs 0 ep1) := by
    refine ⟨fun p hp => C3.has p ?_, ?_⟩
    · simp only [lkL, List.mem_cons, List.not_mem_nil, or_false] at hp
      rcases hp with h | h | h | h | h <;> simp [rLed, rC, h, refA]
    · simp only [lkL, List.map_cons, List.map_nil, List.nodup_cons, List.mem_cons, List.not_mem_nil, or_false, not_or, List.nodup_nil, and_true, not_false_eq_true]
      grind
  have L0 : Lg (tk s2 2).heap [(J, itO rl 0), (rl, lstO (refA rs) ep)] := by
    refine ⟨fun p hp => C3.has p ?_, ?_⟩
    · simp only [List.mem_cons, List.not_mem_nil, or_false] at hp
      rcases hp with h | h <;> simp [rLed, rC, h]
    · simp only [List.map_cons, List.map_nil, List.nodup_cons, List.mem_cons, List.not_mem_nil, or_false, not_or, List.nodup_nil, and_true, not_false_eq_true]
      grind
  have hJown : J ∉ [kf, L + 4, L + 1, al, f, kc, fc] := by
    have h1 := code_there hc1
    have h2 := code_there hfc1
    simp only [List.mem_cons, List.not_mem_nil, or_false, not_or]
    grind
  have hJrs : J ∉ rs := fun hm => by
    obtain ⟨j, hj⟩ := List.mem_iff_getElem?.mp hm
    obtain ⟨_, _, _, _, h⟩ := (ra.cx C fun p hp => hMr p (by simp at hp; rcases hp with h | h <;> simp [h])).get hj
    rw [nJ'] at h; cases h
  have hrlown : rl ∉ [kf, L + 4, L + 1, al, f, kc, fc] := by
    simp only [List.mem_cons, List.not_mem_nil, or_false, not_or] at hkc hfcn ⊢
    grind
  have ht3 : t0 ≤ (tk s2 2).toks := Nat.le_trans ht0 (Nat.le_trans g2.toks (Nat.le_add_right _ _))
  refine rank_key (Z := Z) (z := T - 2) (mJ := [J]) (led0 := [(J, itO rl 0), (rl, lstO (refA rs) ep)]) X.G X.FF X.F C3.st (fun l' => keyLaw (l := l') X.G FK hal iv O (by omega) (hMr al (by simp))) O ht3 ⟨⟨⟨ep1, Lk3⟩, hc3, hfc3⟩, ht3⟩ ra3 L0
    (fun A' s4 Q' E' g4 kk => wpAny_pyIter_listiter ⟨_, ((L0.go g4).at 0 rfl), rfl, rfl⟩ (kk J s4 (Go.refl H0 [] s4) (L0.go g4) (.inr ⟨by simp, hJown, hJrs, nJ.h⟩))) ⟨hrlown, hMr rl (by simp)⟩ (fun p hp => hMr p (by simp at hp; simp [hp])) (by rw [List.length_map, ← iv.len]; exact ra.lx) (by omega) (.float _ (by rw [show T - 2 + 2 = T by omega])) (by omega) (by show A.depth + 1 + 7 < _; omega) hh ?_
  intro res rvals c s6 s7 hrk g7 okres nres ki7 hfr
  obtain ⟨ep2, Lk7⟩ := ki7.1.lg
  have hal7 := hfr _ (Lk7.ok 3 rfl) rfl
  rw [List.take_length] at hal7
  have C4 : Cx H0 (A.deeper (rE L rf cR)) (rE L rf cR :: l) [al, L + 3] sW L m ((al, lstO (refA rs) ep2) :: rLed L al f PR rl none tv ps1 rs ep fo) s7 := by
    refine C3.goN g7 (fun p hp => ?_) _ (fun p hp => ?_) (fun p hp => ?_) ?_
    · simp only [List.cons_append, List.nil_append, List.mem_cons, List.not_mem_nil, or_false] at hp
      rcases hp with rfl | rfl
      · exact .inr nJ.e
      · exact .inl (by simp)
    · rcases List.mem_cons.mp hp with rfl | hp
      · exact hal7.1
      · refine (C3.has p (List.mem_cons_of_mem _ (List.mem_cons_of_mem _ (List.mem_cons_of_mem _ hp)))).go g7 fun q => ?_
        have hm : p.1 ∈ (rLed L al f PR rl none tv ps1 rs ep fo).map (·.1) := List.mem_map_of_mem (f := (·.1)) hp
        simp only [rLed, rC, List.map_cons, List.map_append, List.map_nil, List.cons_append, List.nil_append, List.mem_cons, List.not_mem_nil, or_false] at hm q
        grind
    · rcases List.mem_cons.mp hp with rfl | hp
      · intro q; cases q
      · exact C3.dn p (List.mem_cons_of_mem _ (List.mem_cons_of_mem _ (List.mem_cons_of_mem _ hp)))
    · have := C3.nodup
      simp only [List.map_cons, List.nodup_cons] at this ⊢
      exact this.2.2
  have C5 := C4.add okres (fun p hp e => by
    rcases List.mem_cons.mp hp with rfl | hp
    · have := C3.at 2 rfl
      rw [show al = res from e, nres] at this; cases this
    · have := (C3.has p (List.mem_cons_of_mem _ (List.mem_cons_of_mem _ (List.mem_cons_of_mem _ hp)))).at_
      rw [e, nres] at this; cases this) (by intro q; cases q)
  exact C5.rebase.setE fun s8 C8 => k res rvals c ep2 s8 ⟨hrk.at_, hrk.tk.mono C8.go.toks⟩ (C5.unbase C8)
end
end Mine
end
section
set_option maxRecDepth 100000
set_option autoImplicit false
set_option genInjectivity false
set_option genSizeOf false
namespace Mine
open PySem PySem.W PySem.Calls PyProof.Rows PySem.Spec
section
variable {K : Frag} {a : Adr} {H0 : Heap} {mg mb : Str → Option Value} {rf cR PR : Addr} {A : Around} {l : List Env} {prog : Program} {w : World} {κ : KeyOps} {Z : KeyZ κ} {g : Int → Int}
set_option maxHeartbeats 2000000 in
theorem right_if (X : Ctx1 K a H0 mg mb rf cR PR) {f : Addr} {fo : Obj} {rl al res : Addr} {rs : List Addr} {ep ep2 c : Nat} {tv : Bool} {ps1 : Array Value} {L : Addr} {s1 sW : Shared} {m : Str → Option Value} {M : List Addr} {rvals : List Value}
    (C : Cx H0 (A.deeper (rE L rf cR)) (rE L rf cR :: l) M sW L m ((res, lstO rvals c) :: (al, lstO (refA rs) ep2) :: rLed L al f PR rl none tv ps1 rs ep fo) s1)
    (hmr : m "rows" = some (.ref rl)) (hmt : m "told" = some (.ref res)) (hlen : rvals.length = rs.length) (hn : rs.length ≤ 20) (hu : A.units + 10 < cLine)
    {Q : Flow → Shared → Prop} {E : Value → Shared → Prop}
    (k : ∀ s2, Cx H0 (A.deeper (rE L rf cR)) (rE L rf cR :: l) M sW L m ((res, lstO rvals c) :: (al, lstO (refA rs) ep2) :: rLed L al f PR rl none tv ps1 rs ep fo) s2 →
      wpAny (model prog w) (A.deeper (rE L rf cR)) (execs (dRight.2.1.drop 4) (rE L rf cR)) Q E s2) :
    wpAny (model prog w) (A.deeper (rE L rf cR)) (execs (dRight.2.1.drop 3) (rE L rf cR)) Q E s1 := by
  refine wpAny_execs_cons (wpAny_If (wpAny_isTrue_BoolOp (wpAny_allTrue_Or_cons (wpAny_isTrue_Compare1 (C.ldCell 2 rfl rfl (C.nameE hmr ?_))))))
  refine lists_ne (C.at 1 rfl) (C.at 7 rfl) rfl (by show A.units + 3 < _; omega) (fun j v u h1 h2 => ?_) (wpAny_truthy_bool ?_)
  · rw [h1] at h2; cases h2
    unfold refA at h1
    rw [List.getElem?_map] at h1
    obtain ⟨r, _, rfl⟩ := Option.map_eq_some_iff.mp h1
    exact eqAt_ref r
  refine ite_no' rfl ?_
  refine wpAny_allTrue_Or_cons (wpAny_isTrue_Compare1 ?_)
  refine Call_ (C.bootE X.G X.F.nlen Boot.«len» (PyProof.Rows.callWith_builtin1 (args_cons (C.nameE hmt (args_nil (PyProof.Rows.len_list (isl (C.at 0 rfl)) (by rw [List.size_toArray]; omega) ?_))))))
  have C1 := C.tok 2
  refine Call_ (C1.bootE X.G X.F.nlen Boot.«len» (PyProof.Rows.callWith_builtin1 (args_cons (C1.nameE hmr (args_nil (PyProof.Rows.len_list (isl (C1.at 7 rfl)) (by rw [List.size_toArray]; simp [refA]; omega) ?_))))))
  have C2 := C1.tok 2
  refine PySem.P.ne_int (wpAny_truthy_bool ?_)
  refine ite_no' (by simp [refA, hlen]) ?_
  refine wpAny_allTrue_Or_nil ?_
  exact ite_no' rfl (wpAny_execs_nil (k _ C2))
end
end Mine
end
section
set_option maxRecDepth 100000
set_option autoImplicit false
set_option genInjectivity false
set_option genSizeOf false
namespace Mine
open PySem PySem.W PySem.Calls PyProof.Rows PySem.Spec
theorem RowsAt.kept {W : List Addr} {s s' : Shared} {rs : List Addr} {ps xs : List Value} (R : RowsAt s.heap rs ps xs) (k : Kept W s s') (hW : ∀ r ∈ rs, r ∉ W) : RowsAt s'.heap rs ps xs :=
  ⟨R.lp, R.lx, fun j r p x h1 h2 h3 => k.nd _ _ (R.at_ j r p x h1 h2 h3) nd_seq (hW r (List.mem_of_getElem? h1))⟩
theorem RowsAt.nil {h : Heap} : RowsAt h [] [] [] := ⟨rfl, rfl, fun j r p x h => by simp at h⟩
theorem RowsAt.snoc {h : Heap} {rs : List Addr} {ps xs : List Value} (R : RowsAt h rs ps xs) {r : Addr} {p x : Value} (hr : h.get? r = some (tupO [p, x])) : RowsAt h (rs ++ [r]) (ps ++ [p]) (xs ++ [x]) := by
  refine ⟨by simp [R.lp], by simp [R.lx], fun j r' p' x' h1 h2 h3 => ?_⟩
  by_cases hj : j < rs.length
  · rw [List.getElem?_append_left hj] at h1
    rw [List.getElem?_append_left (by rw [R.lp]; exact hj)] at h2
    rw [List.getElem?_append_left (by rw [R.lx]; exact hj)] at h3
    exact R.at_ j r' p' x' h1 h2 h3
  · rw [List.getElem?_append_right (Nat.not_lt.mp hj)] at h1
    rw [List.getElem?_append_right (by rw [R.lp]; exact Nat.not_lt.mp hj), R.lp] at h2
    rw [List.getElem?_append_right (by rw [R.lx]; exact Nat.not_lt.mp hj), R.lx] at h3
    have e0 : j - rs.length = 0 := by have := (List.getElem?_eq_some_iff.mp h1).1; simp at this; omega
    rw [e0] at h1 h2 h3
    cases h1; cases h2; cases h3
    exact hr
structure BothP {κ : KeyOps} (Z : KeyZ κ) (xs : List Value) (as : List Int) (rvals : List Value) (t0 : Nat) (W : List Addr) (D : Addr) (i : Nat) (acc : List Value) (s : Shared) : Prop where
  ex : ∃ (bs : List Addr) (keys : List Value), acc = refA bs ∧ bs.length = i ∧ RowsAt s.heap bs keys (rvals.take i) ∧ KAcc Z xs as keys t0 s.toks ∧ ∀ b ∈ bs, b ∉ D :: W
  t0 : t0 ≤ s.toks
theorem zs_there {z TI TO i1 i2 l1 l2 : Addr} {xs ys : List Value} {i : Nat} {h : Heap} (Z : ZS z TI TO i1 i2 l1 l2 xs ys i h) : ∀ b ∈ [z, TI, TO, i1, i2, l1, l2], ∃ o, h.get? b = some o := by
  intro b hb
  obtain ⟨p, q, ho⟩ := Z.o
  obtain ⟨o1, h1, _⟩ := Z.j1
  obtain ⟨o2, h2, _⟩ := Z.j2
  obtain ⟨o3, h3, _⟩ := Z.m1
  obtain ⟨o4, h4, _⟩ := Z.m2
  simp only [List.mem_cons, List.not_mem_nil, or_false] at hb
  rcases hb with rfl | rfl | rfl | rfl | rfl | rfl | rfl
  · exact ⟨_, Z.z⟩
  · exact ⟨_, Z.t⟩
  · exact ⟨_, ho⟩
  · exact ⟨o1, h1⟩
  · exact ⟨o2, h2⟩
  · exact ⟨o3, h3⟩
  · exact ⟨o4, h4⟩
section
variable {K : Frag} {a : Adr} {H0 : Heap} {mg mb : Str → Option Value} {rf cR PR : Addr} {A : Around} {l : List Env} {prog : Program} {w : World} {κ : KeyOps} {Z : KeyZ κ} {g : Int → Int}
set_option maxHeartbeats 4000000 in
theorem right_both (X : Ctx1 K a H0 mg mb rf cR PR) {f fc : Addr} {fo : Obj} {fq : Str} (FK : FindK prog w H0 Z g f fc fo fq) {rl al res : Addr} {rs : List Addr} {ps xs : List Value} {ns : List Int} {ep ep2 c : Nat} {tv : Bool} {ps1 : Array Value} {L : Addr} {t0 : Nat} {s1 sW : Shared} {m : Str → Option Value} {M : List Addr} {rvals : List Value}
    (C : Cx H0 (A.deeper (rE L rf cR)) (rE L rf cR :: l) M sW L m ((res, lstO rvals c) :: (al, lstO (refA rs) ep2) :: rLed L al f PR rl none tv ps1 rs ep fo) s1)
    (hmr : m "rows" = some (.ref rl)) (hmt : m "told" = some (.ref res)) (hlen : rvals.length = rs.length) (hn : rs.length ≤ 20) (hfc : s1.heap.CodeRec (.ref fc) fq) (ra : RowsAt s1.heap rs ps xs) (iv : IV xs ns) (O : Olds xs t0) (ht0 : t0 ≤ s1.toks) (hroom : A.depth + 8 < recursionLimit) (hh : A.handled = none)
    {Q : Flow → Shared → Prop} {E : Value → Shared → Prop}
    (k : ∀ bl bs keys c2 s2, Cx H0 (A.deeper (rE L rf cR)) (rE L rf cR :: l) M sW L (updM m "both" (.ref bl)) ((bl, lstO (refA bs) c2) :: (res, lstO rvals c) :: (al, lstO (refA rs) ep2) :: rLed L al f PR rl none tv ps1 rs ep fo) s2 → RowsAt s2.heap bs keys rvals → KAcc Z xs (ns.map g) keys t0 s2.toks → bs.length = rs.length →
      wpAny (model prog w) (A.deeper (rE L rf cR)) (execs (dRight.2.1.drop 5) (rE L rf cR)) Q E s2) :
    wpAny (model prog w) (A.deeper (rE L rf cR)) (execs (dRight.2.1.drop 4) (rE L rf cR)) Q E s1 := by
  have n0 : ∀ {b : Addr}, s1.heap.objs.size ≤ b → s1.heap.get? b = none := fun hb => none_ge hb
  have l1lt : rl < s1.heap.objs.size := Heap.lt_size (C.at 7 rfl)
  have l2lt : res < s1.heap.objs.size := Heap.lt_size (C.at 0 rfl)
  have ap := zipApart_new l1lt l2lt
  have wr : ∀ b ∈ [s1.heap.objs.size + 4, s1.heap.objs.size + 3, s1.heap.objs.size, s1.heap.objs.size + 1], s1.heap.get? b = none := fun b hb => by
    simp only [List.mem_cons, List.not_mem_nil, or_false] at hb
    rcases hb with rfl | rfl | rfl | rfl
    · exact n0 (Nat.le_add_right _ 4)
    · exact n0 (Nat.le_add_right _ 3)
    · exact n0 (Nat.le_refl _)
    · exact n0 (Nat.le_add_right _ 1)
  have hlr : (refA rs).length = rs.length := by simp [refA]
  refine wpAny_execs_cons (C.compA (P := BothP Z xs (ns.map g) rvals t0 [s1.heap.objs.size + 4, s1.heap.objs.size + 3, s1.heap.objs.size, s1.heap.objs.size + 1]) (cl := [(Str.ofString "find", L + 1)]) rfl rfl (by decide) rfl (by decide) rfl rfl rfl ?_)
  refine Call_ (C.bootE X.G X.F.nzip Boot.«zip» (PyProof.Rows.callWith_type1 (args_cons (C.nameE hmr (args_cons (C.nameE hmt (args_nil ?_)))))))
  refine call_zip_2 (isl (C.at 7 rfl)) (isl (C.at 0 rfl)) fun h' a1 a2 a3 a4 a5 a6 hk' => ?_
  have Z1 : ZS (s1.heap.objs.size + 4) (s1.heap.objs.size + 2) (s1.heap.objs.size + 3) s1.heap.objs.size (s1.heap.objs.size + 1) rl res (refA rs) rvals 0 h' := ⟨a1, a2, ⟨_, _, a3⟩, a4, a5, isl (hk' _ _ (C.at 7 rfl)), isl (hk' _ _ (C.at 0 rfl))⟩
  refine wpAny_pyIter_zip (s := { s1 with heap := h' }) a1 ?_
  refine ⟨[s1.heap.objs.size + 4, s1.heap.objs.size + 3, s1.heap.objs.size, s1.heap.objs.size + 1], [s1.heap.objs.size + 4, s1.heap.objs.size + 2, s1.heap.objs.size + 3, s1.heap.objs.size, s1.heap.objs.size + 1, rl, res], (refA rs).length, (fun i s => ZS (s1.heap.objs.size + 4) (s1.heap.objs.size + 2) (s1.heap.objs.size + 3) s1.heap.objs.size (s1.heap.objs.size + 1) rl res (refA rs) rvals i s.heap), bdPair "row" "rank" (refA rs) rvals,
    Go.ext (s' := { s1 with heap := h' }) hk' (Nat.le_refl _) rfl rfl _, by rw [hlr]; omega, Z1, fun D => ⟨⟨[], [], rfl, rfl, RowsAt.nil, .nil, fun b hb => nomatch hb⟩, ht0⟩, wr, fun p hp => ?_, fun D i acc s s' V kp => ?_, fun s Q' E' hz hq => wpAny_pyIter_zip hz.z hq, fun Cc nC => ?_, fun D Cc nD hD => ?_, fun D acc c3 s' s5 C' V k5 nD => ?_⟩
  · have hp' : p ∈ [s1.heap.objs.size + 4, s1.heap.objs.size + 2, s1.heap.objs.size + 3, s1.heap.objs.size, s1.heap.objs.size + 1, rl, res] := hp.elim id fun hp => by
      simp only [List.mem_cons, List.not_mem_nil, or_false] at hp ⊢
      rcases hp with h | h | h | h <;> simp [h]
    exact zs_there Z1 p hp'
  · obtain ⟨⟨bs, keys, e1, e2, e3, e4, e5⟩, h0⟩ := V
    exact ⟨⟨bs, keys, e1, e2, e3.kept kp e5, e4.mono kp.toks, e5⟩, Nat.le_trans h0 kp.toks⟩
  · refine feedZip hh (by decide) ⟨rfl, rfl, rfl, rfl⟩ ap (by rw [hlr, hlen]) wr (fun b hb => (C.noE (wr b hb)).h) (fun e he p hp q => ?_) fun q => ?_
    · obtain ⟨_, L', o, es, n, h1, h2, h3, h4⟩ := C.st.fr e he
      rw [h1] at q; cases q; rw [wr _ hp] at h3; cases h3
    · obtain ⟨o, e⟩ := zs_there Z1 Cc q
      rw [nC] at e; cases e
  · intro i acc c3 mC s E3 hi V hB hW CT
    obtain ⟨⟨bs, keys, rfl, e2, e3, e4, e5⟩, h0⟩ := V
    obtain ⟨u, v, hu, hv, hmu, hmv⟩ := hB
    obtain ⟨r, hr, rfl⟩ : ∃ r, rs[i]? = some r ∧ Value.ref r = u := by
      unfold refA at hu
      rw [List.getElem?_map] at hu
      obtain ⟨r, h1, h2⟩ := Option.map_eq_some_iff.mp hu
      exact ⟨r, h1, h2⟩
    have hkl : keys.length = i := by rw [e3.lp, e2]
    obtain ⟨p, x, hp, hx, hrx⟩ := ra.get hr
    obtain ⟨n, hnn⟩ : ∃ n, ns[i]? = some n := ⟨_, List.getElem?_eq_getElem (by rw [← iv.len, ra.lx]; exact (List.getElem?_eq_some_iff.mp hr).1)⟩
    obtain ⟨t, ht⟩ := iv.at_ i n hnn
    rw [hx] at ht; cases ht
    have hot := O.lt _ (List.mem_of_getElem? hx)
    obtain ⟨oc, od, fd, sl, hfo⟩ := FK.fn
    rw [List.forIn_nil]
    refine wpAny_pure ?_
    refine ite_yes' rfl ?_
    refine Tuple_ (args_cons (Call_ (CT.ldCell 6 rfl rfl (callWith_F ⟨oc, od, fd, sl, by rw [← hfo]; exact CT.at 9 rfl⟩ (args_cons (CT.nameE hmu (args_nil ⟨⟨oc, od, fd, sl, by rw [← hfo]; exact CT.at 9 rfl⟩, ?_⟩)))))))
    have hrx' : s.heap.get? r = some (tupO [p, .int n t]) := CT.go.nd _ _ hrx (fun h => nomatch h) nd_seq
    refine FK.call _ _ s r p n t _ _ CT.st hh (by show A.depth + 1 + 1 < _; omega) (CT.at 9 rfl) (codeRec_go hfc CT.go (fun c q h => nomatch h)) hrx' hot.1 (Nat.lt_of_lt_of_le hot.2 h0) fun key s3 g3 hkv hk0 hkl' hor => ?_
    have C3 := CT.call g3
    refine args_cons (C3.nameE hmv (args_nil ?_))
    refine PySem.wpAny_newTuple ?_ (by rw [sizeLine_eq]; show 2 ≤ _; decide)
    have g4 : Go H0 [] s3 { s3 with heap := s3.heap.push (tupO [key, v]) } := Go.push _
    have g34 := g3.trans g4
    have nb : s3.heap.get? s3.heap.objs.size = none := not_at
    have hb4 : (s3.heap.push (tupO [key, v])).get? s3.heap.objs.size = some (tupO [key, v]) := Heap.get?_push_size _ rfl
    refine ⟨g34, fun kD => ?_⟩
    have hbD : ∀ b' ∈ bs ++ [s3.heap.objs.size], b' ∉ D :: [s1.heap.objs.size + 4, s1.heap.objs.size + 3, s1.heap.objs.size, s1.heap.objs.size + 1] := fun b' hb' => by
      rcases List.mem_append.mp hb' with hb' | hb'
      · exact e5 b' hb'
      · rw [List.mem_singleton.mp hb']
        intro q
        rcases List.mem_cons.mp q with q | q
        · obtain ⟨o, h⟩ := g3.there _ _ (CT.at 0 rfl)
          rw [← q, nb] at h; cases h
        · obtain ⟨o, h⟩ := hW _ q
          obtain ⟨o', h'⟩ := g3.there _ _ h
          rw [nb] at h'; cases h'
    refine ⟨⟨bs ++ [s3.heap.objs.size], keys ++ [key], by simp [refA], by simp [e2], ?_, ?_, hbD⟩, Nat.le_trans h0 (Nat.le_trans g34.toks kD.toks)⟩
    · rw [take_succ' hv]
      exact (((e3.go g34 fun p hp => nomatch hp).snoc hb4).kept kD fun b' hb' q => hbD b' hb' (by rw [List.mem_singleton.mp q]; exact .head _))
    · exact e4.snoc O h0 (by rw [hkl]; exact hx) (by rw [hkl, List.getElem?_map, hnn]; rfl) hkv hk0 (Nat.lt_of_lt_of_le hkl' (Nat.le_trans g4.toks kD.toks)) (Nat.le_trans g34.toks kD.toks) hor
  · obtain ⟨⟨bs, keys, rfl, e2, e3, e4, e5⟩, h0⟩ := V
    rw [hlr] at e2 e3
    rw [show rvals.take rs.length = rvals by rw [← hlen, List.take_length]] at e3
    exact k D bs keys c3 s' C' (e3.kept k5 fun r _ h => nomatch h) (e4.mono k5.toks) e2
end
end Mine
end
section
set_option maxRecDepth 100000
set_option autoImplicit false
namespace Mine
open PySem PySem.W PySem.Calls PyProof.Rows PySem.Spec
noncomputable def pk (t : Int → Bool) (as : List Int) (vs : List Value) : List Value := ((as.zip vs).filter fun p => t p.1).map (·.2)
theorem pk_cons (t : Int → Bool) (a : Int) (v : Value) (as : List Int) (vs : List Value) : pk t (a :: as) (v :: vs) = if t a then v :: pk t as vs else pk t as vs := by
  unfold pk
  rw [List.zip_cons_cons, List.filter_cons]
  split <;> simp [*]
theorem pk_snoc (t : Int → Bool) {a : Int} {v : Value} : ∀ {as : List Int} {vs : List Value}, as.length = vs.length → pk t (as ++ [a]) (vs ++ [v]) = pk t as vs ++ (if t a then [v] else [])
  | [], [], _ => by show pk t [a] [v] = _; rw [pk_cons]; rfl
  | [], _ :: _, h => by simp at h
  | _ :: _, [], h => by simp at h
  | b :: as, u :: vs, h => by
    rw [List.cons_append, List.cons_append, pk_cons, pk_cons, pk_snoc t (by simpa using h)]
    split <;> simp
theorem pk_len (t : Int → Bool) : ∀ {as : List Int} {vs : List Value}, as.length = vs.length → (pk t as vs).length = (as.filter t).length
  | [], [], _ => rfl
  | [], _ :: _, h => by simp at h
  | _ :: _, [], h => by simp at h
  | b :: as, u :: vs, h => by
    rw [pk_cons, List.filter_cons]
    split <;> simp [pk_len t (as := as) (vs := vs) (by simpa using h)]
theorem pk_mem {t : Int → Bool} {v : Value} : ∀ {as : List Int} {vs : List Value}, v ∈ pk t as vs → ∃ (j : Nat) (a : Int), as[j]? = some a ∧ vs[j]? = some v ∧ t a = true := by
  intro as vs h
  unfold pk at h
  obtain ⟨p, hp, rfl⟩ := List.mem_map.mp h
  obtain ⟨h1, h2⟩ := List.mem_filter.mp hp
  obtain ⟨j, hj⟩ := List.mem_iff_getElem?.mp h1
  obtain ⟨h3, h4⟩ := List.getElem?_zip_eq_some.mp hj
  exact ⟨j, p.1, h3, h4, h2⟩
theorem HV.cons {v : Value} {vs : List Value} {z : Int} {zs : List Int} (h : HV (v :: vs) (z :: zs)) : (∃ t, v = .float (hf z) t) ∧ HV vs zs := by
  obtain ⟨t, ht⟩ := h.at_ 0 z rfl
  exact ⟨⟨t, by simpa using ht⟩, by simpa using h.len, fun i x hx => h.at_ (i + 1) x hx⟩
theorem HV.mk_cons {vs : List Value} {z : Int} {zs : List Int} (t : Tok) (h : HV vs zs) : HV (.float (hf z) t :: vs) (z :: zs) := by
  refine ⟨by simp [h.len], fun i x hx => ?_⟩
  cases i with
  | zero => cases hx; exact ⟨t, rfl⟩
  | succ i => exact h.at_ i x hx
theorem pk_hv (t : Int → Bool) (R : Int → Int) : ∀ {as : List Int} {vs : List Value}, HV vs (as.map R) → HV (pk t as vs) ((as.filter t).map R)
  | [], [], _ => HV.nil
  | [], _ :: _, h => by have := h.len; simp at this
  | _ :: _, [], h => by have := h.len; simp at this
  | b :: as, u :: vs, h => by
    rw [List.map_cons] at h
    obtain ⟨⟨k, rfl⟩, h'⟩ := h.cons
    have ih := pk_hv t R h'
    rw [pk_cons, List.filter_cons]
    split
    · rw [List.map_cons]; exact ih.mk_cons k
    · exact ih
theorem first_sum (tv : Bool) (T : Int) (as : List Int) (b : Int) : ((as.filter fun a => decide (dirZ tv a ≤ dirZ tv b)).map fun a => rkN T (as.map (dirZ tv)) (dirZ tv a)).sum = ((as.filter fun a => decide (dirZ tv a ≤ dirZ tv b)).length : Int) * (T + (as.filter fun a => decide (dirZ tv a ≤ dirZ tv b)).length - 1) := by
  have h := rkN_sum T (as.map (dirZ tv)) (dirZ tv b)
  have e : (as.map (dirZ tv)).filter (fun x => decide (x ≤ dirZ tv b)) = (as.filter fun a => decide (dirZ tv a ≤ dirZ tv b)).map (dirZ tv) := by rw [List.filter_map]; rfl
  rw [e, List.map_map, List.length_map] at h
  exact h
end Mine
end
section
set_option maxRecDepth 100000
set_option autoImplicit false
set_option genInjectivity false
set_option genSizeOf false
namespace Mine
open PySem PySem.W PySem.Calls PyProof.Rows PySem.Spec

structure CmpK {κ : KeyOps} (Z : KeyZ κ) : Prop where
  eq : ∀ (prog : Program) (w : World) (A : Around) (E : Value → Shared → Prop) (s : Shared) (x y : Value) (a b : Int) (Q : Value → Shared → Prop), Z.KV x a → Z.KV y b → Q (.bool (decide (a = b))) s → wpAny (model prog w) A (compareOp .Eq x y) Q E s
  le : ∀ (prog : Program) (w : World) (A : Around) (E : Value → Shared → Prop) (s : Shared) (x y : Value) (a b : Int) (Q : Value → Shared → Prop), Z.KV x a → Z.KV y b → Q (.bool (decide (a ≤ b))) s → wpAny (model prog w) A (compareOp .LtE x y) Q E s
  ge : ∀ (prog : Program) (w : World) (A : Around) (E : Value → Shared → Prop) (s : Shared) (x y : Value) (a b : Int) (Q : Value → Shared → Prop), Z.KV x a → Z.KV y b → Q (.bool (decide (b ≤ a))) s → wpAny (model prog w) A (compareOp .GtE x y) Q E s
theorem cmp_int : CmpK intZ where
  eq := by
    rintro prog w A E s _ _ a b Q ⟨t, rfl⟩ ⟨u, rfl⟩ h
    refine PyProof.Rows.eq_int ?_
    have : (a == b) = decide (a = b) := by by_cases q : a = b <;> simp [q]
    rw [this]; exact h
  le := by rintro prog w A E s _ _ a b Q ⟨t, rfl⟩ ⟨u, rfl⟩ h; exact PySem.P.le_int h
  ge := by rintro prog w A E s _ _ a b Q ⟨t, rfl⟩ ⟨u, rfl⟩ h; exact PySem.P.ge_int h
theorem sgn_lt (a b : Int) (ha : 0 ≤ a) (hb : 0 ≤ b) : ((sgnS a).cps.toList < (sgnS b).cps.toList) ↔ a < b := by
  show ([97 + a.toNat] < [97 + b.toNat]) ↔ _
  rw [List.cons_lt_cons_iff]
  constructor
  · rintro (h | ⟨_, h⟩)
    · omega
    · exact absurd h (List.lt_irrefl _)
  · intro h; left; omega
theorem cmp_str : CmpK strZ where
  eq := by
    rintro prog w A E s _ _ a b Q ⟨ha, t, rfl⟩ ⟨hb, u, rfl⟩ h
    refine strKey.cmpR _ _ _ _ _ _ _ _ ⟨_, _, rfl⟩ ⟨_, _, rfl⟩ ?_
    rw [strZ.eq ⟨ha, t, rfl⟩ ⟨hb, u, rfl⟩]; exact h
  le := by
    rintro prog w A E s _ _ a b Q ⟨ha, t, rfl⟩ ⟨hb, u, rfl⟩ h
    refine PySem.P.le_str ?_
    have e : (!decide ((sgnS b).cps.toList < (sgnS a).cps.toList)) = decide (a ≤ b) := by
      have e1 : decide ((sgnS b).cps.toList < (sgnS a).cps.toList) = decide (b < a) := decide_eq_decide.mpr (sgn_lt b a hb ha)
      rw [e1]
      by_cases q : b < a <;> simp [q] <;> omega
    rw [e]; exact h
  ge := by
    rintro prog w A E s _ _ a b Q ⟨ha, t, rfl⟩ ⟨hb, u, rfl⟩ h
    refine PySem.P.ge_str ?_
    have e : (!decide ((sgnS a).cps.toList < (sgnS b).cps.toList)) = decide (b ≤ a) := by
      have e1 : decide ((sgnS a).cps.toList < (sgnS b).cps.toList) = decide (a < b) := decide_eq_decide.mpr (sgn_lt a b ha hb)
      rw [e1]
      by_cases q : a < b <;> simp [q] <;> omega
    rw [e]; exact h
section
variable {H0 : Heap} {rf cR : Addr} {A : Around} {l : List Env} {prog : Program} {w : World} {κ : KeyOps} {Z : KeyZ κ}
set_option maxHeartbeats 4000000 in
theorem right_pick {bl : Addr} {bs : List Addr} {keys rvals : List Value} {as : List Int} {c2 j : Nat} {L : Addr} {s1 sW : Shared} {m : Str → Option Value} {M : List Addr} {led : List (Addr × Obj)}
    {y : Str} {py p1 p2 p3 p4 p5 pos spos : Pos} {kt : Nat} {test : Expr} {scope : Scope} {cl : List (Str × Addr)} {t : Int → Bool}
    (C : Cx H0 (A.deeper (rE L rf cR)) (rE L rf cR :: l) M sW L m led s1) (hj : led[j]? = some (bl, lstO (refA bs) c2)) (hmb : m "both" = some (.ref bl)) (rb : RowsAt s1.heap bs keys rvals) (hka : ∀ (i : Nat) (k : Value) (a : Int), keys[i]? = some k → as[i]? = some a → Z.KV k a) (hla : as.length = bs.length) (hn : bs.length ≤ 20) (hh : A.handled = none)
    (hsw : swapsWith (.ListComp (.Name "other" p1) [⟨.Tuple [.Name "one" p2, .Name "other" p3] kt p4, .Name "both" p5, [test], 0⟩] scope pos) (some (.Name y py)) spos.line (rE L rf cR) = pure true)
    (hclos : closureFor scope (rE L rf cR) = pure cl) (hcell : ∀ y ∈ scope.names, y.2 ≠ .cell) (hkind : scope.kind = .function) (hnames : ∀ y ∈ scope.names, y.2 = .local → scope.names.lookup y.1 = some .local) (hone : scope.names.lookup (Str.ofString "one") = some .local) (hoth : scope.names.lookup (Str.ofString "other") = some .local)
    (hy : (rE L rf cR).kindOf y = some .local)
    (htest : ∀ (D Cc : Addr) (mC : Str → Option Value) (acc : List Value) (c : Nat) (s : Shared) (E' : Value → Shared → Prop) (Q : Bool → Shared → Prop) (k : Value) (a : Int), Z.KV k a → mC "one" = some k → Cx H0 (A.deeper (rE L rf cR)) (rE L rf cR :: l) [] s1 Cc mC ((D, lstO acc c) :: led) s → Q (t a) s →
      wpAny (model prog w) (A.deeper (rE L rf cR)) (isTrue test (compEnvC scope cl Cc (rE L rf cR)) (eval test (compEnvC scope cl Cc (rE L rf cR)))) Q E' s)
    {Q : Flow → Shared → Prop} {E : Value → Shared → Prop}
    (k : ∀ D c s2, Cx H0 (A.deeper (rE L rf cR)) (rE L rf cR :: l) M sW L (updM m y (.ref D)) ((D, lstO (pk t as rvals) c) :: led) s2 → Nw H0 sW D → s1.toks ≤ s2.toks → Q .next s2) :
    wpAny (model prog w) (A.deeper (rE L rf cR)) (exec (.Assign [.Name y py] (.ListComp (.Name "other" p1) [⟨.Tuple [.Name "one" p2, .Name "other" p3] kt p4, .Name "both" p5, [test], 0⟩] scope pos) spos) (rE L rf cR)) Q E s1 := by
  have hbl := C.at j hj
  have hI := C.noE not_at
  have hlb : bl < s1.heap.objs.size := Heap.lt_size hbl
  have hIbl : s1.heap.objs.size ≠ bl := Nat.ne_of_gt hlb
  have hIbs : s1.heap.objs.size ∉ bs := fun q => by
    obtain ⟨i, hi⟩ := List.mem_iff_getElem?.mp q
    obtain ⟨_, _, _, _, h⟩ := rb.get hi
    exact absurd (Heap.lt_size h) (Nat.lt_irrefl _)
  refine C.compA (P := fun D i acc s => acc = pk t (as.take i) (rvals.take i) ∧ s1.toks ≤ s.toks) (cl := cl) hsw hclos hcell hkind hnames rfl hy rfl ?_
  refine C.nameE hmb ?_
  refine wpAny_pyIter_list (isl hbl) ?_
  refine ⟨[s1.heap.objs.size], s1.heap.objs.size :: bl :: bs, bs.length, _, _, Go.push _, by omega, ⟨Heap.get?_push_size _ rfl, Heap.get?_push_of_some _ hbl, rb.go (M := []) (Go.push (H0 := H0) _) (fun p hp => nomatch hp)⟩, fun D => ⟨rfl, Nat.le_refl _⟩, fun p hp => by rw [List.mem_singleton.mp hp]; exact not_at, fun p hp => ?_, fun D i acc s s' V kp => ⟨V.1, Nat.le_trans V.2 kp.toks⟩, fun s Q' E' hz hq => wpAny_pyIter_listiter ⟨_, hz.1, rfl, rfl⟩ hq, fun Cc nC => feedPairs (us := keys) (vs := rvals) (ep := c2) hh (by decide) ⟨rfl, lookup_relabel_local hone, lookup_relabel_local hoth, by show (scope.kind == .class || (scope.kind == .module && _)) = false; rw [hkind]; rfl⟩ hI.h not_at hIbl hIbs, fun D Cc nD hD => ?_, fun D acc c3 s' s5 C' V k5 nD => ?_⟩
  · have : p ∈ s1.heap.objs.size :: bl :: bs := hp.elim id fun hp => by rw [List.mem_singleton.mp hp]; exact .head _
    rcases List.mem_cons.mp this with rfl | this
    · exact ⟨_, Heap.get?_push_size _ rfl⟩
    · rcases List.mem_cons.mp this with rfl | this
      · exact ⟨_, Heap.get?_push_of_some _ hbl⟩
      · obtain ⟨i, hi⟩ := List.mem_iff_getElem?.mp this
        obtain ⟨_, _, _, _, h⟩ := rb.get hi
        exact ⟨_, Heap.get?_push_of_some _ h⟩
  · intro i acc c3 mC s E3 hi V hB hW CT
    obtain ⟨u, v, hu, hv, hmu, hmv⟩ := hB
    obtain ⟨a, ha⟩ : ∃ a, as[i]? = some a := ⟨_, List.getElem?_eq_getElem (by omega)⟩
    have hkv := hka i u a hu ha
    have hpk : pk t (as.take (i + 1)) (rvals.take (i + 1)) = pk t (as.take i) (rvals.take i) ++ (if t a then [v] else []) := by
      rw [take_succ' ha, take_succ' hv]
      exact pk_snoc t (by rw [List.length_take, List.length_take, hla, rb.lx])
    refine wp_forIn_cons (ite_yes rfl (wpAny_bind (htest D Cc mC acc c3 s _ _ u a hkv hmu CT (wpAny_pure (wp_forIn_nil ?_)))))
    cases hta : t a with
    | true =>
      refine ite_yes' rfl (CT.nameE (v := v) hmv ⟨Go.refl H0 [] s, fun kD => ⟨?_, Nat.le_trans V.2 kD.toks⟩⟩ rfl hkind (lookup_relabel_local hoth))
      rw [hpk, V.1, hta, if_pos rfl]
    | false =>
      refine ite_no' rfl ⟨Go.refl H0 [] s, ?_, V.2⟩
      rw [hpk, V.1, hta, if_neg Bool.false_ne_true, List.append_nil]
  · obtain ⟨e, ht⟩ := V
    rw [show as.take bs.length = as by rw [← hla, List.take_length], show rvals.take bs.length = rvals by rw [← rb.lx, List.take_length]] at e
    subst e
    exact k D c3 s' C' nD (Nat.le_trans ht k5.toks)
end
end Mine
end
section
set_option maxRecDepth 100000
set_option autoImplicit false
set_option genInjectivity false
set_option genSizeOf false
namespace Mine
open PySem PySem.W PySem.Calls PyProof.Rows PySem.Spec
noncomputable def forB : Stmt → List Stmt
  | .For _ _ b _ _ => b
  | _ => []
noncomputable def rightB := forB (dRight.2.1.getD 5 (.Pass default))
theorem intBits_lt {x : Int} {k : Nat} (h : x.natAbs < 2 ^ k) : Builtin.Int.intBits x ≤ k := by
  unfold Builtin.Int.intBits
  split
  · exact Nat.zero_le _
  · rename_i h0
    have hx : x.natAbs ≠ 0 := fun e => h0 (by rw [Int.natAbs_eq_zero.mp e]; rfl)
    exact (Nat.log2_lt hx).mpr h
theorem rb_len {h : Heap} {rs : List Addr} {ps xs : List Value} (R : RowsAt h rs ps xs) : xs.length = rs.length := R.lx
section
variable {K : Frag} {a : Adr} {H0 : Heap} {mg mb : Str → Option Value} {rf cR PR : Addr} {A : Around} {l : List Env} {prog : Program} {w : World} {κ : KeyOps} {Z : KeyZ κ}
set_option maxHeartbeats 8000000 in
theorem right_turn (X : Ctx1 K a H0 mg mb rf cR PR) (CMP : CmpK Z) {f : Addr} {fo oI oal : Obj} {rl al res bl I : Addr} {rs bs : List Addr} {keys rvals : List Value} {as : List Int} {ep c c2 i : Nat} {T b : Int} {tT : Tok} {tv : Bool} {ps1 : Array Value} {L : Addr} {s1 sW : Shared} {m : Str → Option Value} {M : List Addr} {key rank : Value}
    (C : Cx H0 (A.deeper (rE L rf cR)) (rE L rf cR :: l) M sW L m ((I, oI) :: (bl, lstO (refA bs) c2) :: (res, lstO rvals c) :: (al, oal) :: rLed L al f PR rl (some key) tv ps1 rs ep fo) s1)
    (hmb : m "both" = some (.ref bl)) (hmT : m "twice" = some (.int T tT)) (hmk : m "rank" = some rank) (rbW : RowsAt sW.heap bs keys rvals) (hMb : ∀ p ∈ M, p ∉ bs) (hka : ∀ (i : Nat) (k : Value) (a : Int), keys[i]? = some k → as[i]? = some a → Z.KV k a) (hla : as.length = bs.length) (hn : bs.length ≤ 20)
    (hkey : Z.KV key b) (hri : rvals[i]? = some rank) (hbi : as[i]? = some b) (hv : HV rvals (rkZ tv T as)) (htk : ∀ v ∈ rvals, tokOf v ≠ 0) (hT : T.natAbs ≤ 2 ^ 40) (hh : A.handled = none) (hu : A.units + 10 < cLine)
    {Q : Flow → Shared → Prop} {E : Value → Shared → Prop}
    (k : ∀ m' s', Cx H0 (A.deeper (rE L rf cR)) (rE L rf cR :: l) M sW L m' ((I, oI) :: (bl, lstO (refA bs) c2) :: (res, lstO rvals c) :: (al, oal) :: rLed L al f PR rl (some key) tv ps1 rs ep fo) s' → m' "both" = m "both" → m' "twice" = m "twice" → m' "rows" = m "rows" → m' "told" = m "told" → Q .next s') :
    wpAny (model prog w) (A.deeper (rE L rf cR)) (execs rightB (rE L rf cR)) Q E s1 := by
  refine wpAny_execs_cons (right_pick (Z := Z) (as := as) (t := fun a => decide (a = b)) (cl := [(Str.ofString "key", L + 3)]) C (j := 1) rfl hmb (rbW.cx C hMb) hka hla hn hh rfl rfl (by decide) rfl (by decide) rfl rfl rfl (fun D Cc mC acc c s E' Q k a hk hm CT hq => ?_) fun D1 c1 s2 C2 n1 ht2 => ?_)
  · exact wpAny_isTrue_Compare1 (CT.nameE hm (CT.ldCell 6 rfl rfl (CMP.eq _ _ _ _ _ _ _ _ _ _ hk hkey (wpAny_truthy_bool hq))))
  refine wpAny_execs_cons (right_pick (Z := Z) (as := as) (t := fun a => decide (dirZ tv a ≤ dirZ tv b)) (cl := [(Str.ofString "turned", L + 2), (Str.ofString "key", L + 3)]) C2 (j := 2) rfl hmb (rbW.cx C2 hMb) hka hla hn hh rfl rfl (by decide) rfl (by decide) rfl rfl rfl (fun D Cc mC acc c s E' Q k a hk hm CT hq => ?_) fun D2 c3 s3 C3 n2 ht3 => ?_)
  · refine isTrue_IfExp (wpAny_isTrue_value (CT.ldCell 8 rfl rfl (wpAny_truthy_bool ?_)))
    cases tv with
    | true =>
      refine ite_yes' rfl (wpAny_isTrue_Compare1 (CT.nameE hm (CT.ldCell 7 rfl rfl (CMP.ge _ _ _ _ _ _ _ _ _ _ hk hkey (wpAny_truthy_bool ?_)))))
      have : decide (dirZ true a ≤ dirZ true b) = decide (b ≤ a) := by simp [dirZ]
      rw [← this]; exact hq
    | false =>
      refine ite_no' rfl (wpAny_isTrue_Compare1 (CT.nameE hm (CT.ldCell 7 rfl rfl (CMP.le _ _ _ _ _ _ _ _ _ _ hk hkey (wpAny_truthy_bool hq)))))
  obtain ⟨z, tr, hz, rfl⟩ := hv.get hri
  have hlr : as.length = rvals.length := by rw [hla, rb_len rbW]
  have hR : ∀ {j : Nat} {x : Int}, as[j]? = some x → (rkZ tv T as)[j]? = some (rkN T (as.map (dirZ tv)) (dirZ tv x)) := fun h => by unfold rkZ; rw [List.getElem?_map, h]; rfl
  have hzb : z = rkN T (as.map (dirZ tv)) (dirZ tv b) := by
    have := hR hbi
    rw [hz] at this; exact Option.some.inj this
  have hbd := rkZ_bound (rv := tv) (as := as) hT (by omega)
  have hmk3 : (updM (updM m "same" (.ref D1)) "first" (.ref D2)) "rank" = some (.float (hf z) tr) := hmk
  have hmT3 : (updM (updM m "same" (.ref D1)) "first" (.ref D2)) "twice" = some (.int T tT) := hmT
  refine wpAny_execs_cons (wpAny_If (wpAny_isTrue_BoolOp (wpAny_allTrue_Or_cons (wpAny_isTrue_Not (wpAny_isTrue_value (Call_ (C3.bootE X.G X.F.nisin Boot.«isinstance» (PyProof.Rows.callWith_builtin1 (args_cons (C3.nameE hmk3 (args_cons (C3.bootE X.G X.F.nflt Boot.«float» (args_nil (PySem.IsiPair.float_float (wpAny_truthy_bool ?_)))))))))))))))
  refine ite_no' rfl ?_
  refine wpAny_allTrue_Or_cons (wpAny_isTrue_Compare1 (C3.nameE (v := .ref D1) rfl (wpAny_BinOp (lst_made (args_cons (C3.nameE hmk3 (args_nil ⟨H0, _, _, _, sW, L, _, _, C3, by rw [sizeLine_eq]; show 1 ≤ _; decide, fun RL s4 C4 nR nR' => ?_⟩)))))))
  have hl1 := pk_len (fun a => decide (a = b)) hlr
  have hl2 := pk_len (fun a => decide (dirZ tv a ≤ dirZ tv b)) hlr
  have hf1 := List.length_filter_le (fun a => decide (a = b)) as
  have hf2 := List.length_filter_le (fun a => decide (dirZ tv a ≤ dirZ tv b)) as
  refine Call_ (C4.bootE X.G X.F.nlen Boot.«len» (PyProof.Rows.callWith_builtin1 (args_cons (C4.nameE (v := .ref D1) rfl (args_nil (PyProof.Rows.len_list (isl (C4.at 2 rfl)) (by rw [List.size_toArray, hl1]; omega) ?_))))))
  have C5 := C4.tok 2
  refine mul_list1 (n := (pk (fun a => decide (a = b)) as rvals).length) (C5.at 0 rfl) (by rw [List.size_toArray]) (by rw [hl1]; omega) ?_
  have C6 := C5.push (lstO (List.replicate (pk (fun a => decide (a = b)) as rvals).length (.float (hf z) tr))) rfl nd_seq rfl
  refine lists_ne (C6.at 3 rfl) (C6.at 0 rfl) (by rw [List.length_replicate]) (by show A.units + 3 < _; omega) (fun j v u h1 h2 => ?_) (wpAny_truthy_bool ?_)
  · obtain ⟨j', x, h3, h4, h5⟩ := pk_mem (List.mem_of_getElem? h1)
    have hx : x = b := by simpa using h5
    subst hx
    obtain ⟨z', t', hz', rfl⟩ := hv.get h4
    have e := hR h3
    rw [hz'] at e
    have ez : z' = z := by rw [hzb]; exact Option.some.inj e
    subst ez
    have hu' : u = .float (hf z') tr := by
      rw [List.getElem?_replicate] at h2
      split at h2
      · exact (Option.some.inj h2).symm
      · cases h2
    subst hu'
    have hzb' : z'.natAbs ≤ 2 ^ 52 := by have := hbd z' (List.mem_of_getElem? hz); omega
    have := eqAt_flt (A := (A.deeper (rE L rf cR)).in1) (s := { (tk s4 2) with heap := (tk s4 2).heap.push (lstO (List.replicate (pk (fun a => decide (a = x)) as rvals).length (.float (hf z') tr))) }) (z := z') (z' := z') (t := t') (u := tr) (C6.st.nob X.G) (htk _ (List.mem_of_getElem? h4)) (htk _ (List.mem_of_getElem? hri)) hzb' hzb' fun _ => rfl
    rwa [decide_eq_true rfl] at this
  refine ite_no' rfl (wpAny_allTrue_Or_nil ?_)
  refine ite_no' rfl (wpAny_execs_nil ?_)
  have C7 := C6.drop ((D2, _) :: (D1, _) :: _) (.cons _ (.cons _ (List.Sublist.refl _)))
  have hvF := pk_hv (fun a => decide (dirZ tv a ≤ dirZ tv b)) (fun a => rkN T (as.map (dirZ tv)) (dirZ tv a)) hv
  have hsum := first_sum tv T as b
  generalize hFe : as.filter (fun a => decide (dirZ tv a ≤ dirZ tv b)) = fs at hvF hsum hl2 hf2
  have hbf : b ∈ fs := by
    rw [← hFe]
    exact List.mem_filter.mpr ⟨List.mem_of_getElem? hbi, by simp⟩
  have hne : fs.map (fun a => rkN T (as.map (dirZ tv)) (dirZ tv a)) ≠ [] := by
    intro q
    rw [List.map_eq_nil_iff] at q
    rw [q] at hbf; cases hbf
  have hzB : ∀ z ∈ fs.map (fun a => rkN T (as.map (dirZ tv)) (dirZ tv a)), z.natAbs ≤ 2 ^ 40 + 129 := fun z hz => by
    obtain ⟨x, hx, rfl⟩ := List.mem_map.mp hz
    refine hbd _ ?_
    rw [← hFe] at hx
    exact List.mem_map.mpr ⟨x, (List.mem_filter.mp hx).1, rfl⟩
  have hm : fs.length ≤ 20 := by omega
  refine wpAny_execs_cons (wpAny_If (wpAny_isTrue_Compare1 (wpAny_BinOp (wpAny_Constant_int (Call_ ((C7.tok 1).bootE X.G X.F.nsum Boot.«sum» (PyProof.Rows.callWith_builtin1 (args_cons ((C7.tok 1).nameE (v := .ref D2) rfl (args_nil (sumF ((C7.tok 1).at 0 rfl) hvF hne hzB (by rw [List.length_map]; omega) hh fun s8 t8 g8 => ?_)))))))))))
  have C8 := (C7.tok 1).ext g8.keep g8.toks g8.gens g8.os
  generalize hS : (fs.map fun a => rkN T (as.map (dirZ tv)) (dirZ tv a)).sum = Sm at hsum
  have hmT' : (fs.length : Int) * (T + fs.length - 1) = Sm := hsum.symm
  have hSb : Sm.natAbs ≤ 20 * (2 ^ 40 + 40) := by
    rw [← hmT', Int.natAbs_mul]
    refine Nat.mul_le_mul (by omega) (by omega)
  refine mul_if_fits (by decide) ?_
  rw [hf_mul2 (by omega)]
  have C9 := C8.tok 1
  refine wpAny_BinOp (Call_ (C9.bootE X.G X.F.nlen Boot.«len» (PyProof.Rows.callWith_builtin1 (args_cons (C9.nameE (v := .ref D2) rfl (args_nil (PyProof.Rows.len_list (isl (C9.at 0 rfl)) (by rw [List.size_toArray, hl2]; omega) ?_)))))))
  have C10 := C9.tok 2
  refine wpAny_BinOp (wpAny_BinOp (C10.nameE hmT3 (Call_ (C10.bootE X.G X.F.nlen Boot.«len» (PyProof.Rows.callWith_builtin1 (args_cons (C10.nameE (v := .ref D2) rfl (args_nil (PyProof.Rows.len_list (isl (C10.at 0 rfl)) (by rw [List.size_toArray, hl2]; omega) ?_)))))))))
  have C11 := C10.tok 2
  refine PyProof.Rows.add_int (wpAny_Constant_int (PyProof.Rows.sub_int ?_))
  have C12 := C11.tok 3
  refine PyProof.Rows.mul_int ?_ (hm := .of_left (by rw [List.size_toArray, hl2]; exact Nat.le_trans (intBits_lt (k := 5) (by omega)) (by decide)))
  have C13 := C12.tok 1
  rw [List.size_toArray, hl2, hmT']
  refine PyProof.Rows.ne_fi (wpAny_truthy_bool ?_)
  rw [hf_cmpInt (by omega)]
  refine ite_no' (by simp) ?_
  exact wpAny_execs_nil (wpAny_execs_nil (k _ _ (C13.drop _ (.cons _ (.cons _ (List.Sublist.refl _)))) rfl rfl rfl rfl))
end
end Mine
end
section
set_option maxRecDepth 100000
set_option autoImplicit false
set_option genInjectivity false
set_option genSizeOf false
namespace Mine
open PySem PySem.W PySem.Calls PyProof.Rows PySem.Spec
section
variable {K : Frag} {a : Adr} {H0 : Heap} {mg mb : Str → Option Value} {rf cR PR : Addr} {A : Around} {l : List Env} {prog : Program} {w : World} {κ : KeyOps} {Z : KeyZ κ}
structure LoopI (H0 : Heap) (A : Around) (l : List Env) (M : List Addr) (sE : Shared) (L I bl res al f PR rl : Addr) (T : Int) (tT : Tok) (bs rs : List Addr) (rvals : List Value) (c c2 ep ep2 : Nat) (tv : Bool) (ps1 : Array Value) (fo : Obj) (n : Nat) (s : Shared) : Prop where
  ex : ∃ (i : Nat) (m : Str → Option Value) (kv : Option Value), n = bs.length + 1 - i ∧ i ≤ bs.length ∧ m "both" = some (.ref bl) ∧ m "twice" = some (.int T tT) ∧ m "rows" = some (.ref rl) ∧ m "told" = some (.ref res) ∧
    Cx H0 A l M sE L m ((I, itO bl i) :: (bl, lstO (refA bs) c2) :: (res, lstO rvals c) :: (al, lstO (refA rs) ep2) :: rLed L al f PR rl kv tv ps1 rs ep fo) s
set_option maxHeartbeats 4000000 in
theorem right_loop (X : Ctx1 K a H0 mg mb rf cR PR) (CMP : CmpK Z) {f : Addr} {fo : Obj} {rl al res bl : Addr} {rs bs : List Addr} {keys rvals : List Value} {as : List Int} {ep ep2 c c2 : Nat} {T : Int} {tT : Tok} {tv : Bool} {ps1 : Array Value} {L : Addr} {s1 sW : Shared} {m : Str → Option Value} {M : List Addr}
    (C : Cx H0 (A.deeper (rE L rf cR)) (rE L rf cR :: l) M sW L m ((bl, lstO (refA bs) c2) :: (res, lstO rvals c) :: (al, lstO (refA rs) ep2) :: rLed L al f PR rl none tv ps1 rs ep fo) s1)
    (hmb : m "both" = some (.ref bl)) (hmT : m "twice" = some (.int T tT)) (hmr : m "rows" = some (.ref rl)) (hmt : m "told" = some (.ref res)) (rb : RowsAt s1.heap bs keys rvals) (hka : ∀ (i : Nat) (k : Value) (a : Int), keys[i]? = some k → as[i]? = some a → Z.KV k a) (hla : as.length = bs.length) (hn : bs.length ≤ 20)
    (hM3 : L + 3 ∈ M ∨ sW.heap.get? (L + 3) = none) (hH3 : H0.get? (L + 3) = none) (hv : HV rvals (rkZ tv T as)) (htk : ∀ v ∈ rvals, tokOf v ≠ 0) (hT : T.natAbs ≤ 2 ^ 40) (hh : A.handled = none) (hu : A.units + 10 < cLine)
    {Q : Flow → Shared → Prop} {E : Value → Shared → Prop}
    (k : ∀ m' kv s', Cx H0 (A.deeper (rE L rf cR)) (rE L rf cR :: l) M sW L m' ((bl, lstO (refA bs) c2) :: (res, lstO rvals c) :: (al, lstO (refA rs) ep2) :: rLed L al f PR rl kv tv ps1 rs ep fo) s' → m' "twice" = some (.int T tT) → m' "told" = some (.ref res) → s1.toks ≤ s'.toks →
      wpAny (model prog w) (A.deeper (rE L rf cR)) (execs (dRight.2.1.drop 6) (rE L rf cR)) Q E s') :
    wpAny (model prog w) (A.deeper (rE L rf cR)) (execs (dRight.2.1.drop 5) (rE L rf cR)) Q E s1 := by
  have CB := (C.rebase).mono (M' := [L + 3]) fun p hp => nomatch hp
  have hbl := C.at 0 rfl
  have rbW : RowsAt (wiped s1 L).heap bs keys rvals := ⟨rb.lp, rb.lx, fun j r p x h1 h2 h3 => (wiped_of (C.neL (p := (r, tupO [p, x])) (okk_tup (rb.at_ j r p x h1 h2 h3)))).trans (rb.at_ j r p x h1 h2 h3)⟩
  have hMb : ∀ p ∈ [L + 3], p ∉ bs := fun p hp q => by
    rw [List.mem_singleton.mp hp] at q
    obtain ⟨j, hj⟩ := List.mem_iff_getElem?.mp q
    obtain ⟨_, _, _, _, h⟩ := rb.get hj
    have h2 := congrArg (fun o : Option Obj => o.map (·.cls)) ((C.at 4 rfl).symm.trans h)
    simp at h2
  refine wpAny_execs_cons (wpAny_For (C.nameE hmb (wpAny_pyIter_list (isl hbl) ?_)))
  have nI := CB.noE (a := s1.heap.objs.size) not_at
  have C2 := CB.push (itO bl 0) rfl nd_fields rfl
  generalize hIe : s1.heap.objs.size = I at *
  refine codeAny_forLoop_any (LoopI H0 (A.deeper (rE L rf cR)) (rE L rf cR :: l) [L + 3] (wiped s1 L) L I bl res al f PR rl T tT bs rs rvals c c2 ep ep2 tv ps1 fo) (fun n s V => ?_) (bs.length + 1) ⟨0, m, none, rfl, Nat.zero_le _, hmb, hmT, hmr, hmt, C2⟩
  obtain ⟨i, m1, kv, rfl, hi, h1, h2, h3, h4, C3⟩ := V
  by_cases hlt : i < bs.length
  · obtain ⟨r, hr⟩ : ∃ r, bs[i]? = some r := ⟨_, List.getElem?_eq_getElem hlt⟩
    obtain ⟨u, v, hu1, hv1, _⟩ := rbW.get hr
    have hra : (refA bs)[i]? = some (.ref r) := by unfold refA; rw [List.getElem?_map, hr]; rfl
    obtain ⟨b, hb⟩ : ∃ b, as[i]? = some b := ⟨_, List.getElem?_eq_getElem (by omega)⟩
    refine pyNext_item (C3.at 0 rfl) (C3.at 1 rfl) hra ?_
    have C4 := C3.upd 0 (f := Obj.mapFields (·.setIfInBounds 1 (rawInt ((i : Int) + 1)))) rfl rfl nd_fields rfl (.inr nI.e) nI.h
    have C4' : Cx H0 (A.deeper (rE L rf cR)) (rE L rf cR :: l) [L + 3] (wiped s1 L) L m1 ((I, itO bl (i + 1)) :: (bl, lstO (refA bs) c2) :: (res, lstO rvals c) :: (al, lstO (refA rs) ep2) :: rLed L al f PR rl kv tv ps1 rs ep fo) _ := C4
    refine wpAny_letOwnedTupleGo_listiter ⟨_, C4'.at 0 rfl, rfl, rfl⟩ ?_
    have hrx := (rbW.cx C4' hMb).at_ i r u v hr hu1 hv1
    refine assign_Tuple_tuple hh ⟨_, hrx, rfl, 0, rfl⟩ rfl rfl fun h' he => ?_
    have C5 := C4'.ext (s' := { s with heap := h' }) (fun b o e => he b o (fun q => by rw [q, not_at] at e; cases e) e) (Nat.le_refl _) rfl rfl
    show wpAny _ _ (assignInOrder [assign (.Name "key" _) _, assign (.Name "rank" _) _] [u, v]) _ _ _
    refine wpAny_assignInOrder_more (PySem.wpAny_assign_Name (C5.setCell 5 rfl rfl (.inl (by simp)) hH3 fun s6 C6 => ?_))
    have C6' : Cx H0 (A.deeper (rE L rf cR)) (rE L rf cR :: l) [L + 3] (wiped s1 L) L m1 ((I, itO bl (i + 1)) :: (bl, lstO (refA bs) c2) :: (res, lstO rvals c) :: (al, lstO (refA rs) ep2) :: rLed L al f PR rl (some u) tv ps1 rs ep fo) s6 := C6
    refine wpAny_assignInOrder_more (PySem.wpAny_assign_Name (C6'.setE fun s7 C7 => ?_))
    refine wpAny_assignInOrder_none ?_
    refine right_turn X CMP (i := i) C7 h1 h2 rfl rbW hMb hka hla hn (hka i u b hu1 hb) hv1 hb hv htk hT hh hu fun m' s8 C8 e1 e2 e3 e4 => ?_
    exact ⟨bs.length + 1 - (i + 1), by omega, i + 1, m', some u, rfl, hlt, e1.trans h1, e2.trans h2, e3.trans h3, e4.trans h4, C8⟩
  · have hin : i = bs.length := by omega
    subst hin
    refine pyNext_end hh (C3.at 0 rfl) (C3.at 1 rfl) (List.getElem?_eq_none (by simp [refA])) fun h' e hm => ?_
    have C4 := C3.upd 0 (f := Obj.mapFields (·.setIfInBounds 0 .none)) rfl rfl nd_fields rfl (.inr nI.e) nI.h
    have C5 := C4.call (made_go (H0 := H0) (M := []) (s := { s with heap := s.heap.update I (Obj.mapFields (·.setIfInBounds 0 .none)) }) hm)
    refine wpAny_execs_nil ?_
    have C6 := C.unbaseM C5 fun p hp => by rw [List.mem_singleton.mp hp]; exact hM3
    exact k m1 kv _ (C6.drop _ (.cons _ (List.Sublist.refl _))) h2 h4 C5.go.toks
end
end Mine
end
section
set_option maxRecDepth 100000
set_option autoImplicit false
set_option genInjectivity false
set_option genSizeOf false
namespace Mine
open PySem PySem.W PySem.Calls PyProof.Rows PySem.Spec
theorem rkZ_again (tv : Bool) (T : Int) (as : List Int) : rkZ false T (rkZ tv T as) = rkZ tv T as := by
  have e0 : ∀ x : Int, dirZ false x = x := fun x => rfl
  have e1 : ∀ zs : List Int, zs.map (dirZ false) = zs := fun zs => by
    induction zs with
    | nil => rfl
    | cons z r ih => rw [List.map_cons, ih, e0]
  have key : ∀ bs : List Int, (bs.map (rkN T bs)).map (fun b => rkN T (bs.map (rkN T bs)) b) = bs.map (rkN T bs) := fun bs => by
    rw [List.map_map]
    exact List.map_congr_left fun x hx => rkN_again hx
  have e2 : rkZ tv T as = (as.map (dirZ tv)).map (rkN T (as.map (dirZ tv))) := by unfold rkZ; rw [List.map_map]; rfl
  have := key (as.map (dirZ tv))
  rw [← e2] at this
  unfold rkZ at this ⊢
  rw [e1]
  exact this
section
variable {K : Frag} {a : Adr} {H0 : Heap} {mg mb : Str → Option Value} {rf cR PR : Addr} {A : Around} {l : List Env} {prog : Program} {w : World}
set_option maxHeartbeats 4000000 in
theorem right_ret (X : Ctx1 K a H0 mg mb rf cR PR) {res : Addr} {rvals : List Value} {as : List Int} {c j : Nat} {T : Int} {tT : Tok} {tv : Bool} {L : Addr} {s1 sW : Shared} {m : Str → Option Value} {M : List Addr} {led : List (Addr × Obj)}
    (C : Cx H0 (A.deeper (rE L rf cR)) (rE L rf cR :: l) M sW L m led s1) (hj : led[j]? = some (res, lstO rvals c))
    (hmT : m "twice" = some (.int T tT)) (hmt : m "told" = some (.ref res)) (hv : HV rvals (rkZ tv T as)) (htk : ∀ v ∈ rvals, tokOf v ≠ 0) (KL : KeyL fltKey rvals) (hn : rvals.length ≤ 20) (hla : as.length ≤ 20) (hT : T.natAbs ≤ 2 ^ 40) (hroom : A.depth + 8 < recursionLimit) (hh : A.handled = none) (hu : A.units + 10 < cLine)
    {Q : Flow → Shared → Prop} {E : Value → Shared → Prop}
    (k : ∀ s', Cx H0 (A.deeper (rE L rf cR)) (rE L rf cR :: l) M sW L m led s' → Q (.ret (.bool true)) s') :
    wpAny (model prog w) (A.deeper (rE L rf cR)) (execs (dRight.2.1.drop 6) (rE L rf cR)) Q E s1 := by
  refine wpAny_execs_cons (wpAny_Return_some (wpAny_Compare1 (wpAny_Call_Name_kw (C.globalE X.G X.F.nrank (callWith_KW (C.st.X X.G) X.F.krank rfl (args_cons (C.nameE hmt (args_nil (kws_cons (wpAny_BinOp (C.nameE hmT (wpAny_Constant_int (div2 (by omega) (kws_nil ?_))))))))))))))
  have C3 := C.tok 2
  refine ⟨C3.st.X X.G, wpAny_call ?_⟩
  refine rank_list X.G X.FF (z := T - 2) C3.st fltKey (C3.ok j hj) (.float _ (by rw [show T - 2 + 2 = T by omega])) (by omega) (by omega) KL (by show A.depth + 1 + 5 < _; omega) hh fun res2 rvals2 c2 s4 hrk g4 ok4 n4 => ?_
  have C4 := C3.call g4
  have hbd := rkZ_bound (rv := tv) (as := as) hT (by omega)
  have RK := hrk.toK (Z := fltZ) (as := rkZ tv T as) hv.len fun i v z h1 h2 => by
    obtain ⟨t, ht⟩ := hv.at_ i z h2
    rw [h1] at ht; cases ht
    exact ⟨by have := hbd z (List.mem_of_getElem? h2); omega, t, rfl⟩
  have hv2 := RK.hv
  rw [rkZ_again] at hv2
  have tk2 := RK.toks hv2
  refine C4.nameE hmt ?_
  refine lists_eq ok4.at_ (C4.at j hj) (by rw [hv2.len, hv.len]) (by show A.units + 3 < _; omega) (fun i v u h1 h2 => ?_) (k s4 C4)
  obtain ⟨z, t, hz, rfl⟩ := hv2.get h1
  obtain ⟨z', t', hz', rfl⟩ := hv.get h2
  rw [hz] at hz'; cases hz'
  have hzb : z.natAbs ≤ 2 ^ 52 := by have := hbd z (List.mem_of_getElem? hz); omega
  have := eqAt_flt (A := (A.deeper (rE L rf cR)).in1) (s := s4) (z := z) (z' := z) (t := t) (u := t') (C4.st.nob X.G) (tk2 i _ h1).1 (htk _ (List.mem_of_getElem? h2)) hzb hzb fun _ => rfl
  rwa [decide_eq_true rfl] at this
end
theorem ne_data {h : Heap} {a b : Addr} {o o' : Obj} (h1 : h.get? a = some o) (h2 : h.get? b = some o') (hd : o.data ≠ o'.data) : a ≠ b := fun e => by
  rw [e, h2] at h1; cases h1; exact hd rfl
section
variable {K : Frag} {a : Adr} {H0 : Heap} {mg mb : Str → Option Value} {rf cR PR : Addr} {A : Around} {l : List Env} {s : Shared} {prog : Program} {w : World} {κ : KeyOps} {Z : KeyZ κ} {g : Int → Int}
set_option maxHeartbeats 4000000 in
theorem right_spec (X : Ctx1 K a H0 mg mb rf cR PR) (CMP : CmpK Z) (S : St H0 A l s) {f fc : Addr} {fo : Obj} {fq : Str} (FK : FindK prog w H0 Z g f fc fo fq) (hf : Okk s.heap (f, fo)) (hfc : s.heap.CodeRec (.ref fc) fq) {rl : Addr} {rs : List Addr} {ps xs : List Value} {ns : List Int} {ep t0 : Nat} (hrl : Okk s.heap (rl, lstO (refA rs) ep)) (ra : RowsAt s.heap rs ps xs) (iv : IV xs ns) (O : Olds xs t0) (ht0 : t0 ≤ s.toks) (hn : rs.length ≤ 20)
    {T : Int} {tT : Tok} (hT : T.natAbs ≤ 2 ^ 40) {tv : Bool} {pp : Array Value} (PK : PartK PR s pp) (hroom : A.depth + 8 < recursionLimit) (hh : A.handled = none) (hu : A.units + 10 < cLine) {R : Result → Shared → Prop}
    (k : ∀ s' pp', Go H0 [PR] s s' → PartK PR s' pp' → R (.ok (.ret (.bool true))) s') : codeAny (model prog w) A (.call (.ref rf) ⟨[.ref rl, .ref f, .int T tT, .bool tv], []⟩) R s := by
  obtain ⟨oc, od, fd, sl, hfo⟩ := FK.fn
  have hne : f ≠ rl ∧ PR ≠ rl ∧ PR ≠ f := ⟨ne_data hf.at_ hrl.at_ (by rw [hfo]; exact fun q => by cases q), ne_data PK.1.at_ hrl.at_ (fun q => by cases q), ne_data PK.1.at_ hf.at_ (by rw [hfo]; exact fun q => by cases q)⟩
  refine right_head X S hf hrl PK hne (by omega) fun L al kf kc doc pm ct s1 ep1 ps1 CB C nw nal hkc hps => ?_
  have hL := C.dictL
  have hPRrs : ∀ p ∈ [PR], p ∉ rs := fun p hp q => by
    rw [List.mem_singleton.mp hp] at q
    obtain ⟨j, hj⟩ := List.mem_iff_getElem?.mp q
    obtain ⟨_, _, _, _, h⟩ := ra.get hj
    exact ne_data PK.1.at_ h (fun q => by cases q) rfl
  have ra1 := ra.go C.go hPRrs
  have hfcPR : fc ≠ PR := fun e => by
    obtain ⟨c2, o2, vs, t, e2, h1, h2, h3⟩ := hfc
    cases e2
    have h4 := PK.1.at_
    rw [← e, h1] at h4; cases h4; cases h2
    rcases PK.2 with rfl | ⟨kc', rfl, _⟩
    · cases h3
    · cases h3
  have hfc1 : s1.heap.CodeRec (.ref fc) fq := codeRec_go hfc C.go fun c e => by cases e; simpa using hfcPR
  have tupne : ∀ {p : Addr} {o : Obj}, s1.heap.get? p = some o → (∀ p' x', o ≠ tupO [p', x']) → p ∉ rs := fun {p o} h hd q => by
    obtain ⟨j, hj⟩ := List.mem_iff_getElem?.mp q
    obtain ⟨p', x', _, _, h'⟩ := ra1.get hj
    rw [h] at h'; exact hd p' x' (Option.some.inj h')
  have hMr : ∀ p ∈ [al, L + 3, kf, L + 4, L + 1, f, rl], p ∉ rs := fun p hp => by
    simp only [List.mem_cons, List.not_mem_nil, or_false] at hp
    rcases hp with rfl | rfl | rfl | rfl | rfl | rfl | rfl
    · exact tupne (C.at 1 rfl) fun _ _ q => by have := congrArg Obj.cls q; simp at this
    · exact tupne (C.at 3 rfl) fun _ _ q => by have := congrArg Obj.cls q; simp at this
    · exact tupne (C.at 0 rfl) fun _ _ q => by have := congrArg Obj.cls q; simp at this
    · exact tupne (C.at 2 rfl) fun _ _ q => by have := congrArg Obj.cls q; simp at this
    · exact tupne (C.at 5 rfl) fun _ _ q => by have := congrArg Obj.cls q; simp at this
    · exact tupne (C.at 8 rfl) fun _ _ q => by rw [hfo] at q; have := congrArg Obj.data q; cases this
    · exact tupne (C.at 7 rfl) fun _ _ q => by have := congrArg Obj.cls q; simp at this
  have cnot : ∀ {c : Addr} {q : Str}, s1.heap.CodeRec (.ref c) q → c ∉ [al, L + 3, rl] := fun {c q} h hm => by
    simp only [List.mem_cons, List.not_mem_nil, or_false] at hm
    rcases hm with e | e | e
    · exact code_ne h (C.at 1 rfl) (fun vs q => by cases q) e
    · exact code_ne h (C.at 3 rfl) (fun vs q => by cases q) e
    · exact code_ne h (C.at 7 rfl) (fun vs q => by cases q) e
  have raW : RowsAt (wiped s1 L).heap rs ps xs := ⟨ra1.lp, ra1.lx, fun j r p x h1 h2 h3 => (wiped_of (C.neL (p := (r, tupO [p, x])) (okk_tup (ra1.at_ j r p x h1 h2 h3)))).trans (ra1.at_ j r p x h1 h2 h3)⟩
  have hts : t0 ≤ s1.toks := Nat.le_trans ht0 C.go.toks
  have nw3 := nw (L + 3) (by simp)
  refine right_told (Z := Z) X FK (ps := ps) (xs := xs) (ns := ns) (CB.mono (M' := [al, L + 3]) fun p hp => nomatch hp) rfl rfl rfl nal.h (code_wiped hkc hL) (code_wiped hfc1 hL) raW iv O hts hn hT hMr (cnot hkc) (cnot hfc1) hroom hh fun res rvals c ep2 s2 RK C2 => ?_
  have hnl : ns.length = rs.length := by rw [← iv.len, ra.lx]
  have hv := RK.hv
  have hrl2 : rvals.length = rs.length := by rw [hv.len]; simp [rkZ, hnl]
  have htk : ∀ v ∈ rvals, tokOf v ≠ 0 := fun v hv' => by
    obtain ⟨i, hi⟩ := List.mem_iff_getElem?.mp hv'
    exact (RK.toks hv i v hi).1
  have KL := RK.keyL (by omega) (by rw [List.length_map, hnl]; omega)
  refine right_if X C2 rfl rfl hrl2 hn hu fun s3 C3 => ?_
  have hM2 : ∀ p ∈ [al, L + 3], p ∉ rs := fun p hp => hMr p (by simp only [List.mem_cons, List.not_mem_nil, or_false] at hp; rcases hp with h | h <;> simp [h])
  have hfc3 : s3.heap.CodeRec (.ref fc) fq := C3.code (code_wiped hfc1 hL) fun q => cnot hfc1 (by simp only [List.mem_cons, List.not_mem_nil, or_false] at q ⊢; rcases q with h | h <;> simp [h])
  refine right_both (Z := Z) (g := g) X FK C3 rfl rfl hrl2 hn hfc3 (raW.cx C3 hM2) iv O (Nat.le_trans hts (Nat.le_trans (Nat.le_refl _) C3.go.toks)) hroom hh fun bl bs keys c2 s4 C4 rb KA hbl => ?_
  refine right_loop (Z := Z) (as := ns.map g) X CMP C4 rfl rfl rfl rfl rb (fun i k b h1 h2 => ?_) (by rw [List.length_map, hnl, hbl]) (by omega) (.inl (by simp)) nw3.h hv htk hT hh hu fun m' kv s5 C5 e1 e2 ht5 => ?_
  · obtain ⟨x, b', h3, h4, h5, _⟩ := KA.kv i k h1
    rw [h2] at h4; cases h4; exact h5
  refine right_ret X (as := ns.map g) C5 (j := 1) rfl e1 e2 hv htk KL (by omega) (by rw [List.length_map]; omega) hT hroom hh hu fun s6 C6 => ?_
  have CU := C.unbaseM C6 fun p hp => by
    simp only [List.mem_cons, List.not_mem_nil, or_false] at hp
    rcases hp with rfl | rfl
    · exact .inr nal.e
    · exact .inr nw3.e
  have hkc6 : s6.heap.CodeRec (.ref kc) keyQ := C6.code (code_wiped hkc hL) fun q => cnot hkc (by simp only [List.mem_cons, List.not_mem_nil, or_false] at q ⊢; rcases q with h | h <;> simp [h])
  refine k s6 ps1 CU.go ⟨CU.ok 7 rfl, ?_⟩
  rcases hps with h | h
  · exact .inl h
  · exact .inr ⟨kc, h, hkc6⟩
end
end Mine
end
section
set_option maxRecDepth 100000
set_option autoImplicit false
namespace Mine
open PySem PySem.W PySem.Calls PyProof.Rows PySem.Spec
theorem IV.mem {vals : List Value} {ns : List Int} (h : IV vals ns) {v : Value} (hv : v ∈ vals) : ∃ n t, v = .int n t := by
  obtain ⟨i, hi, e⟩ := List.mem_iff_getElem.mp hv
  obtain ⟨n, hn⟩ : ∃ n, ns[i]? = some n := ⟨_, List.getElem?_eq_getElem (by rw [← h.len]; exact hi)⟩
  obtain ⟨t, ht⟩ := h.at_ i n hn
  rw [List.getElem?_eq_getElem hi, e] at ht
  exact ⟨n, t, Option.some.inj ht⟩
theorem IV.nil : IV [] [] := ⟨rfl, fun i x h => by cases h⟩
theorem IV.snoc {vs : List Value} {xs : List Int} (h : IV vs xs) (x : Int) (t : Tok) : IV (vs ++ [.int x t]) (xs ++ [x]) := by
  refine ⟨by simp [h.len], fun i y hy => ?_⟩
  by_cases hi : i < xs.length
  · rw [List.getElem?_append_left hi] at hy
    obtain ⟨u, hu⟩ := h.at_ i y hy
    exact ⟨u, by rw [List.getElem?_append_left (by rw [h.len]; exact hi)]; exact hu⟩
  · have hi' := Nat.not_lt.mp hi
    rw [List.getElem?_append_right hi'] at hy
    have e : i - xs.length = 0 := by
      have := (List.getElem?_eq_some_iff.mp hy).1; simp at this; omega
    rw [e] at hy; cases hy
    exact ⟨t, by rw [List.getElem?_append_right (by rw [h.len]; exact hi'), h.len, e]; rfl⟩

structure FreshI (acc : List Value) (ns : List Int) (tk : Nat) : Prop where
  iv : IV acc ns
  lt : ∀ v ∈ acc, tokOf v ≠ 0 ∧ tokOf v < tk
  ne : acc.Pairwise fun x y => tokOf x ≠ tokOf y
theorem FreshI.nil (tk : Nat) : FreshI [] [] tk := ⟨IV.nil, fun _ h => (nomatch h), List.Pairwise.nil⟩
theorem FreshI.snoc {acc : List Value} {ns : List Int} {tk tk' : Nat} (h : FreshI acc ns tk) (n : Int) (t : Tok) (h0 : 0 < tk) (h1 : tk ≤ t) (h2 : t < tk') : FreshI (acc ++ [.int n t]) (ns ++ [n]) tk' := by
  refine ⟨h.iv.snoc n t, fun v hv => ?_, ?_⟩
  · rcases List.mem_append.mp hv with q | q
    · exact ⟨(h.lt v q).1, Nat.lt_trans (h.lt v q).2 (Nat.lt_of_le_of_lt h1 h2)⟩
    · rw [List.mem_singleton.mp q]; exact ⟨Nat.ne_of_gt (Nat.lt_of_lt_of_le h0 h1), h2⟩
  · refine List.pairwise_append.mpr ⟨h.ne, by simp, fun x hx y hy => ?_⟩
    rw [List.mem_singleton.mp hy]
    exact Nat.ne_of_lt (Nat.lt_of_lt_of_le (h.lt x hx).2 h1)
theorem FreshI.key {acc : List Value} {ns : List Int} {tk : Nat} (h : FreshI acc ns tk) : KeyL intKey acc := by
  refine ⟨fun x hx => ⟨h.iv.mem hx, (h.lt x hx).1⟩, fun x hx y hy e => ?_⟩
  have hxy : x = y := by
    obtain ⟨i, hi, rfl⟩ := List.mem_iff_getElem.mp hx
    obtain ⟨j, hj, rfl⟩ := List.mem_iff_getElem.mp hy
    rcases Nat.lt_trichotomy i j with q | q | q
    · exact absurd e (List.pairwise_iff_getElem.mp h.ne i j hi hj q)
    · subst q; rfl
    · exact absurd e.symm (List.pairwise_iff_getElem.mp h.ne j i hj hi q)
  subst hxy
  obtain ⟨n, t, rfl⟩ := h.iv.mem hx
  show (n == n) = true
  simp
theorem nob_of {K : Frag} {h : Heap} (X : K.In h) (hn : ∃ mc, h.Ns cStatics mc ∧ mc "sys.int_max_str_digits" = none) (e : nsIn K cStatics sharingNotToldKey = some none) : NoneBooked h := by
  obtain ⟨mc, h1, _⟩ := hn
  exact ⟨mc, h1, ns_none_of X h1 e⟩
theorem lay_fresh {R : WRecords} {cl : Str → Option Addr} {P : Params} {ord : List DictEntry → List DictEntry} : ∀ (ns : List Int) (s : Shared) (r : List Value × Shared), layAllW R cl P ord (ofPys (ns.map PyData.int)) s = some r → 0 < s.toks → ∀ (acc : List Value) (as : List Int), FreshI acc as s.toks → FreshI (acc ++ r.1) (as ++ ns) r.2.toks
  | [], s, r, e, _, acc, as, h => by
    have : layAllW R cl P ord (ofPys (List.map PyData.int [])) s = some ([], s) := by simp [ofPys, layAllW]
    rw [this] at e
    cases e
    simpa using h
  | n :: ns, s, r, e, hp, acc, as, h => by
    simp only [List.map_cons, ofPys, ofPy, layAllW, layW] at e
    cases q : layAllW R cl P ord (ofPys (List.map PyData.int ns)) { s with toks := s.toks + 1 } with
    | none => rw [q] at e; cases e
    | some r' =>
      rw [q] at e
      cases e
      have h1 := h.snoc n s.toks hp (Nat.le_refl _) (Nat.lt_succ_self _)
      have h2 := lay_fresh ns { s with toks := s.toks + 1 } r' q (Nat.succ_pos _) _ _ h1
      simpa using h2
theorem script_fresh {R : WRecords} {w : World} {s₀ s₁ : Shared} {ns : List Int} {a : Addr} {as : List Addr} (L : Laid R w s₀ s₁ [ofPy (PyData.list (ns.map PyData.int))] [.ref a] as) (h : 0 < s₀.toks) : ∃ vs, s₁.heap.get? a = some (lstO vs) ∧ FreshI vs ns s₁.toks := by
  obtain ⟨ord, _, e⟩ := L.laid
  simp only [ofPy, layAllW, layW] at e
  cases q : layAllW R (classAt s₀.heap) w.params ord (ofPys (List.map PyData.int ns)) s₀ with
  | none => rw [q] at e; cases e
  | some r =>
    rw [q] at e
    simp only [Option.some.injEq, Prod.mk.injEq, List.cons.injEq, Value.ref.injEq] at e
    obtain ⟨⟨ea, _⟩, es⟩ := e
    have hf := lay_fresh ns s₀ r q h [] [] (.nil _)
    refine ⟨r.1, ?_, ?_⟩
    · rw [← es, ← ea]; exact Heap.get?_push_size _ rfl
    · rw [← es]; simpa using hf
end Mine
end
section
set_option maxRecDepth 100000
set_option autoImplicit false
namespace Mine
open PySem PySem.W PySem.Calls PyProof.Rows PySem.Spec
theorem IV.cons {v : Value} {vs : List Value} {n : Int} {ns : List Int} (h : IV (v :: vs) (n :: ns)) : (∃ t, v = .int n t) ∧ IV vs ns := by
  obtain ⟨t, ht⟩ := h.at_ 0 n rfl
  refine ⟨⟨t, Option.some.inj ht⟩, by have := h.len; simpa using this, fun i x hx => h.at_ (i + 1) x hx⟩
theorem IV.are : ∀ {vs : List Value} {ns : List Int}, IV vs ns → IntsAre vs ns
  | [], [], _ => .nil
  | [], _ :: _, h => by have := h.len; simp at this
  | _ :: _, [], h => by have := h.len; simp at this
  | v :: vs, n :: ns, h => by obtain ⟨⟨t, rfl⟩, h'⟩ := h.cons; exact .cons n t h'.are

section
variable {prog : Program} {w : World} {A : Around} {E : Value → Shared → Prop} {s : Shared}
theorem sumL {l : Addr} {vs : List Value} {c : Nat} {ns : List Int} {Q : Value → Shared → Prop} (hl : s.heap.get? l = some (lstO vs c)) (iv : IV vs ns) (hh : A.handled = none)
    (k : ∀ s' t, Grew s s' → Q (.int ns.sum t) s') : wpAny (model prog w) A (PySem.call (.builtin "sum") [.ref l]) Q E s := by
  obtain ⟨xs, hx⟩ := iv.are.allInts.items
  have hl' : s.heap.IsList l (intItems xs) := hx ▸ isl hl
  refine PySem.wpAny_with_toks (n := s.toks) (Nat.le_refl _) (sum_intListG hh hl' fun h' tk t' hk htk => ?_)
  have e1 : ns = xs.toList.map (·.1) := by
    rw [← nums_intItems, ← hx]
    exact (show numsOf vs.toArray.toList = ns from iv.are.numsOf).symm
  have e2 : preSum (numAt xs) xs.size = ns.sum := by
    rw [preSum_eq, List.take_of_length_le (by simp), e1]
  rw [e2]
  exact k { s with heap := h', toks := tk } t' ⟨hk, htk, rfl, rfl⟩
theorem abs_up {a : Int} {t : Tok} {Q : Value → Shared → Prop} (h : ∀ u k, Q (.int (a.natAbs : Int) u) { s with toks := s.toks + k }) : wpAny (model prog w) A (PySem.call (.builtin "abs") [.int a t]) Q E s := by
  refine call_function_entry kind_abs plain_abs entry_abs (args_abs _) ?_
  unfold Builtin.«abs»
  refine wpAny_bind (m := oneArg "abs" _) (wpAny_pure ?_)
  refine wpAny_bind (m := callSpecial? (.int a t) (Str.ofString "__abs__")) (wpAny_callSpecial?_slot (name := Str.ofString "__abs__") (typeIs_int s a t) slot_int_abs
    (wpAny_call_entry slot_int_abs (typeIs_int s a t) entry_int_abs ?_ (args_int_abs _)))
  show wpAny _ _ (if a < 0 then _ else _) _ _ s
  by_cases hneg : a < 0
  · have h' := h s.toks 1
    rw [show (a.natAbs : Int) = -a by grind] at h'
    first | refine ite_yes' hneg ?_ | refine ite_yes hneg ?_ | rw [if_pos hneg]
    exact wpAny_ret_mkInt (wpAny_pure ⟨_, rfl, h'⟩)
  · have h' := h t 0
    rw [show (a.natAbs : Int) = a by lia  ] at h'
    first | refine ite_no' hneg ?_ | refine ite_no hneg ?_ | rw [if_neg hneg]
    exact wpAny_pure ⟨_, rfl, wpAny_pure ⟨_, rfl, h'⟩⟩
end
theorem IV.sub {vs : List Value} {ns : List Int} (h : IV vs ns) (i : Nat) : IV (vs.take i) (ns.take i) ∧ IV (vs.drop i) (ns.drop i) := by
  refine ⟨⟨by simp [h.len], fun j n hn => ?_⟩, ⟨by simp [h.len], fun j n hn => ?_⟩⟩
  · rw [List.getElem?_take] at hn ⊢
    split at hn
    · rename_i hj; rw [if_pos hj]; exact h.at_ j n hn
    · cases hn
  · rw [List.getElem?_drop] at hn ⊢
    exact h.at_ _ n hn
theorem FreshI.take {vs : List Value} {ns : List Int} {tk : Nat} (h : FreshI vs ns tk) (i : Nat) : FreshI (vs.take i) (ns.take i) tk := ⟨(h.iv.sub i).1, fun v hv => h.lt v (List.mem_of_mem_take hv), h.ne.sublist (List.take_sublist i vs)⟩

section
variable {H0 : Heap} {A : Around} {l : List Env} {M : List Addr} {sE : Shared} {L : Addr} {m : Str → Option Value} {led : List (Addr × Obj)} {s : Shared} {prog : Program} {w : World} {E : Value → Shared → Prop} {env : Env}
theorem Cx.sliceL (C : Cx H0 A l M sE L m led s) {value slice : Expr} {a : Addr} {vs ws : List Value} {c : Nat} {vl vu : Value} {lo hi : Option Int} {Q : Value → Shared → Prop} (hl : s.heap.get? a = some (lstO vs c)) (pl : IsPart vl lo) (pu : IsPart vu hi) (hw : slicePick vs.toArray lo hi none = ws.toArray) (hz : vs.length ≤ 1000)
    (k : ∀ D s', Cx H0 A l M sE L m ((D, lstO ws) :: led) s' → Nw H0 sE D → s.toks ≤ s'.toks → Q (.ref D) s')
    (hs : subscripted slice false (.ref a) (.ref s.heap.objs.size) = operate [.ref s.heap.objs.size, .ref a] (getItem (.ref a) (.ref s.heap.objs.size)) := by with_unfolding_all rfl)
    (ht : ∀ r, letTemporaryGo value (.ref a) r = pure () := by intro _; with_unfolding_all rfl) :
    wpAny (model prog w) A (subscriptTail value slice (.ref a) (.ref s.heap.objs.size)) Q E { s with heap := s.heap.push { cls := .type "slice", data := .fields #[vl, vu, .none] } } := by
  refine slice_listK (isl hl) pl pu ?_ hs ht (by rw [List.size_toArray, sizeLine_eq]; lia  )
  rw [hw]
  have C1 := C.push (s := s) { cls := .type "slice", data := .fields #[vl, vu, .none] } rfl nd_fields rfl
  have C2 := C1.push (lstO ws) rfl nd_seq rfl
  have hn : s.heap.get? (s.heap.objs.size + 1) = none := none_ge (Nat.le_succ _)
  have C3 : Cx H0 A l M sE L m ((s.heap.objs.size + 1, lstO ws) :: led) { s with heap := (s.heap.push { cls := .type "slice", data := .fields #[vl, vu, .none] }).push (lstO ws) } := by
    have e : (s.heap.push { cls := .type "slice", data := .fields #[vl, vu, .none] }).objs.size = s.heap.objs.size + 1 := Heap.size_push ..
    have := C2.drop ((((s.heap.push { cls := .type "slice", data := .fields #[vl, vu, .none] }).objs.size, lstO ws)) :: led) (.cons_cons _ (.cons _ (List.Sublist.refl _)))
    rw [e] at this
    exact this
  exact k _ _ C3 (C.noE hn) (Nat.le_refl _)
end
end Mine
end
section
set_option maxRecDepth 100000
set_option autoImplicit false
set_option genInjectivity false
set_option genSizeOf false
namespace Mine
open PySem PySem.W PySem.Calls PyProof.Rows PySem.Spec
noncomputable abbrev lE (L lf cL : Addr) : Env := envOfC "law" dLaw.2.2 L lf (.ref cL)
structure Ctx2 (K : Frag) (a : Adr) (H0 : Heap) (mg mb : Str → Option Value) (rf cR PR lf cL PL : Addr) : Prop extends Ctx1 K a H0 mg mb rf cR PR where
  FL : FnC K lf "law" dLaw cL PL
  hL : H0.get? PL = none
  nR : nsIn K mainGlobals "_law_right" = some (some (.ref rf))
  kR : keepIn K (.ref rf) = true
theorem FreshI.olds {vs : List Value} {ns : List Int} {tk : Nat} (h : FreshI vs ns tk) : Olds vs tk := ⟨h.lt, h.ne⟩
structure RowP (xs : List Value) (W : List Addr) (D : Addr) (i : Nat) (acc : List Value) (s : Shared) : Prop where
  ex : ∃ (rs : List Addr) (ps : List Value), acc = refA rs ∧ rs.length = i ∧ RowsAt s.heap rs ps (xs.take i) ∧ ∀ b ∈ rs, b ∉ D :: W
section
variable {K : Frag} {a : Adr} {H0 : Heap} {mg mb : Str → Option Value} {rf cR PR lf cL PL : Addr} {A : Around} {l : List Env} {s : Shared} {prog : Program} {w : World}
set_option maxHeartbeats 4000000 in
theorem law_head (X : Ctx2 K a H0 mg mb rf cR PR lf cL PL) (S : St H0 A l s) {sl : Addr} {vs : List Value} {c0 : Nat} {ns : List Int} (hs : Okk s.heap (sl, lstO vs c0)) (fr : FreshI vs ns s.toks) (hlen : ns.length ≤ 63) (hPR : Okk s.heap (PR, tabObj #[])) (hPL : Okk s.heap (PL, tabObj #[])) (hne : PL ≠ PR) (hroom : A.depth + 20 < recursionLimit) (hh : A.handled = none) {R : Result → Shared → Prop}
    (k : ∀ L rl rs ps dl ep cd T tT m s1, Cx H0 (A.deeper (lE L lf cL)) (lE L lf cL :: l) [PL, PR] s L m [(rl, lstO (refA rs) ep), (dl, lstO (vs.take 20) cd), (L + 1, cellO (some (.int T tT))), (PL, tabObj #[]), (PR, tabObj #[])] s1 → m "rows" = some (.ref rl) → m "script" = some (.ref dl) → RowsAt s1.heap rs ps (vs.take 20) → T.natAbs ≤ 2 ^ 40 →
      Nw H0 s (L + 1) →
      wpAny (model prog w) (A.deeper (lE L lf cL)) (execs (dLaw.2.1.drop 4) (lE L lf cL)) (qRet R) (eOut prog w (A.deeper (lE L lf cL)) (lE L lf cL) R) s1) :
    codeAny (model prog w) A (.call (.ref lf) ⟨[.ref sl], []⟩) R s := by
  have hlv : vs.length = ns.length := fr.iv.len
  have hn1 : sl ≠ PL := ne_data hs.at_ hPL.at_ (fun q => by cases q)
  have hn2 : sl ≠ PR := ne_data hs.at_ hPR.at_ (fun q => by cases q)
  refine enterCC X.G S X.FL [PL, PR] (by omega) (by intro n; show ([Str.ofString "twice"] : List Str).Nodup; decide) fun name doc pm an ct E' => wpAny_of_eq (a := [(Str.ofString "script", .ref sl)]) rfl ⟨fun _ _ h => h, Nat.le_refl _, rfl, rfl, fun n x hx => ?_, [(PL, tabObj #[]), (PR, tabObj #[]), (sl, lstO vs c0)], fun p hp => ?_, by simp [hne, Ne.symm hn1, Ne.symm hn2], fun L s1 hL C hnw => ?_⟩
  · rw [List.mem_singleton.mp hx]; exact .inl rfl
  · simp only [List.mem_cons, List.not_mem_nil, or_false] at hp
    rcases hp with rfl | rfl | rfl
    · exact hPL
    · exact hPR
    · exact hs
  have hh' : (A.deeper (lE L lf cL)).handled = none := hh
  have nw1 := hnw (Str.ofString "twice", L + 1) (.head _)
  have C0 : Cx H0 (A.deeper (lE L lf cL)) (lE L lf cL :: l) [PL, PR] s L (updM (fun _ => none) "script" (.ref sl)) [(L + 1, cellO none), (PL, tabObj #[]), (PR, tabObj #[]), (sl, lstO vs c0)] s1 := C
  refine wpAny_execs_cons (wpAny_Assign_Name (Subscript_ (C0.nameE rfl (wpAny_Slice ?_))))
  refine wpAny_pure ?_
  show wpAny _ _ (eval _ _) _ _ _
  refine wpAny_Constant_int (wpAny_pure ?_)
  refine (C0.tok 1).sliceL (ws := vs.take 20) (C0.at 3 rfl) .none (.int _ _) (slicePick_upto' _ 20) (by omega) fun dl s2 C2 n2 t2 => ?_
  refine C2.setE fun s3 C3 => ?_
  have hdl := C3.at 0 rfl
  have hxl : (vs.take 20).length ≤ 20 := List.length_take_le _ _
  refine wpAny_execs_cons (C3.compA (P := RowP (vs.take 20) [s3.heap.objs.size + 1, s3.heap.objs.size]) (cl := []) rfl rfl (by decide) rfl (by decide) rfl rfl rfl ?_)
  refine Call_ (C3.bootE X.G X.F.nenum Boot.«enumerate» (PyProof.Rows.callWith_type1 (args_cons (C3.nameE rfl (args_nil (call_enumerate_list (isl hdl) fun h' b1 b2 b3 hk => ?_))))))
  refine wpAny_pyIter_enum (s := { s3 with heap := h' }) b1 ?_
  have n0 : ∀ {b : Addr}, s3.heap.objs.size ≤ b → s3.heap.get? b = none := fun hb => none_ge hb
  have wr : ∀ b ∈ [s3.heap.objs.size + 1, s3.heap.objs.size], s3.heap.get? b = none := fun b hb => by
    simp only [List.mem_cons, List.not_mem_nil, or_false] at hb
    rcases hb with rfl | rfl
    · exact n0 (Nat.le_add_right _ 1)
    · exact n0 (Nat.le_refl _)
  have dne : ∀ b ∈ [s3.heap.objs.size + 1, s3.heap.objs.size], dl ≠ b := fun b hb q => by
    have := wr b hb
    rw [← q, hdl] at this; cases this
  have hdl' := hk _ _ hdl
  refine ⟨[s3.heap.objs.size + 1, s3.heap.objs.size], [s3.heap.objs.size + 1, s3.heap.objs.size, dl], (vs.take 20).length, _, _, Go.ext (s' := { s3 with heap := h' }) hk (Nat.le_refl _) rfl rfl _, by omega, ⟨⟨_, b1⟩, b2, hdl'⟩, fun D => ⟨[], [], rfl, rfl, RowsAt.nil, fun b hb => nomatch hb⟩, wr, fun p hp => ?_, fun D i acc s s' V kp => ?_, fun s Q' E' hz hq => ?_, fun Cc nC => feedEnum (a := dl) (ep := 0) hh' (by decide) ⟨rfl, rfl, rfl, rfl⟩ (C3.noE (wr _ (.head _))).h (wr _ (.head _)) (C3.noE (wr _ (.tail _ (.head _)))).h (wr _ (.tail _ (.head _))) (Nat.succ_ne_self _) (dne _ (.head _)) (dne _ (.tail _ (.head _))) (fun e he p hp q => ?_) (fun q => ?_), fun D Cc nD hD => ?_, fun D acc c3 s' s5 C' V k5 nD => ?_⟩
  · have hp' : p = s3.heap.objs.size + 1 ∨ p = s3.heap.objs.size ∨ p = dl := by
      simp only [List.mem_cons, List.not_mem_nil, or_false] at hp
      rcases hp with (h | h | h) | (h | h) <;> simp [h]
    obtain ⟨o, ho, _⟩ := b2
    rcases hp' with rfl | rfl | rfl
    · exact ⟨_, b1⟩
    · exact ⟨_, ho⟩
    · exact ⟨_, hdl'⟩
  · obtain ⟨rs, ps, e1, e2, e3, e4⟩ := V.ex
    exact ⟨rs, ps, e1, e2, e3.kept kp e4, e4⟩
  · obtain ⟨⟨old, he⟩, _⟩ := hz
    exact wpAny_pyIter_enum he hq
  · obtain ⟨_, L', o, es, n, h1, h2, h3, h4⟩ := C3.st.fr e he
    rw [h1] at q; cases q; rw [wr _ hp] at h3; cases h3
  · obtain ⟨o, ho, _⟩ := b2
    simp only [List.mem_cons, List.not_mem_nil, or_false] at q
    rcases q with rfl | rfl
    · have := Eq.trans (Eq.symm b1) nC; cases this
    · have := Eq.trans (Eq.symm ho) nC; cases this
  · intro i acc c3 mC s E3 hi V hB hW CT
    obtain ⟨rs, ps, rfl, e2, e3, e4⟩ := V.ex
    obtain ⟨t, v, hv, hm1, hm2⟩ := hB
    rw [List.forIn_nil]
    refine wpAny_pure ?_
    refine ite_yes' rfl ?_
    refine Tuple_ (args_cons (CT.nameE hm1 (args_cons (CT.nameE hm2 (args_nil ?_)))))
    refine PySem.wpAny_newTuple ?_ (by rw [sizeLine_eq]; show 2 ≤ _; decide)
    have g4 : Go H0 [] s { s with heap := s.heap.push (tupO [.int i t, v]) } := Go.push _
    have nb : s.heap.get? s.heap.objs.size = none := not_at
    have hb4 : (s.heap.push (tupO [.int i t, v])).get? s.heap.objs.size = some (tupO [.int i t, v]) := Heap.get?_push_size _ rfl
    refine ⟨g4, fun kD => ?_⟩
    have hbD : ∀ b' ∈ rs ++ [s.heap.objs.size], b' ∉ D :: [s3.heap.objs.size + 1, s3.heap.objs.size] := fun b' hb' => by
      rcases List.mem_append.mp hb' with hb' | hb'
      · exact e4 b' hb'
      · rw [List.mem_singleton.mp hb']
        intro q
        rcases List.mem_cons.mp q with q | q
        · have h := CT.at 0 rfl
          rw [← q, nb] at h; cases h
        · obtain ⟨o, h⟩ := hW _ q
          rw [nb] at h; cases h
    refine ⟨rs ++ [s.heap.objs.size], ps ++ [.int i t], by simp [refA], by simp [e2], ?_, hbD⟩
    rw [take_succ' hv]
    exact (((e3.go g4 fun p hp => nomatch hp).snoc hb4).kept kD fun b' hb' q => hbD b' hb' (by rw [List.mem_singleton.mp q]; exact .head _))
  · obtain ⟨rs, ps, rfl, e2, e3, e4⟩ := V.ex
    rw [List.take_length] at e3
    have e3' : RowsAt s'.heap rs ps (vs.take 20) := e3.kept k5 fun r _ h => nomatch h
    have ivx : IV (vs.take 20) (ns.take 20) := (fr.iv.sub 20).1
    refine wpAny_execs_cons (wpAny_Assign_Name (Call_ (C'.bootE X.G X.F.nsum Boot.«sum» (PyProof.Rows.callWith_builtin1 (args_cons (C'.nameE rfl (args_nil (sumL (C'.at 1 rfl) ivx hh' fun s6 t6 g6 => ?_))))))))
    have C6 := C'.ext g6.keep g6.toks g6.gens g6.os
    have e6 : RowsAt s6.heap rs ps (vs.take 20) := e3'.go (g6.go H0 []) fun p hp => nomatch hp
    have rsne : ∀ p ∈ [L + 1], p ∉ rs := fun p hp q => by
      rw [List.mem_singleton.mp hp] at q
      obtain ⟨j, hj⟩ := List.mem_iff_getElem?.mp q
      obtain ⟨_, _, _, _, h⟩ := e6.get hj
      have h2 := congrArg (fun o : Option Obj => o.map (·.cls)) ((C6.at 2 rfl).symm.trans h)
      simp at h2
    have CC := C6.rebase.mono (M' := [L + 1]) fun p hp => nomatch hp
    have eW : RowsAt (wiped s6 L).heap rs ps (vs.take 20) := ⟨e6.lp, e6.lx, fun j r p x h1 h2 h3 => (wiped_of (C6.neL (p := (r, tupO [p, x])) (okk_tup (e6.at_ j r p x h1 h2 h3)))).trans (e6.at_ j r p x h1 h2 h3)⟩
    have un : ∀ {m' : Str → Option Value} {led' : List (Addr × Obj)} {s' : Shared}, Cx H0 (A.deeper (lE L lf cL)) (lE L lf cL :: l) [L + 1] (wiped s6 L) L m' led' s' → Cx H0 (A.deeper (lE L lf cL)) (lE L lf cL :: l) [PL, PR] s L m' led' s' := fun C'' => C6.unbaseM C'' fun p hp => by rw [List.mem_singleton.mp hp]; exact .inr nw1.e
    refine CC.setCell 2 rfl rfl (.inl (by simp)) nw1.h fun s7 C7 => ?_
    refine wpAny_execs_cons (wpAny_If (wpAny_isTrue_Compare1 (Call_ (C7.bootE X.G X.F.nabs Boot.«abs» (PyProof.Rows.callWith_builtin1 (args_cons (C7.ldCell 2 rfl rfl (args_nil (abs_up fun u kk => ?_)))))))))
    have C8 := C7.tok kk
    refine wpAny_BinOp (wpAny_Constant_int (wpAny_Constant_int (pow_int_small (by decide) (by decide) (by decide) ?_)))
    have C9 := C8.tok 3
    refine PySem.P.ge_int (wpAny_truthy_bool ?_)
    by_cases hbig : (((ns.take 20).sum.natAbs : Int) ≥ 2 ^ (40 : Int).toNat)
    · refine ite_yes' (by simpa using hbig) ?_
      refine wpAny_execs_cons (wpAny_Assign_Name (wpAny_BinOp (C9.ldCell 2 rfl rfl (wpAny_BinOp (wpAny_Constant_int (wpAny_Constant_int (pow_int_small (by decide) (by decide) (by decide) (PyProof.Rows.mod_int (by decide) ?_))))))))
      have C10 := C9.tok 4
      refine C10.setCell 2 rfl rfl (.inl (by simp)) nw1.h fun s11 C11 => wpAny_execs_nil ?_
      refine k L D rs ps dl c3 _ _ _ _ s11 ((un C11).drop _ (.cons_cons _ (.cons_cons _ (.cons_cons _ (.cons_cons _ (.cons_cons _ (List.nil_sublist _))))))) rfl rfl (eW.cx C11 rsne) ?_ nw1
      have h1 := Int.fmod_nonneg_of_pos (ns.take 20).sum (show (0 : Int) < 2 ^ (40 : Int).toNat by decide)
      have h2 := Int.fmod_lt_of_pos (ns.take 20).sum (show (0 : Int) < 2 ^ (40 : Int).toNat by decide)
      have h3 : (2 : Int) ^ (40 : Int).toNat = 2 ^ 40 := rfl
      omega
    · refine ite_no' (by simpa using hbig) (wpAny_execs_nil ?_)
      refine k L D rs ps dl c3 _ _ _ _ _ ((un C9).drop _ (.cons_cons _ (.cons_cons _ (.cons_cons _ (.cons_cons _ (.cons_cons _ (List.nil_sublist _))))))) rfl rfl (eW.cx C9 rsne) ?_ nw1
      have h3 : (2 : Int) ^ (40 : Int).toNat = 2 ^ 40 := rfl
      omega
end
end Mine
end
section
set_option maxRecDepth 100000
set_option autoImplicit false
set_option genInjectivity false
set_option genSizeOf false
namespace Mine
open PySem PySem.W PySem.Calls PyProof.Rows PySem.Spec
theorem code_no {h : Heap} {c P : Addr} {q : Str} {o : Obj} (hc : h.CodeRec (.ref c) q) (hP : h.get? P = some o) (hn : ∀ vs x t, o.data = .fields vs → vs[1]? ≠ some (.str x t)) : c ≠ P := fun e => by
  obtain ⟨c2, oc, vs, t, e2, h1, h2, h3⟩ := hc
  cases e2
  rw [e, hP] at h1; cases h1
  exact hn _ _ _ h2 h3
theorem PartK.no {PR : Addr} {s : Shared} {ps : Array Value} (h : PartK PR s ps) : ∀ vs x t, (tabObj ps).data = .fields vs → vs[1]? ≠ some (.str x t) := fun vs x t e q => by
  cases e
  rcases h.2 with rfl | ⟨kc, rfl, _⟩ <;> cases q
theorem PartK.keep {H0 : Heap} {A : Around} {l : List Env} {M : List Addr} {L : Addr} {m : Str → Option Value} {led : List (Addr × Obj)} {s s' : Shared} {PR : Addr} {pp : Array Value} {j : Nat} (PK : PartK PR s pp) (hL : ∃ o es n, s.heap.get? L = some o ∧ o.data = .dict es n) (C : Cx H0 A l M (wiped s L) L m led s') (hj : led[j]? = some (PR, tabObj pp)) (hM : ∀ p ∈ M, p ≠ PR → ∃ o, s.heap.get? p = some o ∧ ∀ vs x t, o.data = .fields vs → vs[1]? ≠ some (.str x t)) : PartK PR s' pp := by
  refine ⟨C.ok j hj, ?_⟩
  rcases PK.2 with h | ⟨kc, h, hc⟩
  · exact .inl h
  · refine .inr ⟨kc, h, C.code (code_wiped hc hL) fun q => ?_⟩
    have hne := code_no hc PK.1.at_ PK.no
    obtain ⟨o, h1, h2⟩ := hM kc q hne
    exact code_no hc h1 h2 rfl
theorem itO_no (lst : Addr) (i : Nat) : ∀ (vs : Array Value) (x : Str) (t : Tok), (itO lst i).data = .fields vs → vs[1]? ≠ some (.str x t) := fun vs x t e q => by
  cases e; cases q
section
variable {K : Frag} {a : Adr} {H0 : Heap} {mg mb : Str → Option Value} {rf cR PR lf cL PL : Addr} {A : Around} {l : List Env} {prog : Program} {w : World} {κ : KeyOps} {Z : KeyZ κ} {g : Int → Int}
noncomputable def innerS : Stmt := (forB (dLaw.2.1.getD 4 (.Pass default))).getD 0 (.Pass default)
structure InnI (H0 : Heap) (A : Around) (l : List Env) (M : List Addr) (sE : Shared) (L IT tl : Addr) (jP : Nat) (PR : Addr) (m0 : Str → Option Value) (led : List (Addr × Obj)) (ct : Nat) (n : Nat) (s : Shared) : Prop where
  ex : ∃ (i : Nat) (m : Str → Option Value) (pp : Array Value), n = 2 + 1 - i ∧ i ≤ 2 ∧ (∀ x, x ≠ Str.ofString "turned" → m x = m0 x) ∧ PartK PR s pp ∧ Cx H0 A l M sE L m ((IT, itO tl i) :: (tl, lstO [.bool false, .bool true] ct) :: led.set jP (PR, tabObj pp)) s
theorem set_get {led : List (Addr × Obj)} {j k : Nat} {p q : Addr × Obj} (h : led[k]? = some q) (hjk : j ≠ k) : (led.set j p)[k]? = some q := by
  rw [List.getElem?_set, if_neg hjk]; exact h
theorem set_self {led : List (Addr × Obj)} {j : Nat} {p q : Addr × Obj} (h : led[j]? = some q) : (led.set j p)[j]? = some p := by
  rw [List.getElem?_set, if_pos rfl, if_pos (List.getElem?_eq_some_iff.mp h).1]
set_option maxHeartbeats 4000000 in
theorem law_inner (X : Ctx2 K a H0 mg mb rf cR PR lf cL PL) (CMP : CmpK Z) {f fc : Addr} {fo : Obj} (FK : FindK prog w H0 Z g f fc fo lamQ) {rl : Addr} {rs : List Addr} {ps xs : List Value} {ns : List Int} {ep t0 jr jP jc jf : Nat} {T : Int} {tT : Tok} {pp : Array Value} {L : Addr} {s1 sW : Shared} {m : Str → Option Value} {M : List Addr} {led : List (Addr × Obj)}
    (C : Cx H0 (A.deeper (lE L lf cL)) (lE L lf cL :: l) M sW L m led s1) (hPM : PR ∈ M) (hM : ∀ p ∈ M, p ∉ rs ∧ p ≠ fc) (jr' : led[jr]? = some (rl, lstO (refA rs) ep)) (jP' : led[jP]? = some (PR, tabObj pp)) (jc' : led[jc]? = some (L + 1, cellO (some (.int T tT)))) (jf' : led[jf]? = some (f, fo)) (hne : jP ≠ jr ∧ jP ≠ jc ∧ jP ≠ jf)
    (hmr : m "rows" = some (.ref rl)) (hmf : m "find" = some (.ref f)) (hfc : sW.heap.CodeRec (.ref fc) lamQ) (ra : RowsAt sW.heap rs ps xs) (PK : PartK PR s1 pp) (iv : IV xs ns) (O : Olds xs t0) (ht0 : t0 ≤ sW.toks) (hn : rs.length ≤ 20) (hT : T.natAbs ≤ 2 ^ 40) (hroom : A.depth + 20 < recursionLimit) (hh : A.handled = none) (hu : A.units + 50 < cLine)
    {Q : Flow → Shared → Prop} {E : Value → Shared → Prop}
    (k : ∀ m' s' pp', Cx H0 (A.deeper (lE L lf cL)) (lE L lf cL :: l) M sW L m' (led.set jP (PR, tabObj pp')) s' → PartK PR s' pp' → (∀ x, x ≠ Str.ofString "turned" → m' x = m x) → Q .next s') :
    wpAny (model prog w) (A.deeper (lE L lf cL)) (exec innerS (lE L lf cL)) Q E s1 := by
  have CB := C.rebase.mono (M' := [PR]) fun p hp => nomatch hp
  have hfc1 := C.code hfc fun q => (hM fc q).2 rfl
  have ra1 := ra.cx C fun p hp => (hM p hp).1
  have hPrs : PR ∉ rs := (hM PR hPM).1
  have raW : RowsAt (wiped s1 L).heap rs ps xs := ⟨ra1.lp, ra1.lx, fun j r p x h1 h2 h3 => (wiped_of (C.neL (p := (r, tupO [p, x])) (okk_tup (ra1.at_ j r p x h1 h2 h3)))).trans (ra1.at_ j r p x h1 h2 h3)⟩
  have hfcP : fc ≠ PR := fun e => (hM PR hPM).2 e.symm
  refine wpAny_For (lst_made (args_cons (wpAny_Constant_bool (args_cons (wpAny_Constant_bool (args_nil ⟨H0, _, _, _, wiped s1 L, L, _, _, CB, by rw [sizeLine_eq]; show 2 ≤ _; decide, fun tl s2 C2 ntl ntl' => ?_⟩))))))
  refine wpAny_pyIter_list (isl (C2.at 0 rfl)) ?_
  have PK2 : PartK PR s2 pp := PK.keep C.dictL C2 (j := jP + 1) jP' fun p hp hne => absurd (List.mem_singleton.mp hp) hne
  have nI := C2.noE (a := s2.heap.objs.size) not_at
  have C3 := C2.push (itO tl 0) rfl nd_fields rfl
  have PK3 : PartK PR { s2 with heap := s2.heap.push (itO tl 0) } pp := by
    refine ⟨C3.ok (jP + 2) jP', ?_⟩
    rcases PK2.2 with h | ⟨kc, h, hc⟩
    · exact .inl h
    · obtain ⟨c2, oc, vs, t, e2, h1, h2, h3⟩ := hc
      exact .inr ⟨kc, h, c2, oc, vs, t, e2, Heap.get?_push_of_some _ h1, h2, h3⟩
  generalize hIe : s2.heap.objs.size = IT at *
  have hset : led.set jP (PR, tabObj pp) = led := by
    apply List.ext_getElem?
    intro i
    rw [List.getElem?_set]
    split
    · rename_i e
      subst e
      rw [if_pos (List.getElem?_eq_some_iff.mp jP').1, jP']
    · rfl
  refine codeAny_forLoop_any (InnI H0 (A.deeper (lE L lf cL)) (lE L lf cL :: l) [PR] (wiped s1 L) L IT tl jP PR m led 0) (fun n s V => ?_) (2 + 1) ⟨0, m, pp, rfl, Nat.zero_le _, fun _ _ => rfl, PK3, by rw [hset]; exact C3⟩
  obtain ⟨i, m1, pp1, rfl, hi, hm1, PK4, C4⟩ := V
  have hITPR : IT ≠ PR := fun e => by
    have h2 := congrArg (fun o : Option Obj => o.map (·.cls)) ((C4.at 0 rfl).symm.trans (show s.heap.get? IT = some (tabObj pp1) by rw [e]; exact PK4.1.at_))
    simp at h2
  have hITrs : ∀ p ∈ [PR, IT], p ∉ rs := fun p hp q => by
    simp only [List.mem_cons, List.not_mem_nil, or_false] at hp
    rcases hp with rfl | rfl
    · exact hPrs q
    · obtain ⟨j, hj⟩ := List.mem_iff_getElem?.mp q
      obtain ⟨_, _, _, _, h⟩ := raW.get hj
      rw [nI.e] at h; cases h
  have C5 := C4.rebase.mono (M' := [PR, IT]) fun p hp => nomatch hp
  have un : ∀ {m' : Str → Option Value} {led' : List (Addr × Obj)} {s' : Shared}, Cx H0 (A.deeper (lE L lf cL)) (lE L lf cL :: l) [PR, IT] (wiped s L) L m' led' s' → Cx H0 (A.deeper (lE L lf cL)) (lE L lf cL :: l) [PR] (wiped s1 L) L m' led' s' := fun C'' => C4.unbaseM C'' fun p hp => by
    simp only [List.mem_cons, List.not_mem_nil, or_false] at hp
    rcases hp with rfl | rfl
    · exact .inl (by simp)
    · exact .inr nI.e
  have hMK : ∀ p ∈ [PR, IT], p ≠ PR → ∃ o, s.heap.get? p = some o ∧ ∀ vs x t, o.data = .fields vs → vs[1]? ≠ some (.str x t) := fun p hp hne => by
    simp only [List.mem_cons, List.not_mem_nil, or_false] at hp
    rcases hp with rfl | rfl
    · exact absurd rfl hne
    · exact ⟨_, C4.at 0 rfl, itO_no _ _⟩
  by_cases hlt : i < 2
  · obtain ⟨tv, htv⟩ : ∃ tv : Bool, ([Value.bool false, Value.bool true] : List Value)[i]? = some (.bool tv) := by
      have : i = 0 ∨ i = 1 := by omega
      rcases this with rfl | rfl
      · exact ⟨false, rfl⟩
      · exact ⟨true, rfl⟩
    refine pyNext_item (C5.at 0 rfl) (C5.at 1 rfl) htv ?_
    have C6 := C5.upd 0 (f := Obj.mapFields (·.setIfInBounds 1 (rawInt ((i : Int) + 1)))) rfl rfl nd_fields rfl (.inl (by simp)) nI.h
    have C6' : Cx H0 (A.deeper (lE L lf cL)) (lE L lf cL :: l) [PR, IT] (wiped s L) L m1 ((IT, itO tl (i + 1)) :: (tl, lstO [.bool false, .bool true]) :: led.set jP (PR, tabObj pp1)) _ := C6
    refine wpAny_pure ?_
    refine PySem.wpAny_assign_Name (C6'.setE fun s7 C7 => ?_)
    have hjP := set_self (p := (PR, tabObj pp1)) jP'
    have PK7 := PK4.keep C4.dictL C7 (j := jP + 2) hjP hMK
    have g7 := (un C7).go
    have hfc7 : s7.heap.CodeRec (.ref fc) lamQ := (un C7).code (code_wiped hfc1 C.dictL) fun q => hfcP (List.mem_singleton.mp q)
    have ra7 := raW.cx (un C7) fun p hp => by rw [List.mem_singleton.mp hp]; exact hPrs
    have hmr7 : (updM m1 "turned" (.bool tv)) "rows" = some (.ref rl) := (hm1 (Str.ofString "rows") (by decide)).trans hmr
    have hmf7 : (updM m1 "turned" (.bool tv)) "find" = some (.ref f) := (hm1 (Str.ofString "find") (by decide)).trans hmf
    have jr2 := set_get (p := (PR, tabObj pp1)) jr' hne.1
    have jc2 := set_get (p := (PR, tabObj pp1)) jc' hne.2.1
    have jf2 := set_get (p := (PR, tabObj pp1)) jf' hne.2.2
    refine wpAny_execs_cons (wpAny_If (wpAny_isTrue_Not (wpAny_isTrue_value (Call_ (C7.globalE X.G X.nR (callWith_K (C7.st.X X.G) X.kR (args_cons (C7.nameE hmr7 (args_cons (C7.nameE hmf7 (args_cons (C7.ldCell (jc + 2) jc2 rfl (args_cons (C7.nameE (v := .bool tv) rfl (args_nil ⟨C7.st.X X.G, wpAny_call ?_⟩)))))))))))))))
    refine right_spec X.toCtx1 CMP C7.st FK (C7.ok (jf + 2) jf2) hfc7 (C7.ok (jr + 2) jr2) ra7 iv O ?_ hn hT PK7 (by show A.depth + 1 + 8 < _; omega) hh (by show A.units + 3 + 10 < _; omega) fun s8 pp' g8 PK8 => ?_
    · exact Nat.le_trans ht0 (Nat.le_trans C.go.toks (un C7).go.toks)
    have C8 := C7.callAt (jP + 2) hjP g8 PK8.1 (.inl (by simp)) (by intro q; cases q)
    refine wpAny_truthy_bool ?_
    refine ite_no' rfl (wpAny_execs_nil (wpAny_execs_nil ?_))
    refine ⟨2 + 1 - (i + 1), by omega, i + 1, updM m1 "turned" (.bool tv), pp', rfl, hlt, fun x hx => ?_, PK8, ?_⟩
    · show (if x = Str.ofString "turned" then _ else m1 x) = m x
      rw [if_neg hx]; exact hm1 x hx
    · have := un C8
      have e : ((IT, itO tl (i + 1)) :: (tl, lstO [.bool false, .bool true]) :: led.set jP (PR, tabObj pp1)).set (jP + 2) (PR, tabObj pp') = (IT, itO tl (i + 1)) :: (tl, lstO [.bool false, .bool true]) :: led.set jP (PR, tabObj pp') := by
        show _ :: _ :: (led.set jP _).set jP _ = _
        rw [List.set_set]
      rw [e] at this
      exact this
  · have hin : i = 2 := by omega
    subst hin
    refine pyNext_end hh (C5.at 0 rfl) (C5.at 1 rfl) rfl fun h' e hm => ?_
    have C6 := C5.upd 0 (f := Obj.mapFields (·.setIfInBounds 0 .none)) rfl rfl nd_fields rfl (.inl (by simp)) nI.h
    have C7 := C6.call (made_go (H0 := H0) (M := []) (s := { s with heap := s.heap.update IT (Obj.mapFields (·.setIfInBounds 0 .none)) }) hm)
    have hjP := set_self (p := (PR, tabObj pp1)) jP'
    have PK7 := PK4.keep C4.dictL C7 (j := jP + 2) hjP hMK
    refine wpAny_execs_nil ?_
    have C8 := C.unbaseM (un C7) fun p hp => by rw [List.mem_singleton.mp hp]; exact .inl hPM
    exact k m1 _ pp1 (C8.drop _ (.cons _ (.cons _ (List.Sublist.refl _)))) PK7 hm1
end
end Mine
end
section
set_option maxRecDepth 100000
set_option autoImplicit false
set_option genInjectivity false
set_option genSizeOf false
namespace Mine
open PySem PySem.W PySem.Calls PyProof.Rows PySem.Spec
theorem RowsAt.wip {H0 : Heap} {A : Around} {l : List Env} {M : List Addr} {sE : Shared} {L : Addr} {m : Str → Option Value} {led : List (Addr × Obj)} {s : Shared} {rs : List Addr} {ps xs : List Value} (R : RowsAt s.heap rs ps xs) (C : Cx H0 A l M sE L m led s) : RowsAt (wiped s L).heap rs ps xs :=
  ⟨R.lp, R.lx, fun j r p x h1 h2 h3 => (wiped_of (C.neL (p := (r, tupO [p, x])) (okk_tup (R.at_ j r p x h1 h2 h3)))).trans (R.at_ j r p x h1 h2 h3)⟩
theorem RowsAt.not {h : Heap} {rs : List Addr} {ps xs : List Value} (R : RowsAt h rs ps xs) {a : Addr} {o : Obj} (ha : h.get? a = some o) (hc : o.cls ≠ .type "tuple") : a ∉ rs := fun q => by
  obtain ⟨j, hj⟩ := List.mem_iff_getElem?.mp q
  obtain ⟨_, _, _, _, h'⟩ := R.get hj
  rw [ha] at h'
  exact hc (congrArg Obj.cls (Option.some.inj h'))
noncomputable abbrev UnB (H0 : Heap) (A : Around) (l : List Env) (M : List Addr) (W sW : Shared) (L : Addr) : Prop := ∀ {m' : Str → Option Value} {led' : List (Addr × Obj)} {s' : Shared}, Cx H0 A l M W L m' led' s' → Cx H0 A l M sW L m' led' s'
section
variable {K : Frag} {a : Adr} {H0 : Heap} {mg mb : Str → Option Value} {rf cR PR lf cL PL : Addr} {A : Around} {l : List Env} {prog : Program} {w : World}
noncomputable abbrev pL2 (c1 c2 : Addr) : Array Value := #[rawInt 198, rawInt 0, .ref c1, rawInt 199, rawInt 0, .ref c2]
theorem lam_pos2 (c1 : Addr) : codeAmong ⟨199, 0, 199, 31⟩ [rawInt 198, rawInt 0, .ref c1] = none := rfl
set_option maxHeartbeats 4000000 in
theorem law_finds (X : Ctx2 K a H0 mg mb rf cR PR lf cL PL) {rl dl : Addr} {rs : List Addr} {ps xs vs : List Value} {ep cd : Nat} {T : Int} {tT : Tok} {L : Addr} {s1 sW : Shared} {m : Str → Option Value}
    (C : Cx H0 (A.deeper (lE L lf cL)) (lE L lf cL :: l) [PL, PR] sW L m [(rl, lstO (refA rs) ep), (dl, lstO vs cd), (L + 1, cellO (some (.int T tT))), (PL, tabObj #[]), (PR, tabObj #[])] s1) (ra : RowsAt s1.heap rs ps xs)
    {Q : Value → Shared → Prop} {E : Value → Shared → Prop}
    (k : ∀ fl f1 c1 pm1 ct1 f2 c2 pm2 ct2 s2 s3, Cx H0 (A.deeper (lE L lf cL)) (lE L lf cL :: l) [PL, PR] (wiped s2 L) L m [(fl, lstO [.ref f1, .ref f2]), (f2, lamO lam2 pm2 c2 ct2), (f1, lamO lam1 pm1 c1 ct1), (rl, lstO (refA rs) ep), (dl, lstO vs cd), (L + 1, cellO (some (.int T tT))), (PL, tabObj (pL2 c1 c2)), (PR, tabObj #[])] s3 →
      (wiped s2 L).heap.CodeRec (.ref c1) lamQ → (wiped s2 L).heap.CodeRec (.ref c2) lamQ → c1 ∉ [PL, PR] → c2 ∉ [PL, PR] → RowsAt (wiped s2 L).heap rs ps xs → s1.toks ≤ s2.toks → UnB H0 (A.deeper (lE L lf cL)) (lE L lf cL :: l) [PL, PR] (wiped s2 L) sW L → Q (.ref fl) s3) :
    wpAny (model prog w) (A.deeper (lE L lf cL)) (eval (forE (dLaw.2.1.getD 4 (.Pass default))) (lE L lf cL)) Q E s1 := by
  have CB := C.rebase.mono (M' := [PL, PR]) fun p hp => nomatch hp
  have hPL : PL ∉ rs := ra.not (C.at 3 rfl) (by decide)
  have hPR : PR ∉ rs := ra.not (C.at 4 rfl) (by decide)
  have hPs : ∀ p ∈ [PL, PR], p ∉ rs := fun p hp => by
    simp only [List.mem_cons, List.not_mem_nil, or_false] at hp
    rcases hp with rfl | rfl
    · exact hPL
    · exact hPR
  refine lst_made (args_cons (CB.lamNew X.G X.B 3 rfl (.inl (by simp)) X.hL rfl rfl rfl (X.FL.hd _ (CB.st.X X.G)) trivial rfl rfl fun f1 c1 pm1 ct1 s2 C2 n1 n1' nc1 hrec1 => ?_))
  have C2b := C2.rebase.mono (M' := [PL, PR]) fun p hp => nomatch hp
  refine args_cons (C2b.lamNew X.G X.B 4 rfl (.inl (by simp)) X.hL rfl rfl rfl (X.FL.hd _ (C2b.st.X X.G)) trivial (lam_pos2 c1) rfl fun f2 c2 pm2 ct2 s3 C3 n2 n2' nc2 hrec2 => ?_)
  have hc1 : c1 ∉ [PL, PR] := fun q => by
    simp only [List.mem_cons, List.not_mem_nil, or_false] at q
    rcases q with e | e
    · exact code_no hrec1 (C2.at 4 rfl) (fun vs x t e q => by cases e; cases q) e
    · exact code_no hrec1 (C2.at 5 rfl) (fun vs x t e q => by cases e; cases q) e
  have hc2 : c2 ∉ [PL, PR] := fun q => by
    simp only [List.mem_cons, List.not_mem_nil, or_false] at q
    rcases q with e | e
    · exact code_no hrec2 (C3.at 5 rfl) (fun vs x t e q => by cases e; cases q) e
    · exact code_no hrec2 (C3.at 6 rfl) (fun vs x t e q => by cases e; cases q) e
  have hrec1' := C3.code (code_wiped hrec1 C2.dictL) hc1
  have ra2 := (ra.wip C).cx C2 hPs
  have ra3 := (ra2.wip C2).cx C3 hPs
  have C3b := C3.rebase.mono (M' := [PL, PR]) fun p hp => nomatch hp
  refine args_nil ⟨H0, _, _, _, wiped s3 L, L, _, _, C3b, by rw [sizeLine_eq]; show 2 ≤ _; decide, fun fl s4 C4 nfl nfl' => ?_⟩
  exact k fl f1 c1 pm1 ct1 f2 c2 pm2 ct2 s3 s4 C4 (code_wiped hrec1' C3.dictL) (code_wiped hrec2 C3.dictL) hc1 hc2 (ra3.wip C3) (Nat.le_trans C2.go.toks C3.go.toks) fun C' => C.unbaseM (C2.unbaseM (C3.unbaseM C' fun p hp => .inl hp) fun p hp => .inl hp) fun p hp => .inl hp
end
end Mine
end
section
set_option maxRecDepth 100000
set_option autoImplicit false
set_option genInjectivity false
set_option genSizeOf false
namespace Mine
open PySem PySem.W PySem.Calls PyProof.Rows PySem.Spec
section
variable {K : Frag} {a : Adr} {H0 : Heap} {mg mb : Str → Option Value} {rf cR PR lf cL PL : Addr} {A : Around} {l : List Env} {prog : Program} {w : World}
noncomputable abbrev oLed (fl f1 f2 rl dl L PL PR : Addr) (fo1 fo2 : Obj) (rs : List Addr) (vs : List Value) (ep cd cf : Nat) (T : Int) (tT : Tok) (pL pp : Array Value) : List (Addr × Obj) :=
  [(fl, lstO [.ref f1, .ref f2] cf), (f2, fo2), (f1, fo1), (rl, lstO (refA rs) ep), (dl, lstO vs cd), (L + 1, cellO (some (.int T tT))), (PL, tabObj pL), (PR, tabObj pp)]
structure OutI (H0 : Heap) (A : Around) (l : List Env) (M : List Addr) (sE : Shared) (L IF PR : Addr) (rl dl : Addr) (fl : Addr) (led : Array Value → List (Addr × Obj)) (n : Nat) (s : Shared) : Prop where
  ex : ∃ (i : Nat) (m : Str → Option Value) (pp : Array Value), n = 2 + 1 - i ∧ i ≤ 2 ∧ m "rows" = some (.ref rl) ∧ m "script" = some (.ref dl) ∧ PartK PR s pp ∧ Cx H0 A l M sE L m ((IF, itO fl i) :: led pp) s
set_option maxHeartbeats 8000000 in
theorem law_outer (X : Ctx2 K a H0 mg mb rf cR PR lf cL PL) {rl dl : Addr} {rs : List Addr} {ps xs vs : List Value} {ns : List Int} {ep cd t0 : Nat} {T : Int} {tT : Tok} {L : Addr} {s1 sW : Shared} {m : Str → Option Value}
    (C : Cx H0 (A.deeper (lE L lf cL)) (lE L lf cL :: l) [PL, PR] sW L m [(rl, lstO (refA rs) ep), (dl, lstO vs cd), (L + 1, cellO (some (.int T tT))), (PL, tabObj #[]), (PR, tabObj #[])] s1) (hmr : m "rows" = some (.ref rl)) (hms : m "script" = some (.ref dl)) (ra : RowsAt s1.heap rs ps xs)
    (iv : IV xs ns) (O : Olds xs t0) (ht0 : t0 ≤ s1.toks) (hn : rs.length ≤ 20) (hT : T.natAbs ≤ 2 ^ 40) (hroom : A.depth + 20 < recursionLimit) (hh : A.handled = none) (hu : A.units + 50 < cLine)
    {Q : Flow → Shared → Prop} {E : Value → Shared → Prop}
    (k : ∀ c1 c2 m' pp s2 s', Cx H0 (A.deeper (lE L lf cL)) (lE L lf cL :: l) [PL, PR] (wiped s2 L) L m' [(rl, lstO (refA rs) ep), (dl, lstO vs cd), (L + 1, cellO (some (.int T tT))), (PL, tabObj (pL2 c1 c2)), (PR, tabObj pp)] s' → m' "rows" = some (.ref rl) → m' "script" = some (.ref dl) → RowsAt (wiped s2 L).heap rs ps xs → s1.toks ≤ s2.toks → UnB H0 (A.deeper (lE L lf cL)) (lE L lf cL :: l) [PL, PR] (wiped s2 L) sW L →
      wpAny (model prog w) (A.deeper (lE L lf cL)) (execs (dLaw.2.1.drop 5) (lE L lf cL)) Q E s') :
    wpAny (model prog w) (A.deeper (lE L lf cL)) (execs (dLaw.2.1.drop 4) (lE L lf cL)) Q E s1 := by
  refine wpAny_execs_cons (wpAny_For (law_finds X C ra fun fl f1 c1 pm1 ct1 f2 c2 pm2 ct2 s2 s3 C3 hc1 hc2 hn1 hn2 raW ht2 unb => ?_))
  have PKb : PartK PR s3 #[] := ⟨C3.ok 7 rfl, .inl rfl⟩
  refine wpAny_pyIter_list (isl (C3.at 0 rfl)) ?_
  have nI := C3.noE (a := s3.heap.objs.size) not_at
  have C4 := C3.push (itO fl 0) rfl nd_fields rfl
  have PK4 : PartK PR { s3 with heap := s3.heap.push (itO fl 0) } #[] := ⟨C4.ok 8 rfl, .inl rfl⟩
  generalize hIe : s3.heap.objs.size = IF at *
  refine codeAny_forLoop_any (OutI H0 (A.deeper (lE L lf cL)) (lE L lf cL :: l) [PL, PR] (wiped s2 L) L IF PR rl dl fl (fun pp => oLed fl f1 f2 rl dl L PL PR (lamO lam1 pm1 c1 ct1) (lamO lam2 pm2 c2 ct2) rs vs ep cd 0 T tT (pL2 c1 c2) pp)) (fun n s V => ?_) (2 + 1) ⟨0, m, #[], rfl, Nat.zero_le _, hmr, hms, PK4, C4⟩
  obtain ⟨i, m1, pp1, rfl, hi, h1, h2, PK5, C5⟩ := V
  have hPLr : ∀ p ∈ [PL, PR, IF], p ∉ rs := fun p hp => by
    have ra5 := raW.cx C5 fun p hp => by
      simp only [List.mem_cons, List.not_mem_nil, or_false] at hp
      rcases hp with rfl | rfl
      · exact ra.not (C.at 3 rfl) (by decide)
      · exact ra.not (C.at 4 rfl) (by decide)
    simp only [List.mem_cons, List.not_mem_nil, or_false] at hp
    rcases hp with rfl | rfl | rfl
    · exact ra5.not (C5.at 7 rfl) (by simp)
    · exact ra5.not (C5.at 8 rfl) (by simp)
    · exact ra5.not (C5.at 0 rfl) (by simp)
  have C6 := C5.rebase.mono (M' := [PL, PR, IF]) fun p hp => nomatch hp
  have un : ∀ {m' : Str → Option Value} {led' : List (Addr × Obj)} {s' : Shared}, Cx H0 (A.deeper (lE L lf cL)) (lE L lf cL :: l) [PL, PR, IF] (wiped s L) L m' led' s' → Cx H0 (A.deeper (lE L lf cL)) (lE L lf cL :: l) [PL, PR] (wiped s2 L) L m' led' s' := fun C'' => C5.unbaseM C'' fun p hp => by
    simp only [List.mem_cons, List.not_mem_nil, or_false] at hp
    rcases hp with rfl | rfl | rfl
    · exact .inl (by simp)
    · exact .inl (by simp)
    · exact .inr nI.e
  have hMK : ∀ p ∈ [PL, PR, IF], p ≠ PR → ∃ o, s.heap.get? p = some o ∧ ∀ vs x t, o.data = .fields vs → vs[1]? ≠ some (.str x t) := fun p hp hne => by
    simp only [List.mem_cons, List.not_mem_nil, or_false] at hp
    rcases hp with rfl | rfl | rfl
    · exact ⟨_, C5.at 7 rfl, fun vs x t e q => by cases e; cases q⟩
    · exact absurd rfl hne
    · exact ⟨_, C5.at 0 rfl, itO_no _ _⟩
  have cne : ∀ {c : Addr}, (wiped s2 L).heap.CodeRec (.ref c) lamQ → c ∉ [PL, PR] → c ∉ [PL, PR, IF] := fun {c} hc hn q => by
    simp only [List.mem_cons, List.not_mem_nil, or_false] at q hn
    rcases q with e | e | e
    · exact hn (.inl e)
    · exact hn (.inr e)
    · obtain ⟨c', oc, _, _, e2, h3, _⟩ := hc
      cases e2
      rw [e, nI.e] at h3; cases h3
  have ra5 := raW.cx C5 fun p hp => hPLr p (by simp only [List.mem_cons, List.not_mem_nil, or_false] at hp ⊢; rcases hp with h | h <;> simp [h])
  have hts : t0 ≤ s.toks := Nat.le_trans ht0 (Nat.le_trans ht2 C5.go.toks)
  by_cases hlt : i < 2
  · obtain ⟨f, hf⟩ : ∃ f, ([Value.ref f1, .ref f2] : List Value)[i]? = some (.ref f) := by
      have : i = 0 ∨ i = 1 := by omega
      rcases this with rfl | rfl
      · exact ⟨f1, rfl⟩
      · exact ⟨f2, rfl⟩
    refine pyNext_item (C6.at 0 rfl) (C6.at 1 rfl) hf ?_
    have C7 := C6.upd 0 (f := Obj.mapFields (·.setIfInBounds 1 (rawInt ((i : Int) + 1)))) rfl rfl nd_fields rfl (.inl (by simp)) nI.h
    have C7' : Cx H0 (A.deeper (lE L lf cL)) (lE L lf cL :: l) [PL, PR, IF] (wiped s L) L m1 ((IF, itO fl (i + 1)) :: oLed fl f1 f2 rl dl L PL PR (lamO lam1 pm1 c1 ct1) (lamO lam2 pm2 c2 ct2) rs vs ep cd 0 T tT (pL2 c1 c2) pp1) _ := C7
    refine wpAny_pure ?_
    refine PySem.wpAny_assign_Name (C7'.setE fun s8 C8 => ?_)
    have PK8 := PK5.keep C5.dictL C8 (j := 8) rfl hMK
    have fin : ∀ (m' : Str → Option Value) (s' : Shared) (pp' : Array Value), Cx H0 (A.deeper (lE L lf cL)) (lE L lf cL :: l) [PL, PR, IF] (wiped s L) L m' ((IF, itO fl (i + 1)) :: oLed fl f1 f2 rl dl L PL PR (lamO lam1 pm1 c1 ct1) (lamO lam2 pm2 c2 ct2) rs vs ep cd 0 T tT (pL2 c1 c2) pp') s' → PartK PR s' pp' → (∀ x, x ≠ Str.ofString "turned" → m' x = (updM m1 "find" (.ref f)) x) →
        ∃ k, k < 2 + 1 - i ∧ OutI H0 (A.deeper (lE L lf cL)) (lE L lf cL :: l) [PL, PR] (wiped s2 L) L IF PR rl dl fl (fun pp => oLed fl f1 f2 rl dl L PL PR (lamO lam1 pm1 c1 ct1) (lamO lam2 pm2 c2 ct2) rs vs ep cd 0 T tT (pL2 c1 c2) pp) k s' := fun m' s' pp' C' PK' hm' =>
      ⟨2 + 1 - (i + 1), by omega, i + 1, m', pp', rfl, hlt, (hm' _ (by decide)).trans h1, (hm' _ (by decide)).trans h2, PK', un C'⟩
    have hh' : (A.deeper (lE L lf cL)).handled = none := hh
    have : i = 0 ∨ i = 1 := by omega
    rcases this with rfl | rfl
    · cases hf
      refine wpAny_execs_cons (law_inner (Z := intZ) (g := fun n => n) (f := f1) (fc := c1) X cmp_int (find1 X.G) C8 (by simp) (fun p hp => ⟨hPLr p hp, fun e => cne hc1 hn1 (e ▸ hp)⟩) (jr := 4) (jP := 8) (jc := 6) (jf := 3) rfl rfl rfl rfl (by decide) h1 rfl (code_wiped (C5.code hc1 hn1) C5.dictL) (ra5.wip C5) PK8 iv O hts hn hT hroom hh hu fun m' s' pp' C' PK' hm' => wpAny_execs_nil (fin m' s' pp' C' PK' hm'))
    · cases hf
      refine wpAny_execs_cons (law_inner (Z := strZ) (g := fun n => n % 5) (f := f2) (fc := c2) X cmp_str (find2 X.G) C8 (by simp) (fun p hp => ⟨hPLr p hp, fun e => cne hc2 hn2 (e ▸ hp)⟩) (jr := 4) (jP := 8) (jc := 6) (jf := 2) rfl rfl rfl rfl (by decide) h1 rfl (code_wiped (C5.code hc2 hn2) C5.dictL) (ra5.wip C5) PK8 iv O hts hn hT hroom hh hu fun m' s' pp' C' PK' hm' => wpAny_execs_nil (fin m' s' pp' C' PK' hm'))
  · have hin : i = 2 := by omega
    subst hin
    refine pyNext_end hh (C6.at 0 rfl) (C6.at 1 rfl) rfl fun h' e hm => ?_
    have C7 := C6.upd 0 (f := Obj.mapFields (·.setIfInBounds 0 .none)) rfl rfl nd_fields rfl (.inl (by simp)) nI.h
    have C8 := C7.call (made_go (H0 := H0) (M := []) (s := { s with heap := s.heap.update IF (Obj.mapFields (·.setIfInBounds 0 .none)) }) hm)
    refine wpAny_execs_nil ?_
    exact k c1 c2 m1 pp1 s2 _ ((un C8).drop _ (.cons _ (.cons _ (.cons _ (.cons _ (List.Sublist.refl _)))))) h1 h2 raW ht2 unb
end
end Mine
end
section
set_option maxRecDepth 100000
set_option autoImplicit false
set_option genInjectivity false
set_option genSizeOf false
namespace Mine
open PySem PySem.W PySem.Calls PyProof.Rows PySem.Spec
noncomputable def asgV : Stmt → Expr
  | .Assign _ v _ => v
  | _ => default
noncomputable def kwE : Expr → List Expr
  | .Call _ _ ks _ => ks.map (·.value)
  | _ => []
noncomputable def turnB := forB (dLaw.2.1.getD 5 (.Pass default))
noncomputable def lam3E := (kwE (asgV (turnB.getD 0 (.Pass default)))).getD 0 default
noncomputable def lam3 := lamP lam3E
noncomputable abbrev pL3 (c1 c2 c3 : Addr) : Array Value := #[rawInt 198, rawInt 0, .ref c1, rawInt 199, rawInt 0, .ref c2, rawInt 205, rawInt 0, .ref c3]
noncomputable def PartL (PL : Addr) (c1 c2 : Addr) (s : Shared) (ps : Array Value) : Prop := Okk s.heap (PL, tabObj ps) ∧ (ps = pL2 c1 c2 ∨ ∃ c3, ps = pL3 c1 c2 c3 ∧ s.heap.CodeRec (.ref c3) lamQ)
theorem pos3_new (c1 c2 : Addr) : codeAmong ⟨205, 0, 205, 18⟩ (pL2 c1 c2).toList = none := rfl
theorem pos3_hit (c1 c2 c3 : Addr) : codeAmong ⟨205, 0, 205, 18⟩ (pL3 c1 c2 c3).toList = some (.ref c3) := rfl
section
variable {K : Frag} {a : Adr} {H0 : Heap} {mg mb : Str → Option Value} {rf cR PR lf cL PL : Addr} {A : Around} {l : List Env} {prog : Program} {w : World}
theorem find3 (G : Gl K H0 mg mb) {f fc : Addr} {pm ct : Value} : FindK prog w H0 intZ (fun n => n) f fc (lamO lam3 pm fc ct) lamQ where
  fn := ⟨_, _, _, _, rfl⟩
  call := fun A l s r p n t Q E S hh hd ho hc hr ht hlt k => by
    refine wpAny_call (enterE (binds := [(Str.ofString "row", .ref r)]) S [] [(r, tupO [p, .int n t])] (fun q hq => by rw [List.mem_singleton.mp hq]; exact okk_tup hr) (by simp) (Nat.lt_of_succ_lt hd) ho rfl (S.lim G) hc (BindsTo.of_eq rfl) (by decide) (locs rfl) fun L s1 _ C => ?_)
    refine Subscript_ (C.nameE rfl (wpAny_Constant_int ?_))
    have C1 := C.tok 1
    refine item_tupleL ⟨_, C1.at 0 rfl, rfl, 0, rfl⟩ (by decide) (by decide) (j := 1) (by simp [seqIndex?]) rfl ?_
    exact k _ _ C1.go ⟨t, rfl⟩ ht (Nat.lt_of_lt_of_le hlt C1.go.toks) (.inl rfl)
theorem set_same {led : List (Addr × Obj)} {j : Nat} {p : Addr × Obj} (h : led[j]? = some p) : led.set j p = led := by
  apply List.ext_getElem?
  intro i
  rw [List.getElem?_set]
  split
  · rename_i e
    subst e
    rw [if_pos (List.getElem?_eq_some_iff.mp h).1, h]
  · rfl
theorem law_lam3 (X : Ctx2 K a H0 mg mb rf cR PR lf cL PL) {c1 c2 : Addr} {ps : Array Value} {j : Nat} {L : Addr} {s1 sW : Shared} {m : Str → Option Value} {M : List Addr} {led : List (Addr × Obj)}
    (C : Cx H0 (A.deeper (lE L lf cL)) (lE L lf cL :: l) M sW L m led s1) (hM : PL ∈ M) (hj : led[j]? = some (PL, tabObj ps)) (PK : PartL PL c1 c2 s1 ps)
    {Q : Value → Shared → Prop} {E : Value → Shared → Prop}
    (k : ∀ f3 c3 pm ct s2, Cx H0 (A.deeper (lE L lf cL)) (lE L lf cL :: l) M sW L m ((f3, lamO lam3 pm c3 ct) :: led.set j (PL, tabObj (pL3 c1 c2 c3))) s2 → s2.heap.CodeRec (.ref c3) lamQ → s1.toks ≤ s2.toks → Q (.ref f3) s2) :
    wpAny (model prog w) (A.deeper (lE L lf cL)) (eval lam3E (lE L lf cL)) Q E s1 := by
  refine PySem.wpAny_with_toks (n := s1.toks) (Nat.le_refl _) ?_
  rcases PK.2 with h | ⟨c3, h, hc⟩
  · subst h
    exact C.lamNew X.G X.B j hj (.inl hM) X.hL rfl rfl rfl (X.FL.hd _ (C.st.X X.G)) trivial (pos3_new c1 c2) rfl fun f3 c3 pm ct s2 C2 n1 n2 n3 hrec ht => k f3 c3 pm ct s2 C2 hrec ht
  · subst h
    refine C.lamHit X.G X.B j hj X.hL rfl rfl rfl (X.FL.hd _ (C.st.X X.G)) trivial (pos3_hit c1 c2 c3) rfl fun f3 pm ct s2 C2 n1 n2 g2 ht => k f3 c3 pm ct s2 ?_ (codeRec_go hc g2 fun c q h => nomatch h) ht
    rw [set_same hj]
    exact C2
end
end Mine
end
section
set_option maxRecDepth 100000
set_option autoImplicit false
set_option genInjectivity false
set_option genSizeOf false
namespace Mine
open PySem PySem.W PySem.Calls PyProof.Rows PySem.Spec
section
variable {K : Frag} {a : Adr} {H0 : Heap} {mg mb : Str → Option Value} {rf cR PR lf cL PL : Addr} {A : Around} {l : List Env} {prog : Program} {w : World}
set_option maxHeartbeats 8000000 in
theorem law_ranks (X : Ctx2 K a H0 mg mb rf cR PR lf cL PL) {rl dl c1 c2 : Addr} {rs : List Addr} {ps xs : List Value} {ns : List Int} {ep cd t0 jr jd jc jL : Nat} {T : Int} {tT : Tok} {tv : Bool} {pp : Array Value} {L : Addr} {s1 sW : Shared} {m : Str → Option Value} {M : List Addr} {led : List (Addr × Obj)}
    (C : Cx H0 (A.deeper (lE L lf cL)) (lE L lf cL :: l) M sW L m led s1) (hM : PL ∈ M) (jr' : led[jr]? = some (rl, lstO (refA rs) ep)) (jd' : led[jd]? = some (dl, lstO xs cd)) (jc' : led[jc]? = some (L + 1, cellO (some (.int T tT)))) (jL' : led[jL]? = some (PL, tabObj pp)) (hne : jL ≠ jr ∧ jL ≠ jd ∧ jL ≠ jc)
    (hmr : m "rows" = some (.ref rl)) (hms : m "script" = some (.ref dl)) (hmt : m "turned" = some (.bool tv)) (ra : RowsAt s1.heap rs ps xs) (PK : PartL PL c1 c2 s1 pp) (iv : IV xs ns) (O : Olds xs t0) (KL : KeyL intKey xs) (ht0 : t0 ≤ s1.toks) (hn : rs.length ≤ 20) (hT : T.natAbs ≤ 2 ^ 40) (hroom : A.depth + 20 < recursionLimit) (hh : A.handled = none)
    {Q : Flow → Shared → Prop} {E : Value → Shared → Prop}
    (k : ∀ pl res pvals rvals cp c f3 fo3 c3 m' s2 s', Cx H0 (A.deeper (lE L lf cL)) (lE L lf cL :: l) [] (wiped s2 L) L m' ((pl, lstO pvals cp) :: (res, lstO rvals c) :: (f3, fo3) :: led.set jL (PL, tabObj (pL3 c1 c2 c3))) s' → (∀ {m'' : Str → Option Value} {led' : List (Addr × Obj)} {s'' : Shared}, Cx H0 (A.deeper (lE L lf cL)) (lE L lf cL :: l) [] (wiped s2 L) L m'' led' s'' → Cx H0 (A.deeper (lE L lf cL)) (lE L lf cL :: l) M sW L m'' led' s'') →
      (wiped s2 L).heap.CodeRec (.ref c3) lamQ → m' "plain" = some (.ref pl) → m' "told" = some (.ref res) → m' "rows" = some (.ref rl) → m' "script" = some (.ref dl) → RankedK intZ tv (T - 2) ns rvals s'.toks → RankedK intZ tv (2 - 2) ns pvals s'.toks → s1.toks ≤ s'.toks →
      wpAny (model prog w) (A.deeper (lE L lf cL)) (execs (turnB.drop 2) (lE L lf cL)) Q E s') :
    wpAny (model prog w) (A.deeper (lE L lf cL)) (execs turnB (lE L lf cL)) Q E s1 := by
  have CB := C.rebase.mono (M' := [PL]) fun p hp => nomatch hp
  have hPLr : ∀ p ∈ [PL], p ∉ rs := fun p hp => by rw [List.mem_singleton.mp hp]; exact ra.not (C.at jL jL') (by simp)
  refine wpAny_execs_cons (wpAny_Assign_Name (wpAny_Call_Name_kw (CB.globalE X.G X.F.nrank (callWith_KW (CB.st.X X.G) X.F.krank rfl (args_cons (CB.nameE hmr (args_nil (kws_cons (law_lam3 X CB (by simp) jL' PK fun f3 c3 pm ct s2 C2 hc3 ht2 => ?_)))))))))
  have ra2 := (ra.wip C).cx C2 hPLr
  have un : ∀ {m'' : Str → Option Value} {led' : List (Addr × Obj)} {s'' : Shared}, Cx H0 (A.deeper (lE L lf cL)) (lE L lf cL :: l) [] (wiped s2 L) L m'' led' s'' → Cx H0 (A.deeper (lE L lf cL)) (lE L lf cL :: l) M sW L m'' led' s'' := fun C'' => C.unbaseM (C2.unbase C'') fun p hp => by rw [List.mem_singleton.mp hp]; exact .inl hM
  have C2b := C2.rebase
  have hcW := code_wiped hc3 C2.dictL
  have raW := ra2.wip C2
  have jr2 := set_get (p := (PL, tabObj (pL3 c1 c2 c3))) jr' hne.1
  have jd2 := set_get (p := (PL, tabObj (pL3 c1 c2 c3))) jd' hne.2.1
  have jc2 := set_get (p := (PL, tabObj (pL3 c1 c2 c3))) jc' hne.2.2
  refine kws_cons (C2b.nameE hmt (kws_cons (wpAny_BinOp (C2b.ldCell (jc + 1) jc2 rfl (wpAny_Constant_int (div2 (by omega) (kws_nil ?_)))))))
  have C3 := C2b.tok 2
  refine ⟨C3.st.X X.G, wpAny_call ?_⟩
  have hrl3 := C3.at (jr + 1) jr2
  have hrlf : rl ∉ [f3, c3] := fun q => by
    simp only [List.mem_cons, List.not_mem_nil, or_false] at q
    rcases q with e | e
    · exact ne_data hrl3 (C3.at 0 rfl) (fun q => by cases q) e
    · exact code_ne hc3 (C2.at (jr + 1) jr2) (fun vs q => by cases q) e.symm
  have ra3 : RowsAt (tk s2 2).heap rs ps xs := ⟨ra2.lp, ra2.lx, ra2.at_⟩
  have hlen : ns.length = rs.length := by rw [← iv.len]; exact ra.lx
  have L0 : Lg (tk s2 2).heap [(rl, lstO (refA rs) ep)] := ⟨fun p hp => by rw [List.mem_singleton.mp hp]; exact C3.ok (jr + 1) jr2, by simp⟩
  have ht3 : t0 ≤ (tk s2 2).toks := Nat.le_trans ht0 (Nat.le_trans ht2 (Nat.le_add_right _ _))
  have mapid : ns.map (fun n => n) = ns := by simp
  have hc3' : (tk s2 2).heap.CodeRec (.ref c3) lamQ := hc3
  have KC : ∀ l', KeyCall prog w H0 intZ l' 2 (.ref f3) rs ps xs ns [f3, c3] [] (fun _ s => s.heap.get? f3 = some (lamO lam3 pm c3 ct) ∧ s.heap.CodeRec (.ref c3) lamQ ∧ t0 ≤ s.toks) := fun l' => by
    have := keyFind (prog := prog) (w := w) (H0 := H0) (l := l') (g := fun n => n) (find3 X.G (f := f3) (fc := c3) (pm := pm) (ct := ct)) (rs := rs) (ps := ps) iv O
    rw [mapid] at this; exact this
  refine rank_key (Z := intZ) (z := T - 2) (mJ := []) (as := ns) (led0 := [(rl, lstO (refA rs) ep)]) (ep := ep) X.G X.FF X.F C3.st KC O ht3 ⟨C3.at 0 rfl, hc3', ht3⟩ ra3 L0
    (fun A' s4 Q' E' g4 kk => wpAny_pyIter_list (isl ((L0.go g4).at 0 rfl)) (kk s4.heap.objs.size { s4 with heap := s4.heap.push (itO rl 0) } (Go.push _) ?_ (.inl not_at))) ⟨hrlf, ra.not (C.at jr jr') (by simp)⟩ (fun p hp => nomatch hp) hlen (by omega) (.float _ (by rw [show T - 2 + 2 = T by omega])) (by omega) (by show A.depth + 1 + 7 < _; omega) hh ?_
  · have LL := L0.go g4
    refine (LL.go (H0 := H0) (Go.push (s := s4) (itO rl 0))).add (okk_it (Heap.get?_push_size _ rfl)) fun p hp e => ?_
    have := (LL.has p hp).at_
    rw [e, not_at] at this; cases this
  intro res rvals c s5 s6 hrk g6 okres nres _ _
  have C4 := C3.call g6
  have C5 := C4.add okres (fun p hp e => by
    have := (C3.has p hp).at_
    rw [e, nres] at this; cases this) (by intro q; cases q)
  refine C5.rebase.setE fun s7 C7r => ?_
  have C7 := C5.unbase C7r
  have RK7 : RankedK intZ tv (T - 2) ns rvals s7.toks := ⟨hrk.at_, hrk.tk.mono C7r.go.toks⟩
  have hms7 : (updM m "told" (.ref res)) "script" = some (.ref dl) := hms
  have hmt7 : (updM m "told" (.ref res)) "turned" = some (.bool tv) := hmt
  refine wpAny_execs_cons (wpAny_Assign_Name (wpAny_Call_Name_kw (C7.globalE X.G X.F.nrank (callWith_KW (C7.st.X X.G) X.F.krank rfl (args_cons (C7.nameE hms7 (args_nil (kws_cons (C7.nameE hmt7 (kws_nil ⟨C7.st.X X.G, wpAny_call ?_⟩))))))))))
  have hxl : xs.length = rs.length := ra.lx
  refine rank_rev X.G X.FF C7.st intKey (C7.ok (jd + 2) jd2) (by omega) KL (by show A.depth + 1 + 5 < _; omega) hh fun pl pvals cp s8 hrk8 g8 okpl npl => ?_
  have RK8 := hrk8.toK (Z := intZ) (as := ns) iv.len fun i v z h1 h2 => by
    obtain ⟨t, ht⟩ := iv.at_ i z h2
    rw [h1] at ht; cases ht
    exact ⟨t, rfl⟩
  have C8 := (C7.call g8).add okpl (fun p hp e => by
    have := (C7.has p hp).at_
    rw [e, npl] at this; cases this) (by intro q; cases q)
  refine C8.rebase.setE fun s9 C9r => ?_
  have C9 := C8.unbase C9r
  have hts : s1.toks ≤ s9.toks := Nat.le_trans ht2 C9.go.toks
  exact k pl res pvals rvals cp c f3 _ c3 _ s2 s9 C9 un hcW rfl rfl hmr hms ⟨RK7.at_, RK7.tk.mono (Nat.le_trans g8.toks C9r.go.toks)⟩ ⟨RK8.at_, RK8.tk.mono C9r.go.toks⟩ hts
end
end Mine
end
section
set_option maxRecDepth 100000
set_option autoImplicit false
set_option genInjectivity false
set_option genSizeOf false
namespace Mine
open PySem PySem.W PySem.Calls PyProof.Rows PySem.Spec
section
variable {K : Frag} {a : Adr} {H0 : Heap} {mg mb : Str → Option Value} {rf cR PR lf cL PL : Addr} {A : Around} {l : List Env} {prog : Program} {w : World}
theorem rkZ_shift {tv : Bool} {T : Int} {ns : List Int} {i : Nat} {z : Int} (h : (rkZ tv T ns)[i]? = some z) : (rkZ tv 2 ns)[i]? = some (z + 2 - T) := by
  unfold rkZ at h ⊢
  rw [List.getElem?_map] at h ⊢
  obtain ⟨b, hb, rfl⟩ := Option.map_eq_some_iff.mp h
  rw [hb]
  show some _ = some _
  congr 1
  show rkN 2 _ _ = rkN T _ _ + 2 - T
  unfold rkN
  omega
set_option maxHeartbeats 8000000 in
theorem law_plain (X : Ctx2 K a H0 mg mb rf cR PR lf cL PL) {pl res : Addr} {ns : List Int} {pvals rvals : List Value} {cp c jc : Nat} {T : Int} {tT : Tok} {tv : Bool} {L : Addr} {s1 sW : Shared} {m : Str → Option Value} {M : List Addr} {led : List (Addr × Obj)}
    (C : Cx H0 (A.deeper (lE L lf cL)) (lE L lf cL :: l) M sW L m ((pl, lstO pvals cp) :: (res, lstO rvals c) :: led) s1) (jc' : led[jc]? = some (L + 1, cellO (some (.int T tT))))
    (hmp : m "plain" = some (.ref pl)) (hmt : m "told" = some (.ref res)) (RK : RankedK intZ tv (T - 2) ns rvals s1.toks) (RP : RankedK intZ tv (2 - 2) ns pvals s1.toks) (hn : ns.length ≤ 20) (hT : T.natAbs ≤ 2 ^ 40) (hh : A.handled = none) (hu : A.units + 50 < cLine)
    {Q : Flow → Shared → Prop} {E : Value → Shared → Prop}
    (k : ∀ s', Cx H0 (A.deeper (lE L lf cL)) (lE L lf cL :: l) M sW L m ((pl, lstO pvals cp) :: (res, lstO rvals c) :: led) s' → Q .next s') :
    wpAny (model prog w) (A.deeper (lE L lf cL)) (execs (turnB.drop 2) (lE L lf cL)) Q E s1 := by
  have hh' : (A.deeper (lE L lf cL)).handled = none := hh
  have hv := RK.hv
  have hvp := RP.hv
  have hbd := rkZ_bound (rv := tv) (as := ns) hT (by omega)
  have hrl : rvals.length = ns.length := by rw [hv.len]; simp [rkZ]
  have hpl : pvals.length = ns.length := by rw [hvp.len]; simp [rkZ]
  refine wpAny_execs_cons (wpAny_If (wpAny_isTrue_BoolOp (wpAny_allTrue_Or_cons (wpAny_isTrue_Compare1 (C.nameE hmp ?_)))))
  refine Cx.listComp (H0 := H0) (l := lE L lf cL :: l) (M := M) (sE := sW) (L := L) (m := m) (led := (pl, lstO pvals cp) :: (res, lstO rvals c) :: led) (cl := [(Str.ofString "twice", L + 1)]) (P := fun i acc _ => HV acc ((rkZ tv 2 ns).take i) ∧ ∀ v ∈ acc, tokOf v ≠ 0) hh' rfl (by decide) rfl (by decide) rfl (fun _ _ _ _ h _ => h) ?_
  refine C.nameE hmt ⟨res, rvals, c, 1, rfl, by omega, rfl, C, ⟨HV.nil, fun v hv => nomatch hv⟩, fun I D Cc => ?_, fun D acc c3 s2 g2 hP ok2 n2 => ?_⟩
  · intro i v acc c3 mC s E2 hvi hP hmx C2
    rw [List.forIn_nil]
    refine wpAny_pure (ite_yes' rfl ?_)
    obtain ⟨z, t, hz, rfl⟩ := hv.get hvi
    have hzb := hbd z (List.mem_of_getElem? hz)
    refine wpAny_BinOp (wpAny_BinOp (C2.nameE hmx (wpAny_Constant_int (add_fi_fits (by decide) ?_))))
    rw [hf_ofInt (n := 1) (by decide), hf_add (by omega) (by decide) (by omega)]
    have C3 := C2.tok 2
    refine wpAny_BinOp (C3.ldCell (jc + 4) jc' rfl (wpAny_Constant_int (div2 (by omega) ?_)))
    have C4 := C3.tok 2
    refine AutoFloatOps.sub_0 ?_
    show _ ∧ _
    rw [hf_sub (by omega) (by omega) (by omega)]
    have C5 := C4.tok 1
    refine ⟨C5, ?_, fun v hv' => ?_⟩
    · rw [take_succ' (rkZ_shift hz)]
      rw [show z + 2 * 1 - T = z + 2 - T by omega]
      exact hP.1.snoc _ _
    · rcases List.mem_append.mp hv' with h | h
      · exact hP.2 v h
      · rw [List.mem_singleton.mp h]
        exact Nat.ne_of_gt C4.st.toks
  have hvD : HV acc (rkZ tv 2 ns) := by
    have := hP.1
    rwa [hrl, show (rkZ tv 2 ns).take ns.length = rkZ tv 2 ns by rw [show ns.length = (rkZ tv 2 ns).length by simp [rkZ], List.take_length]] at this
  have C3 := C.call g2
  refine lists_ne (C3.at 0 rfl) ok2.at_ (by rw [hvp.len, hvD.len]) (by show A.units + 3 < _; omega) (fun j v u h1 h2 => ?_) (wpAny_truthy_bool ?_)
  · obtain ⟨z, t, hz, rfl⟩ := hvp.get h1
    obtain ⟨z', t', hz', rfl⟩ := hvD.get h2
    rw [hz] at hz'; cases hz'
    have hzb : z.natAbs ≤ 2 ^ 52 := by have := rkZ_bound (rv := tv) (T := 2) (B := 2) (as := ns) (by decide) (by omega) z (List.mem_of_getElem? hz); omega
    have := eqAt_flt (A := (A.deeper (lE L lf cL)).in1) (s := s2) (z := z) (z' := z) (t := t) (u := t') (C3.st.nob X.G) (RP.toks hvp j _ h1).1 (hP.2 _ (List.mem_of_getElem? h2)) hzb hzb fun _ => rfl
    rwa [decide_eq_true rfl] at this
  refine ite_no' rfl ?_
  refine wpAny_allTrue_Or_cons (wpAny_isTrue_Compare1 ?_)
  refine Cx.listComp (H0 := H0) (l := lE L lf cL :: l) (M := M) (sE := sW) (L := L) (m := m) (led := (pl, lstO pvals cp) :: (res, lstO rvals c) :: led) (cl := []) (P := fun i acc _ => acc = []) hh' rfl (by decide) rfl (by decide) rfl (fun _ _ _ _ h _ => h) ?_
  refine C3.nameE hmp ⟨pl, pvals, cp, 0, rfl, by omega, rfl, C3, rfl, fun I D' Cc => ?_, fun D2 acc2 c4 s3 g3 hP2 ok3 n3 => ?_⟩
  · intro i v acc3 c5 mC s E2 hvi hP' hmx C4
    obtain ⟨z, t, hz, rfl⟩ := hvp.get hvi
    refine wp_forIn_cons (ite_yes rfl (wpAny_bind (wpAny_isTrue_Compare1 (Call_ (C4.bootE X.G X.F.ntype Boot.«type» (PyProof.Rows.callWith_type1 (args_cons (C4.nameE hmx (args_nil (call_type_of (AutoFloatOps.typeIs_float _ _ _) (by decide) (C4.bootE X.G X.F.nflt Boot.«float» ?_)))))))))))
    show wpAny _ _ (do return Value.bool (!(← isSame (.type "float") (.type "float")))) _ _ _
    refine wpAny_bind (m := isSame (.type "float") (.type "float")) (wpAny_pure (wpAny_pure (wpAny_truthy_bool (wpAny_pure (wp_forIn_nil ?_)))))
    exact ite_no' rfl ⟨C4, hP'⟩
  subst hP2
  have C4 := C3.addNew g3 ok3 n3 rfl
  refine lst_made (args_nil ⟨H0, _, _, _, sW, L, _, _, C4, by rw [sizeLine_eq]; show 0 ≤ _; exact Nat.zero_le _, fun D3 s4 C5 n5 n5' => ?_⟩)
  refine lists_ne (C5.at 1 rfl) (C5.at 0 rfl) rfl (by show A.units + 3 < _; omega) (fun j v u h1 h2 => by simp at h1) (wpAny_truthy_bool ?_)
  refine ite_no' rfl (wpAny_allTrue_Or_nil ?_)
  exact ite_no' rfl (wpAny_execs_nil (wpAny_execs_nil (k s4 (C5.drop _ (.cons _ (.cons _ (List.Sublist.refl _)))))))
end
end Mine
end
section
set_option maxRecDepth 100000
set_option autoImplicit false
set_option genInjectivity false
set_option genSizeOf false
namespace Mine
open PySem PySem.W PySem.Calls PyProof.Rows PySem.Spec
section
variable {K : Frag} {a : Adr} {H0 : Heap} {mg mb : Str → Option Value} {rf cR PR lf cL PL : Addr} {A : Around} {l : List Env} {prog : Program} {w : World}
theorem PartL.no {c1 c2 : Addr} {s : Shared} {ps : Array Value} (h : PartL PL c1 c2 s ps) : ∀ vs x t, (tabObj ps).data = .fields vs → vs[1]? ≠ some (.str x t) := fun vs x t e q => by
  cases e
  rcases h.2 with rfl | ⟨kc, rfl, _⟩ <;> cases q
theorem PartL.keep {M : List Addr} {L : Addr} {m : Str → Option Value} {led : List (Addr × Obj)} {s s' : Shared} {c1 c2 : Addr} {ps : Array Value} {j : Nat} (PK : PartL PL c1 c2 s ps) (hL : ∃ o es n, s.heap.get? L = some o ∧ o.data = .dict es n) (C : Cx H0 A l M (wiped s L) L m led s') (hj : led[j]? = some (PL, tabObj ps)) (hM : ∀ p ∈ M, p ≠ PL → ∃ o, s.heap.get? p = some o ∧ ∀ vs x t, o.data = .fields vs → vs[1]? ≠ some (.str x t)) : PartL PL c1 c2 s' ps := by
  refine ⟨C.ok j hj, ?_⟩
  rcases PK.2 with h | ⟨kc, h, hc⟩
  · exact .inl h
  · refine .inr ⟨kc, h, C.code (code_wiped hc hL) fun q => ?_⟩
    have hne := code_no hc PK.1.at_ PK.no
    obtain ⟨o, h1, h2⟩ := hM kc q hne
    exact code_no hc h1 h2 rfl
noncomputable abbrev tLed (rl dl L PL PR : Addr) (rs : List Addr) (xs : List Value) (ep cd : Nat) (T : Int) (tT : Tok) (pq pp : Array Value) : List (Addr × Obj) :=
  [(rl, lstO (refA rs) ep), (dl, lstO xs cd), (L + 1, cellO (some (.int T tT))), (PL, tabObj pq), (PR, tabObj pp)]
noncomputable def lawS (i : Nat) : Stmt := dLaw.2.1.getD i (.Pass default)
structure TurI (H0 : Heap) (A : Around) (l : List Env) (M : List Addr) (sE : Shared) (L IT tl rl dl PL c1 c2 : Addr) (led : Array Value → List (Addr × Obj)) (n : Nat) (s : Shared) : Prop where
  ex : ∃ (i : Nat) (m : Str → Option Value) (pq : Array Value), n = 2 + 1 - i ∧ i ≤ 2 ∧ m "rows" = some (.ref rl) ∧ m "script" = some (.ref dl) ∧ PartL PL c1 c2 s pq ∧ Cx H0 A l M sE L m ((IT, itO tl i) :: (tl, lstO [.bool false, .bool true]) :: led pq) s
set_option maxHeartbeats 8000000 in
theorem law_turns (X : Ctx2 K a H0 mg mb rf cR PR lf cL PL) {rl dl c1 c2 : Addr} {rs : List Addr} {ps xs : List Value} {ns : List Int} {ep cd t0 : Nat} {T : Int} {tT : Tok} {pp : Array Value} {L : Addr} {s1 sW : Shared} {m : Str → Option Value}
    (C : Cx H0 (A.deeper (lE L lf cL)) (lE L lf cL :: l) [PL, PR] sW L m (tLed rl dl L PL PR rs xs ep cd T tT (pL2 c1 c2) pp) s1) (hmr : m "rows" = some (.ref rl)) (hms : m "script" = some (.ref dl)) (ra : RowsAt s1.heap rs ps xs)
    (iv : IV xs ns) (O : Olds xs t0) (KL : KeyL intKey xs) (ht0 : t0 ≤ s1.toks) (hn : rs.length ≤ 20) (hT : T.natAbs ≤ 2 ^ 40) (hroom : A.depth + 20 < recursionLimit) (hh : A.handled = none) (hu : A.units + 50 < cLine)
    {Q : Flow → Shared → Prop} {E : Value → Shared → Prop} {rest : List Stmt} (hrest : dLaw.2.1.drop 5 = lawS 5 :: rest)
    (k : ∀ m' s' pq, Cx H0 (A.deeper (lE L lf cL)) (lE L lf cL :: l) [PL, PR] sW L m' (tLed rl dl L PL PR rs xs ep cd T tT pq pp) s' → m' "script" = some (.ref dl) →
      wpAny (model prog w) (A.deeper (lE L lf cL)) (execs rest (lE L lf cL)) Q E s') :
    wpAny (model prog w) (A.deeper (lE L lf cL)) (execs (dLaw.2.1.drop 5) (lE L lf cL)) Q E s1 := by
  rw [hrest]
  have CB := C.rebase.mono (M' := [PL]) fun p hp => nomatch hp
  have raW := ra.wip C
  have hPLr : PL ∉ rs := ra.not (C.at 3 rfl) (by simp)
  refine wpAny_execs_cons (wpAny_For (lst_made (args_cons (wpAny_Constant_bool (args_cons (wpAny_Constant_bool (args_nil ⟨H0, _, _, _, wiped s1 L, L, _, _, CB, by rw [sizeLine_eq]; show 2 ≤ _; decide, fun tl s2 C2 ntl ntl' => ?_⟩)))))))
  refine wpAny_pyIter_list (isl (C2.at 0 rfl)) ?_
  have nI := C2.noE (a := s2.heap.objs.size) not_at
  have C3 := C2.push (itO tl 0) rfl nd_fields rfl
  have PK3 : PartL PL c1 c2 { s2 with heap := s2.heap.push (itO tl 0) } (pL2 c1 c2) := ⟨C3.ok 5 rfl, .inl rfl⟩
  generalize hIe : s2.heap.objs.size = IT at *
  refine codeAny_forLoop_any (TurI H0 (A.deeper (lE L lf cL)) (lE L lf cL :: l) [PL] (wiped s1 L) L IT tl rl dl PL c1 c2 (fun pq => tLed rl dl L PL PR rs xs ep cd T tT pq pp)) (fun n s V => ?_) (2 + 1) ⟨0, m, pL2 c1 c2, rfl, Nat.zero_le _, hmr, hms, PK3, C3⟩
  obtain ⟨i, m1, pq, rfl, hi, h1, h2, PK4, C4⟩ := V
  have ra4 := raW.cx C4 fun p hp => by rw [List.mem_singleton.mp hp]; exact hPLr
  have hPs : ∀ p ∈ [PL, IT], p ∉ rs := fun p hp => by
    simp only [List.mem_cons, List.not_mem_nil, or_false] at hp
    rcases hp with rfl | rfl
    · exact hPLr
    · exact ra4.not (C4.at 0 rfl) (by simp)
  have C5 := C4.rebase.mono (M' := [PL, IT]) fun p hp => nomatch hp
  have un : ∀ {m' : Str → Option Value} {led' : List (Addr × Obj)} {s' : Shared}, Cx H0 (A.deeper (lE L lf cL)) (lE L lf cL :: l) [PL, IT] (wiped s L) L m' led' s' → Cx H0 (A.deeper (lE L lf cL)) (lE L lf cL :: l) [PL] (wiped s1 L) L m' led' s' := fun C'' => C4.unbaseM C'' fun p hp => by
    simp only [List.mem_cons, List.not_mem_nil, or_false] at hp
    rcases hp with rfl | rfl
    · exact .inl (by simp)
    · exact .inr nI.e
  have hMK : ∀ p ∈ [PL, IT], p ≠ PL → ∃ o, s.heap.get? p = some o ∧ ∀ vs x t, o.data = .fields vs → vs[1]? ≠ some (.str x t) := fun p hp hne => by
    simp only [List.mem_cons, List.not_mem_nil, or_false] at hp
    rcases hp with rfl | rfl
    · exact absurd rfl hne
    · exact ⟨_, C4.at 0 rfl, itO_no _ _⟩
  have hts : t0 ≤ s.toks := Nat.le_trans ht0 C4.go.toks
  by_cases hlt : i < 2
  · obtain ⟨tv, htv⟩ : ∃ tv : Bool, ([Value.bool false, Value.bool true] : List Value)[i]? = some (.bool tv) := by
      have : i = 0 ∨ i = 1 := by omega
      rcases this with rfl | rfl
      · exact ⟨false, rfl⟩
      · exact ⟨true, rfl⟩
    refine pyNext_item (C5.at 0 rfl) (C5.at 1 rfl) htv ?_
    have C6 := C5.upd 0 (f := Obj.mapFields (·.setIfInBounds 1 (rawInt ((i : Int) + 1)))) rfl rfl nd_fields rfl (.inl (by simp)) nI.h
    have C6' : Cx H0 (A.deeper (lE L lf cL)) (lE L lf cL :: l) [PL, IT] (wiped s L) L m1 ((IT, itO tl (i + 1)) :: (tl, lstO [.bool false, .bool true]) :: tLed rl dl L PL PR rs xs ep cd T tT pq pp) _ := C6
    refine wpAny_pure ?_
    refine PySem.wpAny_assign_Name (C6'.setE fun s7 C7 => ?_)
    have PK7 := PK4.keep C4.dictL C7 (j := 5) rfl hMK
    have ra7 := (ra4.wip C4).cx C7 hPs
    refine law_ranks (tv := tv) X C7 (by simp) (jr := 2) (jd := 3) (jc := 4) (jL := 5) rfl rfl rfl rfl (by decide) h1 h2 rfl ra7 PK7 iv O KL (Nat.le_trans hts C7.go.toks) hn hT hroom hh fun pl res pvals rvals cp c f3 fo3 c3 m' s8 s9 C8 un2 hc3 e1 e2 e3 e4 RK RP ht9 => ?_
    refine law_plain X C8 (jc := 5) rfl e1 e2 RK RP (by rw [← iv.len, ra.lx]; exact hn) hT hh hu fun s10 C9 => ?_
    refine ⟨2 + 1 - (i + 1), by omega, i + 1, m', pL3 c1 c2 c3, rfl, hlt, e3, e4, ⟨C9.ok 8 rfl, .inr ⟨c3, rfl, C9.code hc3 fun h => nomatch h⟩⟩, ?_⟩
    have C10 : Cx H0 (A.deeper (lE L lf cL)) (lE L lf cL :: l) [] (wiped s8 L) L m' ((pl, lstO pvals cp) :: (res, lstO rvals c) :: (f3, fo3) :: (IT, itO tl (i + 1)) :: (tl, lstO [.bool false, .bool true]) :: tLed rl dl L PL PR rs xs ep cd T tT (pL3 c1 c2 c3) pp) s10 := C9
    exact (un (un2 C10)).drop ((IT, itO tl (i + 1)) :: (tl, lstO [.bool false, .bool true]) :: tLed rl dl L PL PR rs xs ep cd T tT (pL3 c1 c2 c3) pp) (.cons _ (.cons _ (.cons _ (List.Sublist.refl _))))
  · have hin : i = 2 := by omega
    subst hin
    refine pyNext_end hh (C5.at 0 rfl) (C5.at 1 rfl) rfl fun h' e hm => ?_
    have C6 := C5.upd 0 (f := Obj.mapFields (·.setIfInBounds 0 .none)) rfl rfl nd_fields rfl (.inl (by simp)) nI.h
    have C6' : Cx H0 (A.deeper (lE L lf cL)) (lE L lf cL :: l) [PL, IT] (wiped s L) L m1 ((IT, Obj.mapFields (·.setIfInBounds 0 .none) (itO tl 2)) :: (tl, lstO [.bool false, .bool true]) :: tLed rl dl L PL PR rs xs ep cd T tT pq pp) _ := C6
    have C7 := C6'.call (made_go (H0 := H0) (M := []) (s := { s with heap := s.heap.update IT (Obj.mapFields (·.setIfInBounds 0 .none)) }) hm)
    refine wpAny_execs_nil ?_
    have C8 := C.unbaseM (un C7) fun p hp => .inl (by rw [List.mem_singleton.mp hp]; exact .head _)
    exact k m1 _ pq (C8.drop _ (.cons _ (.cons _ (List.Sublist.refl _)))) h2
end
end Mine
end
section
set_option maxRecDepth 100000
set_option autoImplicit false
set_option genInjectivity false
set_option genSizeOf false
namespace Mine
open PySem PySem.W PySem.Calls PyProof.Rows PySem.Spec

section
variable {K : Frag} {a : Adr} {H0 : Heap} {mg mb : Str → Option Value} {A : Around} {l : List Env} {s : Shared} {prog : Program} {w : World} {E : Value → Shared → Prop}
noncomputable abbrev tieWord : Str := Str.ofString "Unknown tie resolution method: "
theorem rank_ties (G : Gl K H0 mg mb) (FF : KF K a) (F : K1 K a) (S : St H0 A l s) {v : Value} {x : Str} {tx : Tok} (hx : (x.cps.toList != (Str.ofString "average").cps.toList) = true) (hr : (reprText x).length ≤ 100) (hr2 : (Str.empty ++ tieWord ++ reprText x).length ≤ 200) (hroom : A.depth < recursionLimit) (hh : A.handled = none) {R : Result → Shared → Prop}
    (k : ∀ e t s', Fly H0 [] s l e (.type "ValueError") (.ref t) [] s' → R (.error (.ref e)) s') :
    codeAny (model prog w) A (.call (.ref a.rank) ⟨[v], [(Str.ofString "ties", .str x tx)]⟩) R s := by
  refine enterFX G S FF.rank [] hroom (by decide) fun name doc pm an cdv ct E' => ?_
  obtain ⟨t, u, hk⟩ := rk_looks FF
  refine rank_bind_ties (S.X G) hk ⟨fun b o h => h, Nat.le_refl _, rfl, rfl, locs rfl, [], (fun p hp => by cases hp), .nil, fun L cdv s1 C => ?_⟩
  refine wpAny_execs_cons (wpAny_If (wpAny_isTrue_Compare1 (C.name rfl (wpAny_Constant_str (PySem.P.ne_str (wpAny_truthy_bool ?_))))))
  refine ite_yes' hx ?_
  have C1 := C.tok 1
  have hh' : (A.deeper (envOf "_rank" dRank.2.2 L a.rank cdv)).handled = none := hh
  refine wpAny_execs_cons (Raise_madeB PySem.F.excCall_ValueError PySem.F.excRaise_ValueError hh' (C1.boot G F.nve Boot.«ValueError» ⟨rfl, args_cons (wpAny_JoinedStr ?_)⟩))
  refine wpAny_Constant_str ⟨_, _, rfl, by decide, ?_⟩
  have C2 := C1.tok 1
  refine wpAny_FormattedValue_repr (C2.name rfl (pyReprObj_str ?_ (Nat.le_trans hr (by decide))))
  have C3 := C2.tok 1
  have hs1 : (reprText x).length ≤ sizeLine := Nat.le_trans hr (by decide)
  have hs2 : (Str.empty ++ tieWord ++ reprText x).length ≤ sizeLine := Nat.le_trans hr2 (by decide)
  refine wpAny_handedOn ?_ ?_ hs1
  · refine ⟨_, _, rfl, hs2, hs2, ?_⟩
    refine args_nil ⟨by show 1 ≤ _; decide, fun h' e hm => ?_⟩
    exact (C3.tok 1).raised (Heap.MadeExc.of hm) rfl fun t s'' fl _ => k _ _ _ fl
  · refine ⟨_, _, rfl, hs2, hs2, ?_⟩
    refine args_nil ⟨by show 1 ≤ _; decide, fun h' e hm => ?_⟩
    exact ((C3.tok 1).tok 1).raised (Heap.MadeExc.of hm) rfl fun t s'' fl _ => k _ _ _ fl
end
end Mine
end
section
set_option maxRecDepth 100000
set_option autoImplicit false
set_option genInjectivity false
set_option genSizeOf false
namespace Mine
open PySem PySem.W PySem.Calls PyProof.Rows PySem.Spec

section
variable {H0 : Heap} {M : List Addr} {s sE s' : Shared} {l : List Env} {env : Env} {e L : Addr} {cls a0 : Value} {led : List (Addr × Obj)} {MM : Model} {A : Around} {E : Value → Shared → Prop} {Q : Unit → Shared → Prop} {m : Str → Option Value}
theorem Fly.noteT (F : Fly H0 M s (env :: l) e cls a0 led s') (hfr : A.frames = some (env :: l)) (hf : env.frame = some L) (hQ : ∀ s'', Held H0 M s (env :: l) e cls a0 L led s'' → s'.heap.UpToSlots s''.heap → Q () s'') : wpAny MM A (noteFrame (.ref e) env) Q E s' := by
  obtain ⟨B, hB, h0, h1, hp, h2⟩ := F.ex
  refine wpAny_looks_onW hfr hf hB fun h' x1 x2 => hQ _ ⟨⟨B, x1, h0, h1, hp, h2⟩, fun p hp' => ⟨x1.1 _ _ (h2 p hp'), (F.has p hp').nd, fun dx q => ((F.has p hp').dx dx q).slots x2⟩, fun b o es n q hd => ?_, F.toks, F.gens, F.os⟩ x2
  obtain ⟨sl, h3⟩ := F.up b o es n q hd
  obtain ⟨sl', h4⟩ := upSlots x2 h3 hd
  exact ⟨sl', h4⟩
theorem Held.landsT (F : Held H0 M s l e cls a0 L led s') (hQ : ∀ s'', Fly H0 M s l e cls a0 led s'' → s'.heap.UpToSlots s''.heap → Q () s'') : wpAny MM A (setFlight (.ref e) none) Q E s' := by
  obtain ⟨B, hB, h0, h1, hp, h2⟩ := F.ex
  refine wpAny_landsW hB fun h' x1 x2 => hQ _ ⟨⟨B, x1, h0, h1, hp, h2⟩, fun p hp' => ⟨x1.1 _ _ (h2 p hp'), (F.has p hp').nd, fun dx q => ((F.has p hp').dx dx q).slots x2⟩, fun b o es n q hd => ?_, F.toks, F.gens, F.os⟩ x2
  obtain ⟨sl, h3⟩ := F.up b o es n q hd
  obtain ⟨sl', h4⟩ := upSlots x2 h3 hd
  exact ⟨sl', h4⟩
theorem Fly.againT (F : Fly H0 M s l e cls a0 led s') (hQ : ∀ s'', Fly H0 M s l e cls a0 led s'' → s'.heap.UpToSlots s''.heap → Q () s'') : wpAny MM A (setFlight (.ref e) none) Q E s' := by
  obtain ⟨B, hB, h0, h1, hp, h2⟩ := F.ex
  refine lands_againW hB fun h' x1 x2 => hQ _ ⟨⟨B, x1, h0, h1, hp, h2⟩, fun p hp' => ⟨x1.1 _ _ (h2 p hp'), (F.has p hp').nd, fun dx q => ((F.has p hp').dx dx q).slots x2⟩, fun b o es n q hd => ?_, F.toks, F.gens, F.os⟩ x2
  obtain ⟨sl, h3⟩ := F.up b o es n q hd
  obtain ⟨sl', h4⟩ := upSlots x2 h3 hd
  exact ⟨sl', h4⟩
end

structure TieW (x : Str) : Prop where
  ne : (x.cps.toList != (Str.ofString "average").cps.toList) = true
  r1 : (reprText x).length ≤ 100
  r2 : (Str.empty ++ tieWord ++ reprText x).length ≤ 200
noncomputable def tieOk (x : Str) : Bool := (x.cps.toList != (Str.ofString "average").cps.toList) && decide ((reprText x).length ≤ 100) && decide ((Str.empty ++ tieWord ++ reprText x).length ≤ 200)
theorem tieW {x : Str} (h : tieOk x = true) : TieW x := by
  unfold tieOk at h
  simp only [Bool.and_eq_true, decide_eq_true_eq] at h
  exact ⟨h.1.1, h.1.2, h.2⟩
noncomputable def avg : Str := Str.ofString "average"
noncomputable abbrev preAvg (j : Int) : Str := ⟨((Builtin.Str.strSliceIndices none (some j) 1 avg.length).filterMap (avg.cps[·]?)).toArray⟩
theorem preAvg_ok : ∀ j ∈ ([0, 1, 2, 3, 4, 5, 6] : List Int), ((Builtin.Str.strSliceIndices none (some j) 1 avg.length).length == avg.length) = false ∧ tieOk (preAvg j) = true ∧ (preAvg j).length ≤ 7 := by decide +kernel
theorem tie_slice {j : Int} (h0 : 0 ≤ j) (h7 : j < 7) {t u : Tok} {Q : Value → Shared → Prop} {s : Shared} (h : ∀ x, TieW x → Q (.str x s.toks) (tk s 1)) : (sliceMade avg t none (some (j, u)) none).post Q s := by
  obtain ⟨h1, h2, h3⟩ := preAvg_ok j (by simp only [List.mem_cons, List.not_mem_nil, or_false]; omega)
  unfold sliceMade
  have hc : (((Option.map (·.1) (none : Option (Int × Tok))).getD 1 == 1) && ((slicePicked avg none (some (j, u)) none).length == avg.length)) = false := by
    show (true && ((Builtin.Str.strSliceIndices none (some j) 1 avg.length).length == avg.length)) = false
    rw [h1]; rfl
  rw [if_neg (by rw [hc]; decide)]
  exact ⟨Nat.le_trans h3 (by decide), h _ (tieW h2)⟩
end Mine
end
section
set_option maxRecDepth 100000
set_option autoImplicit false
set_option genInjectivity false
set_option genSizeOf false
namespace Mine
open PySem PySem.W PySem.Calls PyProof.Rows PySem.Spec
section
variable {K : Frag} {a : Adr} {H0 : Heap} {mg mb : Str → Option Value} {rf cR PR lf cL PL : Addr} {A : Around} {l : List Env} {prog : Program} {w : World}
noncomputable def Words (ws : List Value) : Prop := ∀ v ∈ ws, ∃ x t, v = .str x t ∧ TieW x
structure TieI (H0 : Heap) (A : Around) (l : List Env) (M : List Addr) (sE : Shared) (L IT tl dl : Addr) (ws : List Value) (led : List (Addr × Obj)) (n : Nat) (s : Shared) : Prop where
  ex : ∃ (i : Nat) (m : Str → Option Value), n = 6 + 1 - i ∧ i ≤ 6 ∧ m "script" = some (.ref dl) ∧ Cx H0 A l M sE L m ((IT, itO tl i) :: (tl, lstO ws) :: led) s
theorem Cx.pushF {H0 : Heap} {A : Around} {l : List Env} {M : List Addr} {sE : Shared} {L : Addr} {m : Str → Option Value} {led : List (Addr × Obj)} {s : Shared} (C : Cx H0 A l M sE L m led s) (o : Obj) : Cx H0 A l M sE L m led { s with heap := s.heap.push o } :=
  C.ext (fun b o e => Heap.get?_push_of_some _ e) (Nat.le_refl _) rfl rfl
noncomputable def forOf (s : Stmt) : Expr × List Stmt × List Stmt := match s with
  | .For t _ b e _ => (t, b, e)
  | _ => (.Constant .none 0 default, [], [])
noncomputable abbrev tF : Expr × List Stmt × List Stmt := forOf (lawS 6)
set_option maxHeartbeats 8000000 in
theorem ties_loop (X : Ctx2 K a H0 mg mb rf cR PR lf cL PL) {dl tl : Addr} {L : Addr} {s1 sW : Shared} {m : Str → Option Value} {M : List Addr} {led : List (Addr × Obj)} {ws : List Value}
    (C : Cx H0 (A.deeper (lE L lf cL)) (lE L lf cL :: l) M sW L m ((tl, lstO ws) :: led) s1) (hwl : ws.length = 6) (hw : Words ws) (hms : m "script" = some (.ref dl))
    (hroom : A.depth + 20 < recursionLimit) (hh : A.handled = none)
    {Q : Flow → Shared → Prop} {E : Value → Shared → Prop}
    (k : ∀ m' s', Cx H0 (A.deeper (lE L lf cL)) (lE L lf cL :: l) M sW L m' led s' → Q .next s') :
    wpAny (model prog w) (A.deeper (lE L lf cL)) (pyIter (.ref tl)) (fun it s₁ => codeAny (model prog w) (A.deeper (lE L lf cL)) (.forLoop tF.1 it tF.2.1 tF.2.2 (lE L lf cL)) (rLoop (model prog w) (A.deeper (lE L lf cL)) (lE L lf cL) Q E) s₁) E s1 := by
  have hh' : (A.deeper (lE L lf cL)).handled = none := hh
  refine wpAny_pyIter_list (isl (C.at 0 rfl)) ?_
  have nI := C.noE (a := s1.heap.objs.size) not_at
  have C1 := C.push (itO tl 0) rfl nd_fields rfl
  generalize hIe : s1.heap.objs.size = IT at *
  refine codeAny_forLoop_any (TieI H0 (A.deeper (lE L lf cL)) (lE L lf cL :: l) M sW L IT tl dl ws led) (fun n s V => ?_) (6 + 1) ⟨0, m, rfl, Nat.zero_le _, hms, C1⟩
  obtain ⟨i, m1, rfl, hi, h1, C2⟩ := V
  have CB := C2.rebase.mono (M' := [IT]) fun p hp => nomatch hp
  have un : ∀ {m' : Str → Option Value} {led' : List (Addr × Obj)} {s' : Shared}, Cx H0 (A.deeper (lE L lf cL)) (lE L lf cL :: l) [IT] (wiped s L) L m' led' s' → Cx H0 (A.deeper (lE L lf cL)) (lE L lf cL :: l) M sW L m' led' s' := fun C'' => C2.unbaseM C'' fun p hp => by rw [List.mem_singleton.mp hp]; exact .inr nI.e
  by_cases hlt : i < 6
  · obtain ⟨v, hv⟩ : ∃ v, ws[i]? = some v := ⟨ws[i]'(by omega), List.getElem?_eq_getElem _⟩
    obtain ⟨x, t, rfl, hx⟩ := hw v (List.mem_of_getElem? hv)
    refine pyNext_item (CB.at 0 rfl) (CB.at 1 rfl) hv ?_
    have C3 := CB.upd 0 (f := Obj.mapFields (·.setIfInBounds 1 (rawInt ((i : Int) + 1)))) rfl rfl nd_fields rfl (.inl (by simp)) nI.h
    have C3' : Cx H0 (A.deeper (lE L lf cL)) (lE L lf cL :: l) [IT] (wiped s L) L m1 ((IT, itO tl (i + 1)) :: (tl, lstO ws) :: led) _ := C3
    refine wpAny_pure ?_
    refine PySem.wpAny_assign_Name (C3'.setE fun s7 C7 => ?_)
    have C8 := un C7
    have h1' : updM m1 (Str.ofString "ties") (.str x t) (Str.ofString "script") = some (.ref dl) := upne (by decide) h1
    refine wpAny_execs_cons ?_
    refine wpAny_Try_except ?_
    refine wpAny_execs_cons ?_
    refine wpAny_Expr_any ?_
    refine wpAny_Call_Name_kw (C8.globalE X.G X.F.nrank (callWith_KW (C8.st.X X.G) X.F.krank rfl ?_))
    refine args_cons (C8.nameE h1' (args_nil (kws_cons (C8.nameE rfl (kws_nil ⟨C8.st.X X.G, wpAny_call ?_⟩)))))
    refine rank_ties X.G X.FF X.F C8.st hx.ne hx.r1 hx.r2 (by show A.depth + 1 < _; omega) hh' fun e te s8 fl => ?_
    refine fl.noteT C8.st.frames rfl fun s9 hd9 up9 => ?_
    refine hd9.landsT fun s10 fl10 up10 => ?_
    have C10 := (C8.call fl10.go).around (A' := (A.deeper (lE L lf cL)).mark (some (.ref e))) rfl
    refine wpAny_handleBy_builtin (X := "ValueError") (T := "ValueError") (b := true) PySem.F.isExc_ValueError PySem.F.notTuple_ValueError (by rw [isSubtype_type]; kernel_rfl) ?_
    refine C10.bootE X.G X.F.nve Boot.«ValueError» ⟨rfl, fl10.typ, ?_⟩
    refine ite_yes' rfl ?_
    refine fl10.againT fun s11 fl11 up11 => ?_
    have C11 := C8.call fl11.go
    refine wpAny_execs_cons (wpAny_Pass (wpAny_execs_nil (wpAny_execs_nil ?_)))
    exact ⟨6 + 1 - (i + 1), by omega, i + 1, _, rfl, hlt, h1', C11⟩
  · have hin : i = 6 := by omega
    subst hin
    refine pyNext_end hh (CB.at 0 rfl) (CB.at 1 rfl) (by rw [List.getElem?_eq_none_iff]; omega) fun h' e hm => ?_
    have C6 := CB.upd 0 (f := Obj.mapFields (·.setIfInBounds 0 .none)) rfl rfl nd_fields rfl (.inl (by simp)) nI.h
    have C6' : Cx H0 (A.deeper (lE L lf cL)) (lE L lf cL :: l) [IT] (wiped s L) L m1 ((IT, Obj.mapFields (·.setIfInBounds 0 .none) (itO tl 6)) :: (tl, lstO ws) :: led) _ := C6
    have C7 := C6'.call (made_go (H0 := H0) (M := []) (s := { s with heap := s.heap.update IT (Obj.mapFields (·.setIfInBounds 0 .none)) }) hm)
    refine wpAny_execs_nil ?_
    exact k m1 _ ((un C7).drop led (.cons _ (.cons _ (List.Sublist.refl _))))
end
end Mine
end
section
set_option maxRecDepth 100000
set_option autoImplicit false
set_option genInjectivity false
set_option genSizeOf false
namespace Mine
open PySem PySem.W PySem.Calls PyProof.Rows PySem.Spec
section
variable {K : Frag} {a : Adr} {H0 : Heap} {mg mb : Str → Option Value} {rf cR PR lf cL PL : Addr} {A : Around} {l : List Env} {prog : Program} {w : World}
set_option maxHeartbeats 8000000 in
theorem law_ties (X : Ctx2 K a H0 mg mb rf cR PR lf cL PL) {dl : Addr} {jc : Nat} {T : Int} {tT : Tok} {L : Addr} {s1 sW : Shared} {m : Str → Option Value} {M : List Addr} {led : List (Addr × Obj)}
    (C : Cx H0 (A.deeper (lE L lf cL)) (lE L lf cL :: l) M sW L m led s1) (jc' : led[jc]? = some (L + 1, cellO (some (.int T tT)))) (hms : m "script" = some (.ref dl))
    (hroom : A.depth + 20 < recursionLimit) (hh : A.handled = none)
    {Q : Flow → Shared → Prop} {E : Value → Shared → Prop}
    {rest : List Stmt} (hrest : rest = [lawS 6, lawS 7]) (k : ∀ m' s', Cx H0 (A.deeper (lE L lf cL)) (lE L lf cL :: l) M sW L m' led s' → Q (.ret (.bool true)) s') :
    wpAny (model prog w) (A.deeper (lE L lf cL)) (execs rest (lE L lf cL)) Q E s1 := by
  rw [hrest]
  have hh' : (A.deeper (lE L lf cL)).handled = none := hh
  refine wpAny_execs_cons ?_
  refine wpAny_For ?_
  refine lst_made ?_
  refine args_cons (wpAny_Constant_str ?_)
  refine args_cons (wpAny_Constant_str ?_)
  refine args_cons (wpAny_Constant_str ?_)
  refine args_cons (wpAny_Constant_str ?_)
  refine args_cons (wpAny_Constant_str ?_)
  refine args_cons ?_
  have C1 := C.tok 5
  refine Subscript_ (wpAny_Constant_str (wpAny_Slice ?_))
  refine wpAny_pure ?_
  show wpAny _ _ (eval _ _) _ _ _
  have C2 := C1.tok 1
  refine wpAny_BinOp (C2.ldCell jc jc' rfl (wpAny_Constant_int (PyProof.Rows.mod_int (by decide) ?_)))
  have C3 := C2.tok 2
  refine wpAny_pure ?_
  refine subscriptTail_builtin (typeIs_str _ _ _) slot_str_getitem.lookup (wpAny_getItem_str_slice (l := none) (u := some (T.fmod 7, _)) (st := none) ⟨_, Heap.get?_push_size _ rfl, rfl, rfl⟩ rfl ?_)
  have f0 := Int.fmod_nonneg_of_pos T (show (0 : Int) < 7 by decide)
  have f7 := Int.fmod_lt_of_pos T (show (0 : Int) < 7 by decide)
  refine tie_slice f0 f7 fun x hx => ?_
  refine args_nil ⟨H0, _, _, _, sW, L, _, _, (C3.pushF _).tok 1, by rw [sizeLine_eq]; show 6 ≤ _; decide, fun tl s2 C5 n5 n5' => ?_⟩
  have hW : Words [.str (Str.ofString "min") s1.toks, .str (Str.ofString "max") (tk s1 1).toks, .str (Str.ofString "first") (tk s1 2).toks, .str (Str.ofString "dense") (tk s1 3).toks, .str (Str.ofString "averages") (tk s1 4).toks, .str x (s1.toks + 5 + 1 + 2)] := fun v hv => by
    simp only [List.mem_cons, List.not_mem_nil, or_false] at hv
    rcases hv with rfl | rfl | rfl | rfl | rfl | rfl
    · exact ⟨_, _, rfl, tieW (by decide +kernel)⟩
    · exact ⟨_, _, rfl, tieW (by decide +kernel)⟩
    · exact ⟨_, _, rfl, tieW (by decide +kernel)⟩
    · exact ⟨_, _, rfl, tieW (by decide +kernel)⟩
    · exact ⟨_, _, rfl, tieW (by decide +kernel)⟩
    · exact ⟨_, _, rfl, hx⟩
  obtain ⟨ws, hws⟩ : ∃ ws, ws = [Value.str (Str.ofString "min") s1.toks, .str (Str.ofString "max") (tk s1 1).toks, .str (Str.ofString "first") (tk s1 2).toks, .str (Str.ofString "dense") (tk s1 3).toks, .str (Str.ofString "averages") (tk s1 4).toks, .str x (s1.toks + 5 + 1 + 2)] := ⟨_, rfl⟩
  have C6 : Cx H0 (A.deeper (lE L lf cL)) (lE L lf cL :: l) M sW L m ((tl, lstO ws) :: led) s2 := by rw [hws]; exact C5
  rw [← hws] at hW
  have hwl : ws.length = 6 := by rw [hws]; rfl
  refine ties_loop X C6 hwl hW hms hroom hh fun m' s' C' => ?_
  show wpAny _ _ (execs [lawS 7] _) _ _ _
  refine wpAny_execs_cons ?_
  refine wpAny_Return_some (wpAny_Constant_bool ?_)
  exact k _ _ C'
end
end Mine
end
section
set_option maxRecDepth 100000
set_option autoImplicit false
set_option genInjectivity false
set_option genSizeOf false
namespace Mine
open PySem PySem.W PySem.Calls PyProof.Rows PySem.Spec
section
variable {K : Frag} {a : Adr} {H0 : Heap} {mg mb : Str → Option Value} {rf cR PR lf cL PL : Addr} {A : Around} {l : List Env} {s : Shared} {prog : Program} {w : World}
theorem rest6 : ∃ rest, dLaw.2.1.drop 5 = lawS 5 :: rest ∧ rest = [lawS 6, lawS 7] := ⟨_, rfl, rfl⟩
set_option maxHeartbeats 4000000 in
theorem law_spec (X : Ctx2 K a H0 mg mb rf cR PR lf cL PL) (S : St H0 A l s) {sl : Addr} {vs : List Value} {c0 : Nat} {ns : List Int} (hs : Okk s.heap (sl, lstO vs c0)) (fr : FreshI vs ns s.toks) (hlen : ns.length ≤ 63) (hPR : Okk s.heap (PR, tabObj #[])) (hPL : Okk s.heap (PL, tabObj #[])) (hne : PL ≠ PR) (hroom : A.depth + 20 < recursionLimit) (hh : A.handled = none) (hu : A.units + 50 < cLine) {R : Result → Shared → Prop}
    (k : ∀ s' pq pp, Go H0 [PL, PR] s s' → s'.heap.get? PL = some (tabObj pq) → s'.heap.get? PR = some (tabObj pp) → R (.ok (.ret (.bool true))) s') :
    codeAny (model prog w) A (.call (.ref lf) ⟨[.ref sl], []⟩) R s := by
  have fr20 := fr.take 20
  refine law_head X S hs fr hlen hPR hPL hne hroom hh fun L rl rs ps dl ep cd T tT m s1 C1 hmr hms ra hT nw => ?_
  have hn : rs.length ≤ 20 := by rw [← ra.lx]; exact List.length_take_le _ _
  refine law_outer X C1 hmr hms ra fr20.iv fr20.olds C1.go.toks hn hT hroom hh hu fun c1 c2 m2 pp s2 s3 C3 hmr2 hms2 ra2 ht2 unb => ?_
  have raS : RowsAt s3.heap rs ps (vs.take 20) := ra2.cx C3 fun p hp => by
    simp only [List.mem_cons, List.not_mem_nil, or_false] at hp
    rcases hp with rfl | rfl
    · exact ra.not (C1.at 3 rfl) (by decide)
    · exact ra.not (C1.at 4 rfl) (by decide)
  obtain ⟨rest, hr5, hr6⟩ := rest6
  refine law_turns X C3 hmr2 hms2 raS fr20.iv fr20.olds fr20.key (Nat.le_trans C1.go.toks (Nat.le_trans ht2 C3.go.toks)) hn hT hroom hh hu hr5 fun m4 s4 pq C4 hms4 => ?_
  refine law_ties X C4 (jc := 2) rfl hms4 hroom hh hr6 fun m5 s5 C5 => ?_
  exact k s5 pq pp (unb C5).go (C5.at 3 rfl) (C5.at 4 rfl)
end
end Mine
end
section
set_option maxRecDepth 100000
set_option autoImplicit false
set_option genInjectivity false
set_option genSizeOf false
namespace Mine
open PySem PySem.W PySem.Calls PyProof.Rows PySem.Spec
theorem codeHd_table {h : Heap} {c P : Addr} (x : CodeHd h c P) : isCodeTable h P := by
  obtain ⟨o, vs, _, _, _, _, _, _, _, h1, h2, h3, h4, _⟩ := x
  exact ⟨c, o, vs, h1, h2, h3, h4⟩
theorem ns_hide {h : Heap} {L : Addr} {m : Str → Option Value} {as : List Addr} (n : h.Ns L m) (hL : L ∉ as) : (hideAll h as).Ns L m := by
  obtain ⟨o, es, ep, e, r⟩ := n
  exact ⟨o, es, ep, hideAll_get _ e hL, r⟩
set_option maxHeartbeats 1000000 in
theorem endLaw1 {K : Frag} {a : Adr} {rf cR PR lf cL PL : Addr} (FF : KF K a) (F : K1 K a) (FR : FnC K rf "_law_right" dRight cR PR) (FL : FnC K lf "law" dLaw cL PL)
    (nR : nsIn K mainGlobals "_law_right" = some (some (.ref rf))) (kR : keepIn K (.ref rf) = true) (hPRk : K.lookup PR = none) (hPLk : K.lookup PL = none)
    {prog : Program} {w : World} {s : Shared} {mg mb : Str → Option Value} (KX : K.In s.heap) (g : s.heap.Ns mainGlobals mg) (gb : s.heap.Ns builtinsNs mb) (boot : ∀ x : Str, x ≠ "__name__" → mb x = bootBuiltins x)
    (lim : s.heap.NoLimit) (nob : NoneBooked s.heap) (bmain : ∃ bm ob, mg "__builtins__" = some (.ref bm) ∧ bm ≠ builtinsNs ∧ s.heap.get? bm = some ob ∧ ob.cls = .type "module" ∧ ob.dict = some builtinsNs ∧ ob.data = .plain)
    (hPR : s.heap.get? PR = some (tabObj #[])) (hPL : s.heap.get? PL = some (tabObj #[])) (hne : PL ≠ PR) (hg : mainGlobals ∉ [PL, PR]) (hb : builtinsNs ∉ [PL, PR]) (hc : cStatics ∉ [PL, PR])
    {sl : Addr} {vs : List Value} {ns : List Int} (hsl : s.heap.get? sl = some (lstO vs)) (fr : FreshI vs ns s.toks) (hle : ns.length ≤ 63) (hgen : AllBare s.gens) (htok : 0 < s.toks) {Q : Value → Shared → Prop} {E : Value → Shared → Prop}
    (k : ∀ s', OldK s.heap s'.heap → s'.os = s.os → AllBare s'.gens → Q (.bool true) s') : wpAny (model prog w) callerA (call (.ref lf) [.ref sl]) Q E s := by
  have hH : ∀ b o, (hideAll s.heap [PL, PR]).get? b = some o → s.heap.get? b = some o := fun b o e => of_hideAll _ e
  have hKn : ∀ p ∈ [PL, PR], K.lookup p = none := fun p hp => by
    simp only [List.mem_cons, List.not_mem_nil, or_false] at hp
    rcases hp with rfl | rfl
    · exact hPLk
    · exact hPRk
  have KX0 : K.In (hideAll s.heap [PL, PR]) := fun b o e => hideAll_get _ (KX b o e) fun hm => by rw [hKn b hm] at e; cases e
  have G : Gl K (hideAll s.heap [PL, PR]) mg mb := ⟨KX0, ns_hide g hg, ns_hide gb hb, boot, by
    obtain ⟨mc, h1, h2⟩ := lim
    exact ⟨mc, ns_hide h1 hc, h2⟩, by
    obtain ⟨mc, h1, h2⟩ := nob
    exact ⟨mc, ns_hide h1 hc, h2⟩⟩
  have B : Bm (hideAll s.heap [PL, PR]) mg := by
    obtain ⟨bm, ob, h1, h2, h3, h4, h5⟩ := bmain
    refine ⟨bm, ob, h1, h2, hideAll_get _ h3 fun hm => ?_, h4, h5⟩
    simp only [List.mem_cons, List.not_mem_nil, or_false] at hm
    rcases hm with rfl | rfl
    · rw [hPL] at h3; cases h3; cases h4
    · rw [hPR] at h3; cases h3; cases h4
  have X : Ctx2 K a (hideAll s.heap [PL, PR]) mg mb rf cR PR lf cL PL := ⟨⟨G, B, FF, F, FR, hideAll_none _ (by simp)⟩, FL, hideAll_none _ (by simp), nR, kR⟩
  have S : St (hideAll s.heap [PL, PR]) callerA [] s := ⟨hH, rfl, fun _ h => (nomatch h), htok⟩
  refine wpAny_call (law_spec X S (okk_lst hsl) fr hle (.of hPR nd_fields rfl) (.of hPL nd_fields rfl) hne (by decide +kernel) rfl (by decide +kernel) fun s' pq pp gg h1 h2 => ?_)
  refine k s' ⟨fun b o e => ?_, fun b o e => ?_⟩ gg.os (gg.gens hgen)
  · by_cases hm : b ∈ [PL, PR]
    · simp only [List.mem_cons, List.not_mem_nil, or_false] at hm
      rcases hm with rfl | rfl
      · rw [hPL] at e; cases e
        exact .inr (.inl ⟨codeHd_table (FL.hd _ KX), rfl, #[], pq, rfl, by simpa using h1⟩)
      · rw [hPR] at e; cases e
        exact .inr (.inl ⟨codeHd_table (FR.hd _ KX), rfl, #[], pp, rfl, by simpa using h2⟩)
    · exact .inl (gg.glob hH b o (hideAll_get _ e hm))
  · by_cases hm : b ∈ [PL, PR]
    · simp only [List.mem_cons, List.not_mem_nil, or_false] at hm
      rcases hm with rfl | rfl
      · exact ⟨_, h1⟩
      · exact ⟨_, h2⟩
    · exact ⟨_, gg.glob hH b o (hideAll_get _ e hm)⟩
end Mine
end
section
set_option maxRecDepth 100000
set_option autoImplicit false
namespace Mine
open PySem PySem.W PySem.Calls PyProof.Rows PySem.Spec
theorem FnK.of {K : Frag} {f : Addr} {qual : Str} {d : Arguments × List Stmt × Scope} {dV kV : Value} {name : Str} {doc pm : Value} {an : Option Addr} {cdv ct oc : Value} {od : Option Addr} {osl : Array (Option Value)}
    (h : K.lookup f = some ⟨oc, od, .func (fnOf name qual d.1 d.2.1 d.2.2 dV kV doc pm an cdv ct), osl⟩) (h2 : codeIn K cdv qual = true) : FnK K f qual d dV kV := ⟨_, _, _, _, _, _, _, _, _, h, h2⟩
theorem SlotK.of {K : Frag} {c : Addr} {name : Str} {i : Nat} {p : Addr} (h1 : findIn K (.ref c) name = some (some (.ref p))) (h2 : specialIn K (.ref p) "__get__" = some (some (.builtin "member_descriptor.__get__"))) (h3 : takesIn K (.ref p) = some true)
    (h4 : takerIn K c name = some (some (.ref p))) (h5 : typeIn K (.ref p) = some (.type "member_descriptor")) (h6 : slotIn K p c = some i) (h7 : i < 1000) : SlotK K c name i := ⟨⟨p, h1, h2, h3, h4, h5, h6⟩, h7⟩
noncomputable def aA : Adr := ⟨35, 42, 83, 58, 65, 72, 79, 128, 110, 117, 124, 140, 181, 156, 163, 170, 226, 201, 208, 237, 51, 149, 230⟩
set_option maxHeartbeats 4000000 in
theorem kfH (P : Params) : KF (kH P) aA := by
  constructor
  all_goals first
    | kernel_rfl
    | exact FnK.of (by with_unfolding_all rfl) (by kernel_rfl)
    | exact SlotK.of (by with_unfolding_all rfl) (by kernel_rfl) (by kernel_rfl) (by kernel_rfl) (by kernel_rfl) (by kernel_rfl) (by decide)
    | exact ⟨_, _, by with_unfolding_all rfl, by with_unfolding_all rfl⟩
    | exact ⟨_, _, _, _, by with_unfolding_all rfl, by with_unfolding_all rfl⟩
    | exact ⟨_, by with_unfolding_all rfl⟩
    | (constructor <;> kernel_rfl)
end Mine
end
section
set_option maxRecDepth 100000
set_option autoImplicit false
set_option genInjectivity false
set_option genSizeOf false
namespace Mine
open PySem PySem.W PySem.Calls PyProof.Rows PySem.Spec
theorem k1H (P : Params) : K1 (kH P) aA := by
  constructor
  all_goals kernel_rfl
theorem hd_of {K : Frag} {c P : Addr} {od : Option Addr} {vs : Array Value} {osl : Array (Option Value)} {file : Str} {tf : Tok} {flags : Int} {tg : Tok} {inF : Bool} {text : Int} {tt : Tok} (h : K.lookup c = some ⟨.type "code", od, .fields vs, osl⟩)
    (h1 : vs[11]? = some (.ref P)) (h2 : vs.getD 11 .none = .ref P) (h3 : vs.getD 18 .none = .str file tf) (h4 : vs.getD 7 .none = .int flags tg) (h5 : vs.getD 9 .none = .bool inF) (h6 : vs.getD 10 .none = .int text tt) (h7 : c ≠ P) (h' : Heap) (X : K.In h') : CodeHd h' c P :=
  ⟨_, vs, file, tf, flags, tg, inF, text, tt, X _ _ h, rfl, rfl, h1, h2, h3, h4, h5, h6, h7⟩
theorem frH (P : Params) : FnC (kH P) 242 "_law_right" dRight 241 239 :=
  ⟨⟨_, _, _, _, _, _, _, _, by with_unfolding_all rfl⟩, by kernel_rfl, hd_of (by with_unfolding_all rfl) rfl rfl rfl rfl rfl rfl (by decide)⟩
theorem flH (P : Params) : FnC (kH P) 247 "law" dLaw 246 244 :=
  ⟨⟨_, _, _, _, _, _, _, _, by with_unfolding_all rfl⟩, by kernel_rfl, hd_of (by with_unfolding_all rfl) rfl rfl rfl rfl rfl rfl (by decide)⟩
theorem nRH (P : Params) : nsIn (kH P) mainGlobals "_law_right" = some (some (.ref 242)) := by kernel_rfl
theorem kRH (P : Params) : keepIn (kH P) (.ref 242) = true := by kernel_rfl
theorem lR (P : Params) : (kH P).lookup 239 = none := by kernel_rfl
theorem lL (P : Params) : (kH P).lookup 244 = none := by kernel_rfl
theorem lookup_append {α β : Type} [BEq α] {l1 l2 : List (α × β)} {a : α} {o : β} (h : l1.lookup a = some o) : (l1 ++ l2).lookup a = some o := by
  rw [List.lookup_append, h]; rfl
theorem in_left {P : Params} {h : Heap} (X : Frag.In (kHT P) h) : Frag.In (kH P) h := fun b o e => X b o (lookup_append e)
theorem tabR1 (P : Params) : (kHT P).lookup 239 = some (tabObj #[]) := by kernel_rfl
theorem tabL1 (P : Params) : (kHT P).lookup 244 = some (tabObj #[]) := by kernel_rfl
end Mine
end
set_option Elab.async false
set_option maxRecDepth 100000
open PySem PySem.W PyProof.Rows
open PySem.W.X PySem.W.ZRun
theorem Mine.said1 : PySem.Challenge.rw_kq0026_01.wellSaid = true := by kernel_rfl
theorem Mine.ref_inj {a b : Addr} (h : some (Value.ref a) = some (Value.ref b)) : a = b := Value.ref.inj (Option.some.inj h)
set_option maxRecDepth 100000 in
set_option maxHeartbeats 8000000 in
theorem PySem.Challenge.cw_kq0026_01_holds : PySem.Challenge.rw_kq0026_01.Holds := by
  w_on
  refine holds_law Mine.said1 fun said => ?_
  refine holds_openX (q := Mine.vw) (loose := Mine.lsH) (Xt := fun s => xlAt Mine.vw [] s && recOk PySem.Challenge.rw_kq0026_01.row.records s) (XP := XL Mine.vw []) (Yf := obsZ Mine.aH) (Ya := valZ Mine.kHT 248 540) (N := 3800) ?hl ?h1 ?h2 (by rfl) (by rfl) (by rfl) ?h6 ?h7 ?h8 ?h9 ?h10 ?hw ?hc
  case hl => exact Mine.left
  case h1 => exact (fun s e => xl_of s (Bool.and_eq_true_iff.mp e).1)
  case h2 => exact XL.keeps
  case h6 => exact (fun s e => recFacts_of (Bool.and_eq_true_iff.mp e).2)
  case h7 => rfl
  case h8 => first | assumption | decide +kernel
  case h9 => decide +kernel
  case h10 => exact ⟨rfl, rfl, rfl, rfl, rfl, by decide +kernel⟩
  case hw => w_witness2
  intro w s₀ s₁ mg mb G y fa o pm cd doc dV kV ho hd hcd hD hmg hg args vals as L hpre hlay hrd hwl hlo
  obtain ⟨_, ZI, ZN, ZT⟩ := z_facts (K := Mine.kHT) (fun _ => rfl) y
  have KXT : Frag.In (Mine.kHT w.params) s₁.heap := InK.keeps w s₀.heap s₁.heap ZI L.keeps
  have KX : Frag.In (Mine.kH w.params) s₁.heap := Mine.in_left KXT
  have hPR : s₁.heap.get? 239 = some (tabObj #[]) := KXT _ _ (Mine.tabR1 _)
  have hPL : s₁.heap.get? 244 = some (tabObj #[]) := KXT _ _ (Mine.tabL1 _)
  refine Ground.open G ?_
  intro T B D TE TW
  wrow_args hpre hlay hrd hwl hlo
  obtain ⟨hat, hsz⟩ := script_at L
  have htk := script_toks L ZT
  rw [ZN] at hat hsz
  subst hat
  obtain ⟨vs0, hvs0, hfr0⟩ := Mine.script_fresh L (by rw [ZT]; decide)
  have hfa : fa = 247 := by
    have e := mg_of KX T.g (n := Str.ofString "law") (v := .ref 247) (by kernel_rfl)
    have e2 := hmg.symm.trans e
    exact Mine.ref_inj e2
  subst hfa
  show wpAny _ _ (PySem.call (.ref 247) [.ref 248]) _ _ _
  refine Mine.endLaw1 (Mine.kfH w.params) (Mine.k1H w.params) (Mine.frH w.params) (Mine.flH w.params) (Mine.nRH w.params) (Mine.kRH w.params) (Mine.lR w.params) (Mine.lL w.params) KX T.g T.b T.builtins T.nolimit (Mine.nob_of KX T.nodigits ?nb) T.bmain hPR hPL (by decide) (by decide) (by decide) (by decide) hvs0 hfr0 ?hle ?hgen ?htok ?kont
  case nb => kernel_rfl
  case hle => omega
  case htok => exact Nat.lt_of_lt_of_le (by decide) htk
  case hgen => rw [hg]; exact AllBare.empty
  case kont =>
    intro s' hk hos hbare
    exact ⟨.inl ⟨_, _, [], rfl, fun _ => rfl, ReadsW.bool true, by first | rfl | wrow_post, fun _ => ⟨List.nodup_nil, fun _ hm => (nomatch hm)⟩⟩, hk, hos, hbare⟩
