import PyProof.Rows.All
import Wide.All
import OpenK.AllK
import Wide.FinOn
import PyProof.ZipIter
import PyProof.ListNew
import PyProof.FactsAll.dict_1
import PyProof.AttrMiss
import PyProof.MeetsSeq
import PySem.Challenge.RW_ez0195_01
set_option Elab.async false
set_option linter.unusedVariables false
set_option linter.unusedSimpArgs false
section
namespace Mine
open PySem PySem.W PySem.Calls PyProof.Rows
open Sem (wp)

/-- a code that is not the collector's own turn over what it found -/
def tidy : Code → Bool
  | .builtin id _ => id != "lifetime.gc.finalise"
  | _ => true
def TidyC (Γ : Ctx) : Prop := tidy Γ.code = true ∧ ∀ x ∈ Γ.below, tidy x.1 = true

def wpN {α : Type} (M : Model) (A : Around) (t : Sem α) (Q : α → Shared → Prop) (E : Value → Shared → Prop) (s : Shared) : Prop :=
  ∀ Γ p, Γ.In A → TidyC Γ → wp M Γ t (fun a _ s' => Q a s') (fun e _ s' => E e s') p s
def codeN (M : Model) (A : Around) (c : Code) (R : Result → Shared → Prop) (s : Shared) : Prop :=
  ∀ Γ p, Γ.code = c → Γ.Below A → TidyC Γ → wpCode M Γ R p s

section
variable {α β : Type} {M : Model} {A : Around} {E : Value → Shared → Prop} {s : Shared} {env : Env}

theorem n_any {t : Sem α} {Q : α → Shared → Prop} (h : wpAny M A t Q E s) : wpN M A t Q E s := fun Γ p hΓ _ => h Γ p hΓ
theorem n_code {c : Code} {R : Result → Shared → Prop} (h : codeAny M A c R s) : codeN M A c R s := fun Γ p hc hΓ _ => h Γ p hc hΓ
theorem n_mono {t : Sem α} {Q Q' : α → Shared → Prop} {E' : Value → Shared → Prop} (h : wpN M A t Q E s) (hQ : ∀ a s, Q a s → Q' a s) (hE : ∀ e s, E e s → E' e s) :
    wpN M A t Q' E' s := fun Γ p hΓ hT => Sem.wp_mono M Γ t (fun a _ s => hQ a s) (fun e _ s => hE e s) p s (h Γ p hΓ hT)
theorem n_codeMono {c : Code} {R R' : Result → Shared → Prop} (h : codeN M A c R s) (hR : ∀ r s, R r s → R' r s) : codeN M A c R' s :=
  fun Γ p hc hΓ hT => wpCode_mono hR (h Γ p hc hΓ hT)
theorem n_pure {a : α} {Q : α → Shared → Prop} (h : Q a s) : wpN M A (pure a) Q E s := fun _ _ _ _ => h
theorem n_bind {m : Sem α} {f : α → Sem β} {Q : β → Shared → Prop} (h : wpN M A m (fun a s' => wpN M A (f a) Q E s') E s) : wpN M A (m >>= f) Q E s :=
  fun Γ p hΓ hT => by
    rw [Sem.wp_bind']
    exact Sem.wp_mono M Γ m (fun a p' s' h' => h' Γ p' hΓ hT) (fun _ _ _ h' => h') p s (h Γ p hΓ hT)
/-- the first part by the library's logic, what follows by this one -/
theorem n_then {m : Sem α} {f : α → Sem β} {Q : β → Shared → Prop} (h : wpAny M A m (fun a s' => wpN M A (f a) Q E s') E s) : wpN M A (m >>= f) Q E s := n_bind (n_any h)
theorem n_try {m : Sem α} {k : Value → Sem α} {Q : α → Shared → Prop} (h : wpN M A m Q (fun e s' => wpN M A (k e) Q E s') s) : wpN M A (tryCatch m k) Q E s :=
  fun Γ p hΓ hT => by
    rw [Sem.wp_tryCatch']
    exact Sem.wp_mono M Γ m (fun _ _ _ h' => h') (fun e p' s' h' => h' Γ p' hΓ hT) p s (h Γ p hΓ hT)
theorem n_onRaise {m : Sem α} {k : Value → Sem Unit} {Q : α → Shared → Prop} (h : wpN M A m Q (fun e s' => wpN M A (k e) (fun _ s'' => E e s'') E s') s) : wpN M A (m.onRaise k) Q E s :=
  fun Γ p hΓ hT => by
    rw [Sem.wp_onRaise]
    exact Sem.wp_mono M Γ m (fun _ _ _ h' => h') (fun e p' s' h' => h' Γ p' hΓ hT) p s (h Γ p hΓ hT)
theorem n_attempt {m : Sem α} {Q : Except Value α → Shared → Prop} (h : wpN M A m (fun a => Q (.ok a)) (fun e => Q (.error e)) s) : wpN M A m.attempt Q E s :=
  fun Γ p hΓ hT => by rw [Sem.wp_attempt]; exact h Γ p hΓ hT
theorem n_holding {vs : List Value} {m : Sem α} {Q : α → Shared → Prop} (h : wpN M A m Q E s) : wpN M A (holding vs m) Q E s :=
  fun Γ p hΓ hT => by rw [Sem.wp_holding]; exact h Γ p hΓ hT
theorem n_keep {vs : List Value} {m : Sem α} {Q : α → Shared → Prop} (h : wpN M A m Q E s) : wpN M A (m.keep vs) Q E s :=
  fun Γ p hΓ hT => by rw [Sem.wp_keep]; exact h Γ p hΓ hT
theorem n_standAt {pos : Pos} {Q : Unit → Shared → Prop} (h : Q () s) : wpN M A (standAt pos) Q E s := fun _ _ _ _ => h
theorem n_point {Q : Unit → Shared → Prop} (h : Q () s) : wpN M A point Q E s := fun _ _ _ _ => h
theorem n_ask {f : Setting → Sem α} {Q : α → Shared → Prop} (h : wpN M A (f ⟨M.prog, M.w.params⟩) Q E s) : wpN M A (ask >>= f) Q E s := fun Γ p hΓ hT => h Γ p hΓ hT
theorem n_load {a : Addr} {o : Obj} {f : Obj → Sem α} {Q : α → Shared → Prop} (ho : s.heap.get? a = some o) (h : wpN M A (f o) Q E s) : wpN M A (load a >>= f) Q E s := n_then (wpAny_load ho h)
theorem n_stack {f : List (Code × Pos) → Sem α} {Q : α → Shared → Prop} (h : ∀ st : List (Code × Pos), (∀ x ∈ st, tidy x.1 = true) → wpN M A (f st) Q E s) : wpN M A (stack >>= f) Q E s :=
  fun Γ p hΓ hT => h ((Γ.code, p) :: Γ.below) (fun x hx => by
    rcases List.mem_cons.mp hx with rfl | hx
    · exact hT.1
    · exact hT.2 x hx) Γ p hΓ hT

theorem tidy_enter {Γ : Ctx} {c : Code} {hd : Option Value} {p : Pos} (h : TidyC Γ) (hc : tidy c = true) : TidyC (Γ.enter c hd p) := by
  refine ⟨hc, fun x hx => ?_⟩
  have hx' : x ∈ (Γ.code, p) :: Γ.below := hx
  rcases List.mem_cons.mp hx' with rfl | hx'
  · exact h.1
  · exact h.2 x hx'
theorem n_run {c : Code} {hd : Option Value} {Q : Flow → Shared → Prop} (hq : tidy c = true)
    (hc : codeN M (A.mark hd) c (fun r s' => match r with | .ok f => Q f s' | .error e => E e s') s) (hnb : hd ≠ some byPass := by intro x; cases x) : wpN M A (run c hd) Q E s :=
  fun Γ p hΓ hT => by rw [Sem.wp_run]; exact hc _ p rfl (hΓ.enter c hd p hnb) (tidy_enter hT hq)
theorem n_runValue {c : Code} {Q : Value → Shared → Prop} (hq : tidy c = true)
    (hc : codeN M A c (fun r s' => match r with | .ok (.ret v) => Q v s' | .ok _ => False | .error e => E e s') s) : wpN M A (runValue c) Q E s :=
  fun Γ p hΓ hT => by rw [Sem.wp_runValue]; exact hc _ p rfl (hΓ.enter c none p (by intro x; cases x)) (tidy_enter hT hq)
theorem n_call {f : Value} {pos : List Value} {kw : List (Str × Value)} {Q : Value → Shared → Prop}
    (hc : codeN M A (.call f ⟨pos, kw⟩) (fun r s' => match r with | .ok (.ret v) => Q v s' | .ok _ => False | .error e => E e s') s) : wpN M A (call f pos kw) Q E s := n_runValue rfl hc

def FinN (M : Model) (A : Around) (R : Result → Shared → Prop) (fin : Fin) (s' : Shared) : Prop := match fin with
  | .done f => R (.ok f) s'
  | .again c' => c'.quiet = true ∧ tidy c' = true ∧ codeN M A c' R s'
theorem n_tree {c : Code} {R : Result → Shared → Prop} (h : wpN M (A.under c) (M.den c) (FinN M A R) (fun e s' => R (.error e) s') s) : codeN M A c R s :=
  fun Γ p hc hΓ hT => by
    rw [wpCode_iff_wp, hc]
    refine Sem.wp_mono M Γ _ (fun fin p' s' h' => ?_) (fun _ _ _ h' => h') p s (h Γ p (hc ▸ hΓ.in) hT)
    cases fin with
    | done f => exact h'
    | again c' => exact ⟨h'.1, h'.2.2 (Γ.goto c') p' rfl (hΓ.goto c') ⟨h'.2.1, hT.2⟩⟩

theorem n_execs_nil {Q : Flow → Shared → Prop} (h : Q .next s) : wpN M A (execs [] env) Q E s := fun _ _ _ _ => h
theorem n_execs {st rest} {Q : Flow → Shared → Prop} (h : wpN M A (exec st env) (fun f s' => match f with | .next => wpN M A (execs rest env) Q E s' | f => Q f s') E s) :
    wpN M A (execs (st :: rest) env) Q E s := by
  rw [execs_cons]
  refine n_bind (n_mono h (fun f s' h' => ?_) fun _ _ x => x)
  cases f <;> first | exact h' | exact n_pure h'
theorem n_step {st rest} {Q : Flow → Shared → Prop} (h : wpAny M A (exec st env) (fun f s' => match f with | .next => wpN M A (execs rest env) Q E s' | f => Q f s') E s) :
    wpN M A (execs (st :: rest) env) Q E s := n_execs (n_any h)
/-- the path's statement first, the rest by the library's logic -/
theorem n_last {st rest} {Q : Flow → Shared → Prop} (h : wpN M A (exec st env) (fun f s' => match f with | .next => wpAny M A (execs rest env) Q E s' | f => Q f s') E s) :
    wpN M A (execs (st :: rest) env) Q E s := n_execs (n_mono h (fun f s' h' => by cases f <;> first | exact n_any h' | exact h') fun _ _ x => x)
theorem n_assign {x pos' value pos} {Q : Flow → Shared → Prop} (h : wpN M A (eval value env) (fun v s₁ => wpAny M A (storeName env x v) (fun _ => Q .next) E s₁) E s)
    (hs : swapsWith value (some (.Name x pos')) pos.line env = pure false := by rfl) : wpN M A (exec (.Assign [.Name x pos'] value pos) env) Q E s := fun Γ p hΓ hT => by
  simp only [exec_Assign_Name env x pos' value pos hs, Sem.wp_bind', Sem.wp_cmd_standAt, Sem.wp_bindName, Sem.wp_pure']
  exact Sem.wp_mono M Γ _ (fun v _ s₁ h₁ => h₁ Γ _ hΓ) (fun _ _ _ h' => h') _ _ (h Γ _ hΓ hT)
theorem n_if {test body orelse pos} {Q : Flow → Shared → Prop}
    (h : wpAny M A (isTrue test env (eval test env)) (fun b s₂ => if b then wpN M A (execs body env) Q E s₂ else wpN M A (execs orelse env) Q E s₂) E s) :
    wpN M A (exec (.If test body orelse pos) env) Q E s := by
  rw [exec_If]
  refine n_bind (n_standAt (n_then (wpAny_mono h (fun b s' h' => ?_) fun _ _ x => x)))
  cases b <;> exact h'
theorem n_ifN {test body orelse pos} {Q : Flow → Shared → Prop}
    (h : wpN M A (isTrue test env (eval test env)) (fun b s₂ => if b then wpAny M A (execs body env) Q E s₂ else wpAny M A (execs orelse env) Q E s₂) E s) :
    wpN M A (exec (.If test body orelse pos) env) Q E s := by
  rw [exec_If]
  refine n_bind (n_standAt (n_bind (n_mono h (fun b s' h' => ?_) fun _ _ x => x)))
  cases b <;> exact n_any h'
theorem n_return {e pos} {Q : Flow → Shared → Prop} (h : wpN M A (eval e env) (fun v => Q (.ret v)) E s) : wpN M A (exec (.Return (some e) pos) env) Q E s := by
  rw [exec_Return_some]
  exact n_bind (n_standAt (n_bind (n_mono h (fun _ _ h' => n_pure h') fun _ _ x => x)))
theorem n_exprAt {e pos} {Q : Flow → Shared → Prop} (h : wpN M A (eval e env) (fun v s' => wpAny M A (dropValue e pos v) Q E s') E s)
    (hi : interactive env = false := by rfl) (hs : swapsWith e none pos.line env = pure false := by rfl) : wpN M A (exec (.Expr e pos) env) Q E s := by
  rw [exec_Expr env e pos hi hs]
  exact n_bind (n_standAt (n_bind (n_mono h (fun _ _ h' => n_any h') fun _ _ x => x)))
theorem n_callName {id : Str} {p pos : Pos} {args : List Expr} {Q : Value → Shared → Prop}
    (h : wpAny M A (eval (.Name id p) env) (fun f s₁ => wpN M A (callWith pos f [] (backTo pos (starEach args env)) []) Q E s₁) E s) :
    wpN M A (eval (.Call (.Name id p) args [] pos) env) Q E s := by
  rw [arm_eval_Call_Name']
  exact n_then h
theorem n_callWith {P : Heap → Prop} {pos : Pos} {f : Value} {first : List Value} {args : List (Bool × Sem Value)} {Q : Value → Shared → Prop} (hplain : args.any (·.1) = false)
    (hk : ∀ h, P h → ∃ k, (k = Keeper.frame ∨ k = Keeper.machine ∨ k = Keeper.boundFrame) ∧ Looks M h (keeperOf f) k)
    (h : wpAny M A (evalArgs f true args []) (fun a s₁ => P s₁.heap ∧ wpN M A (call f (first ++ a.pos) a.kw) Q E s₁) E s) : wpN M A (callWith pos f first args []) Q E s := by
  unfold callWith
  refine n_bind (n_holding (n_any (wpAny_mono h (fun a s₁ h₁ => n_bind (n_standAt ?_)) fun _ _ x => x)))
  obtain ⟨k, hk', L⟩ := hk _ h₁.1
  simp only [hplain, List.any_nil, Bool.or_false]
  refine n_then (L.here ?_)
  have tail : ∀ {t : Sem Value}, wpN M A t Q E s₁ → wpN M A (t >>= fun r => holding [r] point >>= fun _ => pure r) Q E s₁ :=
    fun ht => n_bind (n_mono ht (fun r s₂ hr => n_bind (n_holding (n_point (n_pure hr)))) fun _ _ x => x)
  have marked (mk : Value) : wpN M A (callMarked mk f (first ++ a.pos) a.kw) Q E s₁ := by unfold callMarked; exact n_keep h₁.2
  rcases hk' with rfl | rfl | rfl <;> dsimp only <;> first | exact tail h₁.2 | exact tail (marked _) | (split <;> first | exact tail h₁.2 | exact tail (marked _))
end
end Mine
end
section
set_option maxRecDepth 100000
namespace Mine
open PySem PySem.W PySem.Calls PyProof.Rows Builtin Builtin.ObjectAttr Builtin.Getset_descriptor
open Sem (wp)

section
variable {prog : Program} {w : World} {A : Around} {E : Value → Shared → Prop} {s : Shared} {env : Env} {R : Result → Shared → Prop}

theorem n_func {body env}
    (h : wpN (model prog w) (A.deeper env) (execs body env) (fun f s' => R (.ok (.ret (match f with | .ret v => v | _ => .none))) s')
      (fun e s' => wpAny (model prog w) (A.deeper env) (leaving env e) (fun _ s'' => R (.error e) s'') (fun e' s'' => R (.error e') s'') s') s) :
    codeN (model prog w) A (.func body env) R s := by
  refine n_tree ?_
  show wpN _ (A.deeper env) (do point; match ← (execs body env).onRaise (leaving env) with | .ret v => ret v | _ => ret .none) _ _ s
  refine n_bind (n_point (n_bind (n_onRaise (n_mono h (fun f s' h' => ?_) fun _ _ h' => n_any h'))))
  cases f <;> exact n_pure h'

theorem n_function {a : Addr} {args : Args} {o : Obj} {fd : FuncData} {body : List Stmt} (hroom : A.depth < recursionLimit)
    (ho : s.heap.get? a = some o)
    (hd' : o.data = .func fd) (hco : fd.scope.isCoroutine = false) (hgen : fd.scope.isGenerator = false) (hbody : fd.body = .stmts body) (hcd : s.heap.CodeRec fd.code fd.qualname)
    (h : wpAny (model prog w) A.in1 (bindArgs fd args) (fun binds s₁ =>
      wpAny (model prog w) A.in1 (newFunctionEnv fd.scope fd.globals fd.closure binds (fd.qualname ++ ".<locals>.") (some a) fd.code none fd.builtins)
        (fun env s₂ => s₂.heap.NoLimit ∧ codeN (model prog w) A (.func body env) R s₂) (fun e s' => R (.error e) s') s₁) (fun e s' => R (.error e) s') s) :
    codeN (model prog w) A (.call (.ref a) args) R s := by
  refine n_tree ?_
  show wpN _ A.in1 (callAny (.ref a) args) _ _ s
  simp only [callAny]
  refine n_load ho ?_
  obtain ⟨c, oc, vs, tq, hc, hoc, hdc, hq⟩ := hcd
  simp only [hd', callFunction, hco, hgen, hbody, hc]
  rw [hc] at h
  refine n_then (m := field (.ref c) 1) (wpAny_field hoc hdc hq (n_bind (n_pure ?_)))
  exact n_then (wpAny_mono h (fun binds s₁ h₁ => n_then (wpAny_mono h₁ (fun env s₂ h₂ => n_then (wpAny_enterFrame h₂.1 hroom
    (n_pure ⟨rfl, rfl, h₂.2⟩))) fun _ _ h' => h')) fun _ _ h' => h')

theorem n_builtin {id : String} {args : Args} {b : Builtin} (hb : entryFor table id = some b)
    (h : wpN (model prog w) (A.under (.builtin id args)) (b args) (FinN (model prog w) A R) (fun e s' => R (.error e) s') s) : codeN (model prog w) A (.builtin id args) R s := by
  refine n_tree ?_
  show wpN _ _ (match entryFor table id with | some b => b args | none => unsupported ((withoutEnding? id "#data").getD id)) _ _ s
  rw [hb]; exact h

theorem n_call_builtin {id : String} {args : Args} {b : Builtin} (hq : plainId id = true) (ht : (id != "lifetime.gc.finalise") = true) (hb : entryFor table id = some b)
    (h : wpAny (model prog w) A.in1 (checkBuiltinCall id args) (fun _ s₁ => wpN (model prog w) A.in1 (b args) (FinN (model prog w) A R) (fun e s' => R (.error e) s') s₁)
      (fun e s' => R (.error e) s') s) : codeN (model prog w) A (.call (.builtin id) args) R s := by
  refine n_tree ?_
  show wpN _ A.in1 (do checkBuiltinCall id args; again (.builtin id args)) _ _ s
  refine n_then (wpAny_mono h (fun _ s₁ h₁ => n_pure ⟨plainId_quiet hq args, ht, n_builtin hb ?_⟩) fun _ _ h' => h')
  rw [Around.under_plainId hq args]; exact h₁

theorem n_builtin_fn {id : String} {b : Builtin} {args : List Value} {Q : Value → Shared → Prop} (hk : builtinKind id = none) (hp : plainId id = true) (ht : (id != "lifetime.gc.finalise") = true)
    (hb : entryFor table id = some b) (ha : argsOk id ⟨args, []⟩)
    (hc : wpN (model prog w) A.in1 (b ⟨args, []⟩) (fun fin s' => ∃ v, fin = .done (.ret v) ∧ Q v s') E s) : wpN (model prog w) A (call (.builtin id) args) Q E s := by
  refine n_call (n_call_builtin hp ht hb ?_)
  have hfin := n_mono hc (Q' := FinN (model prog w) A (fun r s' => match r with | .ok (.ret v) => Q v s' | .ok _ => False | .error e => E e s'))
    (fun fin s' h' => by obtain ⟨v, rfl, hv⟩ := h'; exact hv) fun _ _ h' => h'
  simp only [checkBuiltinCall, hk]
  cases hsig : Manifest.signature? id with
  | none => exact wpAny_pure hfin
  | some sig =>
    simp only [argsOk, hsig] at ha
    have h2 : Bind.checkArgs id sig ⟨args, []⟩ = pure () := ha
    show wpAny _ A.in1 (Bind.checkArgs id sig ⟨args, []⟩) _ _ s
    rw [h2]; exact wpAny_pure hfin

theorem n_block {stmts : List Stmt} {env : Env} (h : wpN (model prog w) A (execs stmts env) (fun f s' => R (.ok f) s') (notedBy (model prog w) A env fun e s' => R (.error e) s') s) :
    codeN (model prog w) A (.block stmts env) R s := by
  refine n_tree ?_
  show wpN _ _ (do return Fin.done (← (execs stmts env).onRaise (fun x => do noteFrame x env; theTreesLotGoes x))) _ _ s
  exact n_bind (n_onRaise (n_mono h (fun f s' h' => n_pure h') fun _ _ hx => n_any (wpAny_bind (wpAny_mono hx (fun _ _ e => wpAny_theTreesLotGoes e) fun _ _ e => e))))

theorem n_try_except {body orelse : List Stmt} {h₀ : ExceptHandler} {hs : List ExceptHandler} {pos : Pos} {Q : Flow → Shared → Prop}
    (h : wpN (model prog w) A (execs body env) (fun f s₁ => match f with | .next => wpAny (model prog w) A (execs orelse env) Q E s₁ | f => Q f s₁)
      (fun e s₁ => wpAny (model prog w) A (noteFrame e env) (fun _ s₂ => wpAny (model prog w) A (setFlight e none) (fun _ s₃ => wpAny (model prog w) A (handleBy e env (h₀ :: hs)) Q E s₃) E s₂) E s₁) s) :
    wpN (model prog w) A (exec (.Try body (h₀ :: hs) orelse [] pos) env) Q E s := by
  rw [arm_exec_Try]
  refine n_bind (n_standAt ?_)
  unfold tryStmt
  simp only [List.isEmpty_nil, if_true, List.isEmpty_cons, Bool.false_and, Bool.false_eq_true, if_false]
  refine n_bind (n_attempt (n_mono h (fun f s₁ h₁ => ?_) fun e s₁ h₁ => ?_))
  · cases f <;> first | exact n_any h₁ | exact n_pure h₁
  · exact n_then (wpAny_mono h₁ (fun _ _ h₂ => n_any (wpAny_bind h₂)) fun _ _ x => x)

/-- one turn of a for loop -/
theorem n_turn {target : Expr} {it : Value} {body orelse : List Stmt}
    (h : wpAny (model prog w) A (pyNext it) (fun r s₁ => match r with
      | none => wpAny (model prog w) A (execs orelse env) (fun f s₃ => R (.ok f) s₃) (notedBy (model prog w) A env fun e s' => R (.error e) s') s₁
      | some v => wpAny (model prog w) A (assign target env v) (fun _ s₂ => wpN (model prog w) A (execs body env) (fun f s₃ => match f with
          | .next | .cont => codeN (model prog w) A (.forLoop target it body orelse env) R s₃
          | .brk => R (.ok .next) s₃
          | .ret v => R (.ok (.ret v)) s₃) (notedBy (model prog w) A env fun e s' => R (.error e) s') s₂) (notedBy (model prog w) A env fun e s' => R (.error e) s') s₁) (notedBy (model prog w) A env fun e s' => R (.error e) s') s)
    (ht : ∀ v, letOwnedTupleGo target it v = pure () := by intro _; rfl) : codeN (model prog w) A (.forLoop target it body orelse env) R s := by
  refine n_tree ?_
  show wpN _ _ ((forTurn target it body orelse env).onRaise (fun x => do noteFrame x env; theTreesLotGoes x)) _ _ s
  refine n_onRaise (n_mono (Q := FinN (model prog w) A R) (E := notedBy (model prog w) A env fun e s' => R (.error e) s') ?_ (fun _ _ x => x) fun _ _ hx => n_any (wpAny_bind (wpAny_mono hx (fun _ _ e => wpAny_theTreesLotGoes e) fun _ _ e => e)))
  simp only [forTurn]
  refine n_bind (n_standAt (n_bind (n_onRaise (n_any (wpAny_mono h (fun r s₁ h₁ => ?_) fun _ _ h' => n_standAt h')))))
  cases r with
  | none => exact n_pure ⟨rfl, rfl, n_code (codeAny_block h₁)⟩
  | some v =>
    refine n_then (wpAny_of_eq (ht v) ?_)
    refine n_then (wpAny_mono h₁ (fun _ s₂ h₂ => n_bind (n_mono h₂ (fun f s₃ h₃ => ?_) fun _ _ h' => h')) fun _ _ h' => h')
    cases f with
    | next => exact n_pure ⟨rfl, rfl, h₃⟩
    | cont => exact n_pure ⟨rfl, rfl, h₃⟩
    | brk => exact n_pure h₃
    | ret v => exact n_pure h₃

theorem n_runOwn {M : Model} {c : Code} {hd : Option Value} {Q : Flow → Shared → Prop} (hq : tidy c = true)
    (hc : codeN M (A.mark hd) c (fun r s' => match r with | .ok f => Q f s' | .error e => cameBackBy M A env E e s') s) (hnb : hd ≠ some byPass := by intro x; cases x) :
    wpN M A (runOwn c env hd) Q E s := by
  unfold runOwn
  exact n_onRaise (n_mono (n_run hq hc hnb) (fun _ _ x => x) fun _ _ x => n_any x)

theorem n_for {M : Model} {target iter body orelse pos} {Q : Flow → Shared → Prop}
    (h : wpAny M A (eval iter env) (fun x s₁ => wpAny M A (pyIter x) (fun it s₂ =>
      codeN M A (.forLoop target it body orelse env) (fun r s' => match r with | .ok f => Q f s' | .error e => cameBackBy M A env E e s') s₂) E s₁) E s)
    (hs : ∀ x, foldedSetIterable iter env x = pure x := by intro _; rfl) :
    wpN M A (exec (.For target iter body orelse pos) env) Q E s := by
  rw [exec_For]
  exact n_bind (n_standAt (n_then (wpAny_mono h (fun x s₁ h₁ => n_then (wpAny_of_eq (hs x) (n_bind (n_standAt (n_bind (n_holding (n_any
    (wpAny_mono h₁ (fun it s₂ h₂ => n_runOwn (hd := none) rfl h₂) fun _ _ h' => h'))))))) ) fun _ _ h' => h')))

end

section
variable {prog : Program} {w : World} {A A₀ : Around} {E : Value → Shared → Prop} {s : Shared} {K : Frag} {C L : Addr} {h₀ base : Heap} {m mg mb : Str → Option Value} {news : List (Addr × Obj)} {p : Program} {loose : List Str} {mean : ExcName → Option Value} {Q : Value → Shared → Prop}

theorem n_def {env : Env} {outer : List Env} {R : Result → Shared → Prop} {name qual : Str} {params : Arguments} {body : List Stmt} {scope : Scope} {dV kV doc pm cdv ct oc : Value} {an od : Option Addr} {osl : Array (Option Value)} {f : Addr} {args : Args} {binds : List (Str × Value)}
    (B : Below A₀ base outer h₀) (F : Fr h₀ L s.heap m) (X₀ : K.In h₀) (N : News h₀ L s.heap news) (T : Top p loose mean mg mb h₀) (hA : A.frames = some (env :: outer)) (hf : env.frame = some L) (hke : env.scope.kind = .function)
    (ho : K.lookup f = some ⟨oc, od, .func (fnOf name qual params body scope dV kV doc pm an cdv ct), osl⟩) (hcd : codeIn K cdv qual = true) (hroom : A.depth < recursionLimit)
    (hbind : BindsTo s (fnOf name qual params body scope dV kV doc pm an cdv ct) args binds) (hloc : ∀ y ∈ binds, scope.names.lookup y.1 = some .local)
    (h : ∀ g L' h₁, Fr h₀ L g m → Fr g L' h₁ (fun y => binds.reverse.lookup y) → News g L' h₁ news → Below A base (env :: outer) g → K.In g → Top p loose mean mg mb g →
      wpN (model prog w) (A.deeper (envOf qual scope L' f cdv)) (execs body (envOf qual scope L' f cdv))
        (fun fl s' => LeaveK h₀ L m g R (match fl with | .ret v => v | _ => .none) s')
        (fun e s' => wpAny (model prog w) (A.deeper (envOf qual scope L' f cdv)) (leaving (envOf qual scope L' f cdv) e) (fun _ s'' => R (.error e) s'') (fun e' s'' => R (.error e') s'') s')
        { s with heap := h₁, toks := s.toks + binds.length })
    (hco : scope.isCoroutine = false) (hgen : scope.isGenerator = false) (hk : scope.kind = .function)
    (hcell : ∀ x ∈ scope.names, x.2 ≠ .cell) : codeN (model prog w) A (.call (.ref f) args) R s := by
  obtain ⟨FG, BG, st, lv⟩ := groundX (R := R) B F N hA hf hke
  have XK := X₀.keeps F.keep
  refine n_function (fd := fnOf name qual params body scope dV kV doc pm an cdv ct) (body := body) hroom (XK _ _ ho) rfl hco hgen rfl (codeRec_of XK hcd) (hbind _ _ _ _ ?_)
  refine wpAny_newFunctionEnv hcell hloc (fun h₁ hns hsb => ⟨(T.nolimit.keeps F.keep).fresh _ hsb, n_func ?_⟩) hk
  have hk₁ : ∀ b o, s.heap.get? b = some o → h₁.get? b = some o := fun b o e => hsb.extBut b o (Nat.ne_of_lt (Heap.lt_size e)) (Heap.get?_push_of_some _ e)
  exact n_mono (h _ s.heap.objs.size h₁ FG ⟨hns, fun b o e => hk₁ b o (of_hideAll _ e), Nat.le_of_eq (hideAll_size _ _)⟩
    (fun p hp => ⟨hk₁ _ _ (N p hp).1, Nat.ne_of_lt (Heap.lt_size (N p hp).1), hideAll_none _ (List.mem_map_of_mem hp)⟩) BG (X₀.keeps st) (T.keeps st)) (fun fl s' hl => lv _ _ hl) fun _ _ y => y

theorem n_defC {env : Env} {outer : List Env} {R : Result → Shared → Prop} {name qual : Str} {params : Arguments} {body : List Stmt} {scope : Scope} {dV kV doc pm cdv ct oc : Value} {an od : Option Addr} {osl : Array (Option Value)} {f : Addr} {args : Args} {binds : List (Str × Value)}
    (B : Below A₀ base outer h₀) (F : Fr h₀ L s.heap m) (X₀ : K.In h₀) (N : News h₀ L s.heap news) (T : Top p loose mean mg mb h₀) (hA : A.frames = some (env :: outer)) (hf : env.frame = some L) (hke : env.scope.kind = .function)
    (ho : K.lookup f = some ⟨oc, od, .func (fnOf name qual params body scope dV kV doc pm an cdv ct), osl⟩) (hcd : codeIn K cdv qual = true) (hroom : A.depth < recursionLimit)
    (hbind : BindsTo s (fnOf name qual params body scope dV kV doc pm an cdv ct) args binds) (hkind : (binds.all fun y => scope.names.lookup y.1 == some .local || scope.names.lookup y.1 == some .cell) = true)
    (hnd : ((cellsFrom 0 scope.names []).map (·.1)).Nodup)
    (h : ∀ g L' h₁ tk cells, Fr h₀ L g m → Fr g L' h₁ (bindL (envOfC qual scope L' f cdv).kindOf binds fun _ => none) → News g L' h₁ (cells ++ news) →
      CellsAre (bindC (envOfC qual scope L' f cdv).kindOf binds fun _ => none) (cellsFrom (L' + 1) scope.names []) cells → Below A base (env :: outer) g → K.In g → Top p loose mean mg mb g → (∀ p ∈ news, p.1 < L') →
      wpN (model prog w) (A.deeper (envOfC qual scope L' f cdv)) (execs body (envOfC qual scope L' f cdv))
        (fun fl s' => LeaveK h₀ L m g R (match fl with | .ret v => v | _ => .none) s')
        (fun e s' => wpAny (model prog w) (A.deeper (envOfC qual scope L' f cdv)) (leaving (envOfC qual scope L' f cdv) e) (fun _ s'' => R (.error e) s'') (fun e' s'' => R (.error e') s'') s')
        { s with heap := h₁, toks := tk })
    (hco : scope.isCoroutine = false) (hgen : scope.isGenerator = false) (hk : scope.kind = .function) : codeN (model prog w) A (.call (.ref f) args) R s := by
  obtain ⟨FG, BG, st, lv⟩ := groundX (R := R) B F N hA hf hke
  have XK := X₀.keeps F.keep
  refine n_function (fd := fnOf name qual params body scope dV kV doc pm an cdv ct) (body := body) hroom (XK _ _ ho) rfl hco hgen rfl (codeRec_of XK hcd) (hbind _ _ _ _ ?_)
  refine wpAny_newFunctionEnv_cells hk (kindsX hkind _) fun env' he s' x => ?_
  subst he
  refine ⟨((T.nolimit.keeps F.keep)).keeps x.toInCall.keep, n_func ?_⟩
  obtain ⟨h₁, tk, rfl, _⟩ := x.done
  have hk₁ := x.toInCall.keep
  obtain ⟨cells, NC, Y⟩ := Cl.news (h₀ := s.heap) (Nat.le_refl _) fun n c hm => ⟨x.cell n c (lookup_of_mem_nodup (cellsFrom_names scope.names 0 (s.heap.objs.size + 1) [] [] rfl ▸ hnd) hm), x.above n c hm⟩
  refine n_mono (h _ s.heap.objs.size h₁ tk cells FG ⟨x.toInCall.ns, fun b o e => hk₁ b o (of_hideAll _ e), Nat.le_of_eq (hideAll_size _ _)⟩ (fun p hp => ?_) Y BG (X₀.keeps st) (T.keeps st) (fun p hp => Heap.lt_size (N p hp).1)) (fun fl s' hl => lv _ _ hl) fun _ _ y => y
  rcases List.mem_append.mp hp with hp | hp
  · refine ⟨(NC p hp).1, (NC p hp).2.1, ?_⟩
    cases q : (hideAll s.heap (news.map (·.1))).get? p.1 with
    | none => rfl
    | some o => have := of_hideAll _ q; rw [(NC p hp).2.2] at this; cases this
  · exact ⟨hk₁ _ _ (N p hp).1, Nat.ne_of_lt (Heap.lt_size (N p hp).1), hideAll_none _ (List.mem_map_of_mem hp)⟩
end
end Mine
end
section
set_option maxRecDepth 100000
namespace Mine
open PySem PySem.W PySem.Calls PyProof.Rows
open Sem (wp)

theorem caller_tidy : TidyC (⟨.builtin "claim.caller" {}, none, none, [], none⟩ : Ctx) := ⟨by decide, fun _ h => nomatch h⟩

/-- the caller's thread ends as its tree says -/
theorem n_thread {prog : Program} {w : World} {t : Sem Fin} {s : Shared} {R : Result → Shared → Prop} (hreg : s.asleep)
    (h : wpN (model prog w) callerA t (fun fin s' => ∃ f, fin = .done f ∧ (R (.ok f) s' ∧ leftWithCleanup s'.gens = false)) (fun e s' => R (.error e) s' ∧ leftWithCleanup s'.gens = false) s) :
    ∃ n r s' s'', runN (denote table) prog w n s ⟨t, .builtin "claim.caller" {}, default, []⟩ = .halted (outcomeOf r) s' ∧
      schedN (denote table) prog w n (.single s ⟨t, .builtin "claim.caller" {}, default, []⟩) = .halted (outcomeOf r) s' ∧ s'.forget = s''.forget ∧ R r s'' := by
  have g := h _ default caller_in caller_tidy
  have g' := Sem.wp_mono (model prog w) _ t (post' := Sem.finPost (model prog w) ⟨.builtin "claim.caller" {}, none, none, [], none⟩ (fun r s' => R r s' ∧ leftWithCleanup s'.gens = false)) (exc' := fun e _ s' => R (.error e) s' ∧ leftWithCleanup s'.gens = false)
    (fun fin _ s' hf => by obtain ⟨f, rfl, hr⟩ := hf; exact hr) (fun _ _ _ x => x) default s g
  obtain ⟨n, r, s₁, s₂, hs, hn, hfo, hR⟩ := wp_halts_full (M := model prog w) (R := R) hreg g'
  exact ⟨n, r, s₂, s₁, hn, hs, hfo, hR⟩

theorem n_callFrom {c : ClaimW} {tree : List Value → Sem Fin} {w : World} {s : Shared} {free : Addr → Prop} {gens : Prop} {kept : Heap → Prop} (hz : s.asleep) (hgens : s.gens = #[])
    (hspec : ∀ args, c.pre args = true → WData.layableAll args = true →
      ∀ ord : List DictEntry → List DictEntry, (∀ l, (ord l).Perm l) →
      ∃ vs s₁, layAllW c.records (classAt s.heap) w.params ord args s = some (vs, s₁) ∧
        wpN (model c.prog w) callerA (tree vs) (fun fin s' => ∃ f, fin = .done f ∧ (c.Ends s args vs s₁ (.ok f) s' ∧ s'.os = s.os ∧ AllBare s'.gens ∧ kept s'.heap))
          (fun e s' => c.Ends s args vs s₁ (.error e) s' ∧ s'.os = s.os ∧ AllBare s'.gens ∧ kept s'.heap) s₁) :
    c.CallFrom (fun vs => ⟨tree vs, .builtin "claim.caller" {}, default, []⟩) w free gens kept s := by
  intro args hpre hlay ord hord
  obtain ⟨vs, s₁, hlaid, hcode⟩ := hspec args hpre hlay ord hord
  have hal := layAllW_rest _ _ _ hlaid
  obtain ⟨k, r, s', s'', hrun, hsched, hfo, hcase, hos, hkp⟩ := n_thread (prog := c.prog) (w := w) (t := tree vs) (s := s₁)
    (R := fun r s' => c.Ends s args vs s₁ r s' ∧ s'.os = s.os ∧ kept s'.heap)
    (Shared.asleep_of_life hal.2.2.2 hz)
    (n_mono hcode (by
      rintro fin s' ⟨f, e, h1, h2, h3, h4⟩
      exact ⟨f, e, ⟨h1, h2, h4⟩, leftWithCleanup_false_of_bare h3⟩) (by
      rintro e s' ⟨h1, h2, h3, h4⟩
      exact ⟨⟨h1, h2, h4⟩, leftWithCleanup_false_of_bare h3⟩))
  obtain ⟨eh, _, _, eo, _⟩ := Shared.forget_eq hfo
  have hcase := hcase.congr eh
  have hkp : kept s'.heap := by first | exact eh ▸ hkp | (rw [eh] at hkp; exact hkp) | (rw [← eh] at hkp; exact hkp)
  rw [← eo] at hos
  have hlife : s'.heap.life = s.heap.life := (runN_life _ _ _ hrun).trans hal.2.2.2
  refine ⟨vs, s₁, hlaid, k, _, s', hsched, ?_, (fun _ i x hx => by rw [hgens] at hx; simp at hx), hkp, by rw [hlife], Shared.rest_eq hos⟩
  rcases hcase with ⟨v, rfl, d1, d2, d3, d4, d5⟩ | ⟨e, ob, cls, rfl, d1, d2, d3, d4, d5⟩
  · exact .inl ⟨v, rfl, d1, d2, d3, fun b o y _ => d4 b o y, d5⟩
  · exact .inr ⟨e, ob, cls, rfl, d1, d2, d3, d4, fun b o y _ => d5 b o y⟩

abbrev WalkT (q : Program) (loose : List Str) (XP : (Str → Option Value) → Heap → Prop) (YP : World → Heap → Prop) (r : RowW) (d : DefRec) (kwd : List (Str × Expr)) : Prop :=
  ∀ (w : World) (s₀ s₁ : Shared) (mg mb : Str → Option Value), Ground q loose r.records XP w s₀ mg mb s₁.heap → YP w s₁.heap → ∀ (a : Addr) (o : Obj) (pm cd doc dV kV : Value), s₁.heap.get? a = some o →
    o.data = .func { docDef d.name d.params d.body d.scope pm cd doc with defaults := dV, kwdefaults := kV } → s₁.heap.CodeRec cd d.name → Dflts mg s₁.heap d.params kwd dV kV → mg d.name = some (.ref a) → s₁.gens = #[] →
    ∀ (args : List WData) (vals : List Value) (as : List Addr), r.claim.pre args = true → WData.layableAll args = true → ReadsAllW r.records (classAt s₀.heap) s₁.heap vals args as → WellAll w.params s₁.heap vals args → (∀ a ∈ as, (a == sysModules) = false) →
      wpN (model r.prog w) callerA (call (.ref a) vals) (fun v s' => GoodWG r.claim (classAt s₀.heap) (ExcName.means s₀.heap) args s₁ (.ok (.ret v)) s')
        (fun e s' => GoodWG r.claim (classAt s₀.heap) (ExcName.means s₀.heap) args s₁ (.error e) s') s₁

end Mine
open Mine
open PySem PySem.W PySem.Calls PyProof.Rows
/-- the head, its last premise in the logic of tidy contexts -/
theorem Mine.LawTop.PySem.W.holds_open {r : OpenRow} {q : Program} {loose : List Str} {Xt : Shared → Bool} {XP : (Str → Option Value) → Heap → Prop} {α : Type} {Yf : Shared → α} {Ya : World → α} {YP : World → Heap → Prop} {d : DefRec} {kwd : List (Str × Expr)} {N : Nat}
    (left : LeftO r.prog q loose Xt Yf Ya N) (hY : ∀ w s, Yf s = Ya w → YP w s.heap) (hYk : ∀ w h h', YP w h → (∀ b o, h.get? b = some o → h'.get? b = some o) → YP w h')
    (hX : ∀ s, Xt s = true → XP (s.heap.nsMap mainGlobals) s.heap) (hXk : ∀ mg h h', XP mg h → (∀ b o, h.get? b = some o → h'.get? b = some o) → XP mg h')
    (hdef : defOf q r.name = some (d, kwd)) (hp : r.prog.theDef r.name = some (d.params, d.body, d.scope)) (hk : kwWritten? d.params.kwonlyargs d.params.kw_defaults = some kwd) (hRf : ∀ s, Xt s = true → RecFacts r.records s.heap) (hwr : (!r.writes || r.records.isEmpty) = true)
    (k1 : r.wellSaid = true) (ok : (chainsOk q && opensWell r.prog && (frees r.toRowW && r.within.isEmpty)) = true) (hb : r.prog.bare) (hw : r.toRowW.promised)
    (call : WalkT q loose XP YP r.toRowW d kwd) : r.Holds := by
  refine ⟨k1, hw, ?_⟩
  obtain ⟨ok, k5⟩ := Bool.and_eq_true_iff.mp ok
  obtain ⟨hch, o1⟩ := Bool.and_eq_true_iff.mp ok
  obtain ⟨k5, k6⟩ := Bool.and_eq_true_iff.mp k5
  obtain ⟨hsame, hu, ha, hap, hm⟩ := frees_parts k5
  refine ⟨⟨hb, o1, by show r.makers.map _ = []; rw [hm]; rfl⟩, hw.witness, fun w => ⟨(left.behind hX hch w).1, fun s' hs' => ?_⟩⟩
  obtain ⟨s₀, hf, hg0, s, hT, hz, hgens, hg, G00, y⟩ := (left.behind (XP := fun mg h => XP mg h ∧ RecFacts r.records h) (fun s hs => ⟨hX s hs, hRf s hs⟩) hch w).2 s' hs'
  have G0 : Ground q loose [] XP w s (s.heap.nsMap mainGlobals) (s.heap.nsMap builtinsNs) s.heap := ⟨G00.T, G00.B, G00.D, G00.TE, G00.TD, G00.W, G00.X.1, G00.cls, G00.has, G00.apart, G00.once, G00.K⟩
  have RF := G00.X.2
  have hT' := hT
  refine ⟨s₀, hf, hg0, s, hT, ?pin, RF.1, RF.2.1, ?_⟩
  case pin =>
    intro n hn
    obtain rfl : n = r.name := by split at hn <;> simp_all
    exact pinned_of_view hg G0 hdef hp hk
  have hgens : s.gens = #[] := Array.eq_empty_of_size_eq_zero (beq_iff_eq.mp hgens)
  have G : Ground q loose r.records XP w s _ _ s.heap := RF.ground G0
  refine n_callFrom (c := r.claim) hz hgens fun args hpre hlay ord hord => ?_
  obtain ⟨⟨vs, s₁⟩, hlaid⟩ := Option.isSome_iff_exists.mp (layAllW_isSome (P := w.params) (ord := ord) G.has args r.args s (pre_splitW hpre).1)
  have keeps := layAllW_keeps _ _ _ hlaid
  have hal := layAllW_rest _ _ _ hlaid
  obtain ⟨as, hrd, hin, hold⟩ := reads_layAllW hord _ _ _ hlaid hlay s₁.heap (fun _ _ e => e)
  have L : Laid r.records w s s₁ args vs as := ⟨⟨ord, hord, hlaid⟩, hrd, hin, hold, keeps, hal.1.trans hgens, hal.2.2.1⟩
  have G₁ := G.keeps hXk keeps
  obtain ⟨a, o, pm, cd, doc, dV, kV, h1, h2, h3, h4, h5⟩ := G₁.fn hdef
  have h := call w s s₁ _ _ G₁ (hYk _ _ _ (hY w s y) keeps) a o pm cd doc dV kV h2 h3 h4 h5 (defOf_name hdef ▸ h1) L.gens args vs as hpre hlay L.reads L.well (L.low G.low)
  have hi := ident_freeW hu ha hap
  have hwi : r.claim.within = [] := List.isEmpty_iff.mp k6
  refine ⟨vs, s₁, hlaid, n_then (wpAny_nsGet G₁.T.g ?_)⟩
  rw [h1]
  refine n_bind (n_mono h (fun v s' g => n_pure ⟨_, rfl, ?_⟩) fun e s' g => ?_)
  · have z := g.laid (c := r.claim) hsame hwi hi L
    exact ⟨z.1, z.2.1, z.2.2, fun q => ⟨namesKept_of hT' hg r.keeps keeps g.2.1.old, noTable hwr q⟩⟩
  · have z := g.laid (c := r.claim) hsame hwi hi L
    exact ⟨z.1, z.2.1, z.2.2, fun q => ⟨namesKept_of hT' hg r.keeps keeps g.2.1.old, noTable hwr q⟩⟩
end
section
open PySem PySem.W PyProof.Rows
namespace Mine.LawTop
set_option maxRecDepth 100000 in
set_option maxHeartbeats 8000000 in
open_top hd for PySem.Challenge.rw_ez0195_01
end Mine.LawTop
end
section
set_option maxRecDepth 100000
set_option maxHeartbeats 4000000
namespace Mine
open PySem PySem.W PySem.Calls PyProof.Rows Builtin Builtin.ObjectAttr Builtin.Getset_descriptor
open Sem (wp)

theorem entry_fdict : entryFor table "function.__dict__" = some Builtin.«function.__dict__» := entryFor_of_tree (by kernel_rfl)
theorem kind_hasattr : builtinKind "hasattr" = none := by decide +kernel
theorem plain_hasattr : plainId "hasattr" = true := by decide +kernel
theorem entry_hasattr : entryFor table "hasattr" = some Builtin.«hasattr» := entryFor_of_tree (by kernel_rfl)
theorem args_hasattr (a b : Value) : argsOk "hasattr" ⟨[a, b], []⟩ := by unfold argsOk; kernel_rfl

theorem n_at {α : Type} {M : Model} {A : Around} {t : Sem α} {r : α} {Q : α → Shared → Prop} {E : Value → Shared → Prop} {h : Heap} {g d tk os} (x : Looks M h t r) (q : Q r ⟨h, g, d, tk, os⟩) : wpN M A t Q E ⟨h, g, d, tk, os⟩ := n_any (x.at q)

/-- an object's dict that was handed out -/
abbrev dictS (es : List DictEntry) (n : Nat) : Obj := { cls := .type "dict", data := .dict es.toArray n, slots := #[none] }
def marked (o : Obj) : Obj := if o.slots.isEmpty then { o with slots := #[none] } else o
theorem marked_dict (es : List DictEntry) (n : Nat) : marked (dictOf es n) = dictS es n := rfl
theorem marked_dictS (es : List DictEntry) (n : Nat) : marked (dictS es n) = dictS es n := rfl

theorem n_ite {α : Type} {M : Model} {A : Around} {E : Value → Shared → Prop} {s : Shared} {c : Prop} [Decidable c] {a b : Sem α} {Q : α → Shared → Prop} (h1 : wpN M A a Q E s) (h2 : wpN M A b Q E s) : wpN M A (if c then a else b) Q E s := by
  split
  · exact h1
  · exact h2

theorem n_ite0 {α : Type} {M : Model} {A : Around} {E : Value → Shared → Prop} {s : Shared} {c : Prop} [Decidable c] {a b : Sem α} {Q : α → Shared → Prop} (hc : ¬ c) (h2 : wpN M A b Q E s) : wpN M A (if c then a else b) Q E s := by
  rw [if_neg hc]; exact h2

section
variable {prog : Program} {w : World} {A : Around} {s : Shared} {K : Frag} {p x C dx : Addr} {R : Result → Shared → Prop} {E : Value → Shared → Prop} {Q : Value → Shared → Prop} {name : Str} {expr : Bool}

theorem n_fdict {ox od : Obj} (X : K.In s.heap) (I : InstAt s.heap x ox C (some od)) (hdx : ox.dict = some dx) (hod : s.heap.get? dx = some od)
    (hc : ∃ cd, clsIn K C = some cd ∧ cd.hasDict = true)
    (hs : mroIn K C (.type "staticmethod") = some false) (hcm : mroIn K C (.type "classmethod") = some false) (hth : nsIn K cStatics "_thread.count" = some none)
    (h : R (.ok (.ret (.ref dx))) { s with heap := s.heap.update dx marked }) : codeN (model prog w) A (.builtin "function.__dict__" ⟨[.ref x], []⟩) R s := by
  obtain ⟨cd, hcd, hdc⟩ := hc
  refine n_builtin entry_fdict ?_
  obtain ⟨hh, g, dr, t', os⟩ := s
  have L0 := I.type (M := model prog w)
  have L2 := looks_mroIn (M := model prog w) X hs
  have L3 := looks_mroIn (M := model prog w) X hcm
  have L4 := looks_clsIn (M := model prog w) X hcd
  have L5 := looks_nsIn (M := model prog w) X hth
  have hx := I.at_
  have hcl := I.cls
  have hno := I.no
  dsimp only at hx L0 L2 L3 L4 L5 hod
  obtain ⟨oc, odi, oda, osl⟩ := ox
  dsimp only at hcl hdx
  subst hcl hdx
  unfold Builtin.«function.__dict__»
  dsimp only
  refine n_then (Q := fun fin s' => FinN (model prog w) A R fin s') ?_
  unfold isInstance
  repeat lk
  unfold instanceDictHandedOut instanceDict
  refine n_bind (n_bind (n_then ?_))
  refine wpAny_loadPart hx ?_
  dsimp only
  refine n_then (L4.at ?_)
  simp only [hdc, Bool.not_true, Bool.false_eq_true, if_false]
  refine n_pure ?_
  dsimp only
  refine n_then (wpAny_loadPart hx ?_)
  dsimp only
  have fin : wpN (model prog w) (A.under (Code.builtin "function.__dict__" { pos := [Value.ref x] }))
      (do update dx marked; pure (some dx)) (fun a s' =>
          wpN (model prog w) (A.under (Code.builtin "function.__dict__" { pos := [Value.ref x] }))
            (ret (match a with | some d => Value.ref d | none => Value.none)) (fun fin s' => FinN (model prog w) A R fin s') (fun e s' => R (Except.error e) s') s')
        (fun e s' => R (Except.error e) s') { heap := hh, gens := g, drawn := dr, toks := t', os := os } :=
    n_then (wpAny_update hod (n_pure (n_pure h)))
  refine n_bind (n_load hod ?_)
  dsimp only
  refine n_ite (n_pure fin) (n_stack fun st hst => ?_)
  generalize hg : List.findSome? _ st = r
  have hr : r = none := by
    rw [← hg, List.findSome?_eq_none_iff]
    intro a ha
    have := hst a ha
    split
    · rename_i e; rw [e] at this; exact absurd this (by simp [tidy])
    · rfl
  subst hr
  dsimp only
  refine n_then (L5.at ?_)
  exact n_pure fin

theorem n_dict_get {ox od : Obj} {tp : Value} {t : Tok} {s1 : Value} (X : K.In s.heap) (I : InstAt s.heap x ox C (some od)) (hdx : ox.dict = some dx) (hod : s.heap.get? dx = some od)
    (hp : recIn K p "getset_descriptor" = some [.str (Str.ofString "__dict__") t, .ref C, .builtin "function.__dict__", s1]) (hc : ∃ cd, clsIn K C = some cd ∧ cd.hasDict = true)
    (hm : mroIn K C (.ref C) = some true) (hs : mroIn K C (.type "staticmethod") = some false) (hcm : mroIn K C (.type "classmethod") = some false) (hth : nsIn K cStatics "_thread.count" = some none)
    (h : R (.ok (.ret (.ref dx))) { s with heap := s.heap.update dx marked }) : codeN (model prog w) A (.call (.builtin "getset_descriptor.__get__") ⟨[.ref p, .ref x, tp], []⟩) R s := by
  obtain ⟨d, sl, ho⟩ := rec_of X hp
  have go : codeN (model prog w) A (.builtin "function.__dict__" ⟨[.ref x], []⟩) R s := n_fdict X I hdx hod hc hs hcm hth h
  obtain ⟨hh, g, dr, t', os⟩ := s
  have L0 := I.type (M := model prog w)
  have L1 := looks_mroIn (M := model prog w) X hm
  dsimp only at ho L0 L1
  have f0 := looks_field (M := model prog w) ho 0 (v := .str (Str.ofString "__dict__") t) rfl
  have f1 := looks_field (M := model prog w) ho 1 (v := .ref C) rfl
  have f2 := looks_field (M := model prog w) ho 2 (v := .builtin "function.__dict__") rfl
  refine n_call_builtin KF.slot_gs.plain (by decide) KF.entry_gs (KF.slot_gs.check _ _ _ _ _ _ _ _ ⟨_, ho, rfl⟩ (KF.args_gs _ _ _) ?_)
  unfold Builtin.«getset_descriptor.__get__» descrGet
  rw [dga_obj]
  refine n_bind (n_pure ?_)
  unfold descrGetter descrCheckInstance descrNameAndClass isInstance
  refine n_any ?_
  repeat lk
  exact ⟨Code.quiet_builtin _ (by decide +kernel), by simp [tidy], go⟩

theorem n_get_bind {g a : Value} {ox : Obj} {od : Option Obj} (X : K.In s.heap) (I : InstAt s.heap x ox C od) (hga : findIn K (.ref C) "__getattribute__" = some (some (.builtin "object.__getattribute__")))
    (hf : findObj K C od name = some (.bind g a)) (hk : findIn K (.ref C) "__getattr__" = some none)
    (h : wpN (model prog w) A.in1 (call g [a, .ref x, .ref C]) (fun v s' => wpAny (model prog w) A (handedOut v) Q E s') (fun e s' => wpAny (model prog w) A (noteIf true (.ref x) (.str name s.toks) e) (fun _ s'' => E e s'') E s') { s with toks := s.toks + 1 }) :
    wpN (model prog w) A (getAttr (.ref x) name expr) Q E s := by
  obtain ⟨hh, gg, d, t, os⟩ := s
  have L0 := I.type (M := model prog w)
  have L1 := looks_findIn (M := model prog w) X hga
  have L2 := looks_find (M := model prog w) X I hf
  have L3 := looks_findIn (M := model prog w) X hk
  unfold getAttr getAttrBy
  refine n_then (wpAny_mkText (n_holding (n_then (L0.at (n_then (L1.at ?_))))))
  show wpN _ _ (getAttrEveryday _ _ _) _ _ _
  refine n_bind (n_onRaise (n_runValue (by simp [tidy]) (n_builtin F.plainObj_entry_getattr_hooked ?_)))
  refine n_then (wpAny_pure (n_then (L0.at (n_then (L2.at (n_then (L3.at ?_)))))))
  show wpN _ _ (holding [a] (call g [a, .ref x, .ref C]) >>= ret) _ _ _
  exact n_bind (n_holding (n_mono h (fun v s' z => n_pure (n_any z)) fun _ _ z => n_any z))

/-- hasattr by a descriptor's __get__ -/
theorem n_hasattr {g a : Value} {ox : Obj} {od : Option Obj} {t : Tok} (X : K.In s.heap) (I : InstAt s.heap x ox C od) (hga : findIn K (.ref C) "__getattribute__" = some (some (.builtin "object.__getattribute__")))
    (hf : findObj K C od name = some (.bind g a)) (hk : findIn K (.ref C) "__getattr__" = some none) (hmod : mroIn K C (.type "module") = some false)
    (h : wpN (model prog w) A.in1.in1 (call g [a, .ref x, .ref C]) (fun v s' => handedIn v = true ∧ Q (.bool true) s') (fun _ _ => False) s) :
    wpN (model prog w) A (call (.builtin "hasattr") [.ref x, .str name t]) Q E s := by
  refine n_builtin_fn kind_hasattr plain_hasattr (by decide) entry_hasattr (args_hasattr _ _) ?_
  obtain ⟨hh, gg, d, tk, os⟩ := s
  have L0 := I.type (M := model prog w)
  have L1 := looks_findIn (M := model prog w) X hga
  have L2 := looks_find (M := model prog w) X I hf
  have L3 := looks_findIn (M := model prog w) X hk
  have L4 := looks_mroIn (M := model prog w) X hmod
  dsimp only at L0 L1 L2 L3 L4
  unfold Builtin.«hasattr»
  refine n_then ?_
  repeat lk
  refine n_then ?_
  repeat lk
  refine n_ite0 (by simp) ?_
  refine n_then (L0.at ?_)
  dsimp only
  refine n_then ?_
  repeat lk
  refine n_ite0 (by simp) ?_
  unfold getAttrBy?
  refine n_bind (n_bind (n_attempt ?_))
  unfold getAttrBy
  refine n_holding (n_then (L0.at (n_then (L1.at ?_))))
  show wpN _ _ (getAttrEveryday _ _ _) _ _ _
  refine n_bind (n_onRaise (n_runValue (by simp [tidy]) (n_builtin F.plainObj_entry_getattr_hooked ?_)))
  refine n_then (wpAny_pure (n_then (L0.at (n_then (L2.at (n_then (L3.at ?_)))))))
  show wpN _ _ (holding [a] (call g [a, .ref x, .ref C]) >>= ret) _ _ _
  refine n_bind (n_holding (n_mono h (fun v s' z => n_pure ?_) fun _ _ z => z.elim))
  show wpN (model prog w) A.in1 (handedOut v) _ _ _
  rw [handedOut_of z.1]
  refine n_pure (n_pure (n_ite0 (by simp) (n_pure ⟨_, rfl, z.2⟩)))
end
end Mine
end
section
set_option maxRecDepth 100000
set_option maxHeartbeats 4000000
namespace Mine
open PySem PySem.W PySem.Calls PyProof.Rows Builtin Builtin.ObjectAttr
open Sem (wp)

section
variable {prog : Program} {w : World} {A : Around} {s : Shared} {K : Frag} {x C dx L : Addr} {E : Value → Shared → Prop} {name : Str} {expr : Bool} {h₀ : Heap} {m : Str → Option Value} {news news' : List (Addr × Obj)} {es : List DictEntry} {n : Nat}

theorem keysOf_lit (hk : KeysLit w.params es) : KeysOf (PySem.strKind prog w) es.toArray := fun e he => by
  obtain ⟨x, t, e1, e2⟩ := hk.all e (by simpa using he)
  exact ⟨x, by rw [e1]; exact strKind_is prog w x t, e2⟩
theorem find_none (hl : getL name es = some none) : (es.toArray.findIdx? fun e => (PySem.strKind prog w).is name e.key) = none := by
  rw [Array.findIdx?_eq_none_iff]
  intro e he
  have he : e ∈ es := by simpa using he
  unfold getL at hl
  split at hl
  · cases hl
  · rename_i q
    have := List.find?_eq_none.mp q e he
    have z : (PySem.strKind prog w).is name e.key = e.key.isStr name := (isStr_of name e.key).symm
    rw [z]; simpa using this

/-- dict.get of a missing name on an object's dict -/
theorem getS_miss {t : Tok} {dflt : Value} {Q : Value → Shared → Prop} (N : News h₀ L s.heap news) (hp : (dx, dictS es n) ∈ news) (hk : KeysLit w.params es) (hl : getL name es = some none) (lo : (dx == sysModules) = false)
    (h : Q dflt { s with toks := s.toks + 1 }) : wpAny (model prog w) A (call (.builtin "dict.get") [.ref dx, .str name t, dflt]) Q E s := by
  have ho := (N _ hp).1
  refine wpAny_call (codeAny_call_builtin PySem.F.slot_dict_get.plain PySem.F.entry_dict_get (PySem.F.slot_dict_get.check _ _ _ _ _ _ _ _ ⟨_, ho, rfl⟩ (PySem.F.args_dict_get_3 _ _ _) ?_))
  show wpAny _ _ (dictGet dx (.str name t) >>= _) _ _ s
  refine wpAny_bind ?_
  unfold dictGet
  refine wpAny_holding (wpAny_bind ((PySem.strKind prog w).pyHash (strKind_is prog w name t) (wpAny_bind (wpAny_dictFind_of (s := { s with toks := s.toks + 1 }) (knd := PySem.strKind prog w) (strKind_is prog w name t) ho rfl (keysOf_lit hk) ?_))))
  rw [find_none hl]
  refine wpAny_pure ?_
  show wpAny _ _ (Builtin.Dict.missed dx (.str name t) >>= _) _ _ _
  exact wpAny_bind (wpAny_missed_other lo (wpAny_pure h))

theorem updS {o : Obj} {o' : Obj} {f : Obj → Obj} (F : Fr h₀ L s.heap m) (N : News h₀ L s.heap news) (U : Upd dx o o' news news') (e : f o = o') (hf : o'.isFreed = false) :
    s.heap.get? dx = some o ∧ Fr h₀ L (s.heap.update dx f) m ∧ News h₀ L (s.heap.update dx f) news' := by
  obtain ⟨pre, post, rfl, rfl, a, b⟩ := U.split
  have z := news_upd F N a b e hf
  exact ⟨(N (dx, o) (List.mem_append_right _ (.head _))).1, z.1, z.2⟩

/-- a new name stored into an object's dict -/
theorem setS_new {t : Tok} {v : Value} {Q : Unit → Shared → Prop} (F : Fr h₀ L s.heap m) (N : News h₀ L s.heap news) (hk : KeysLit w.params es) (hl : getL name es = some none) (hsz : es.length ≤ sizeLine)
    (U : Upd dx (dictS es n) (dictS (es ++ [⟨PyData.keyHash w.params name, .str name t, v⟩]) (n + 1)) news news')
    (h : ∀ h', Fr h₀ L h' m → News h₀ L h' news' → Q () { s with heap := h', toks := s.toks + 1 }) : wpAny (model prog w) A (setItem (.ref dx) (.str name t) v) Q E s := by
  have z := updS (f := fun o => o.mapDictKeys (·.push ⟨PyData.keyHash w.params name, .str name t, v⟩)) F N U (by
    show Obj.mapDictKeys _ (dictS es n) = _
    simp [Obj.mapDictKeys, dictS]) rfl
  have ho := z.1
  have hT : s.TypeIs (.ref dx) "dict" := ⟨_, ho, rfl⟩
  unfold setItem
  refine wpAny_holding (wpAny_bind (wpAny_sequenceKey hT (by decide) ?_))
  refine wpAny_bind (wpAny_callSpecial?_slot (name := Str.ofString "__setitem__") hT slot_dict_setitem (wpAny_call_entry slot_dict_setitem hT entry_dict_setitem ?_ (args_dict_setitem _ _ _)))
  show wpAny _ _ (Builtin.Dict.notOrdered "__setitem__" ⟨[.ref dx, .str name t, v], []⟩ >>= _) _ _ s
  refine wpAny_bind (wpAny_notOrdered_dict hT ?_)
  show wpAny _ _ (dictSet dx (.str name t) v >>= _) _ _ s
  refine wpAny_bind ?_
  unfold dictSet
  refine wpAny_holding (wpAny_bind ((PySem.strKind prog w).pyHash (strKind_is prog w name t) ?_))
  unfold dictSetHashed
  refine wpAny_holding (wpAny_bind (wpAny_dictFind_of (s := { s with toks := s.toks + 1 }) (knd := PySem.strKind prog w) (strKind_is prog w name t) ho rfl (keysOf_lit hk) ?_))
  rw [find_none hl]
  refine wpAny_bind (wpAny_rule (wpAny_updateDictKeys (hz := by simpa using hsz) (s := { s with toks := s.toks + 1 }) ho rfl ?_))
  exact wpAny_pure ⟨.none, rfl, wpAny_pure (h _ z.2.1 z.2.2)⟩

theorem get_ownS {v : Value} {Q : Value → Shared → Prop} {ox : Obj} {attr : Option Value} (F : Fr h₀ L s.heap m) (X₀ : K.In h₀) (I : InstAt s.heap x ox C (some (dictS es n))) (hg : plainGet K C name = true) (hh : hasDictIn K C = true)
    (ha : findIn K (.ref C) name = some attr) (hn : noGet K attr = true) (hl : getL name es = some (some v)) (hv : handedIn v = true) (h : Q v { s with toks := s.toks + 1 }) :
    wpAny (model prog w) A (getAttr (.ref x) name expr) Q E s :=
  get_value (X₀.keeps F.keep) I (plainGet_of hg).1 (findObj_own hh ha hn hl) hv h

/-- a name of the object's own before a descriptor that takes no stores -/
theorem get_ownD {v a g : Value} {Q : Value → Shared → Prop} {ox : Obj} (F : Fr h₀ L s.heap m) (X₀ : K.In h₀) (I : InstAt s.heap x ox C (some (dictS es n))) (hg : plainGet K C name = true) (hh : hasDictIn K C = true)
    (ha : findIn K (.ref C) name = some (some a)) (hs : specialIn K a "__get__" = some (some g)) (ht : takesIn K a = some false) (hl : getL name es = some (some v)) (hv : handedIn v = true) (h : Q v { s with toks := s.toks + 1 }) :
    wpAny (model prog w) A (getAttr (.ref x) name expr) Q E s :=
  get_value (X₀.keeps F.keep) I (plainGet_of hg).1 (by
    obtain ⟨cd, hc, hd⟩ := any_some hh
    unfold findObj
    have ho : PySem.W.ownOf cd (some (dictS es n)) name = some (some v) := by unfold PySem.W.ownOf; rw [if_pos hd]; exact hl
    rw [hc, Option.bind_some, ha, Option.bind_some]
    simp [hs, ht, ho]) hv h

theorem method_instS {pl : Sem Bool} {Q : Value × List Value → Shared → Prop} {f : Addr} {ox : Obj} (F : Fr h₀ L s.heap m) (X₀ : K.In h₀) (I : InstAt s.heap x ox C (some (dictS es n))) (hg : plainGet K C name = true)
    (hf : findIn K (.ref C) name = some (some (.ref f))) (ht : isFn K (.ref f) = true) (hl : getL name es = some none) (h : Q (.ref f, [.ref x]) s) : wpAny (model prog w) A (getMethod (.ref x) name pl) Q E s :=
  method_fn (X₀.keeps F.keep) I (plainGet_of hg).1 (plainGet_of hg).2 hf (beq_iff_eq.mp ht) (by show (lookIn name (dictS es n)).map _ = _; rw [show lookIn name (dictS es n) = getL name es from rfl, hl]; rfl) h

theorem method_getS {pl : Sem Bool} {Q : Value × List Value → Shared → Prop} (N : News h₀ L s.heap news) (hp : (dx, dictS es n) ∈ news) (h : Q (.builtin "dict.get", [.ref dx]) s) : wpAny (model prog w) A (getMethod (.ref dx) "get" pl) Q E s :=
  getMethod_builtin ⟨_, (N _ hp).1, rfl⟩ PySem.F.plainAttrs_dict PySem.F.slot_dict_get PySem.F.type_dict_get (fun a e => by injection e with e; subst e; exact ⟨_, (N _ hp).1, rfl⟩) h
end
end Mine
end
section
set_option maxRecDepth 100000
set_option maxHeartbeats 4000000
namespace Mine
open PySem PySem.W PySem.Calls PyProof.Rows
open Sem (wp)

section
variable {M : Model} {A : Around} {E : Value → Shared → Prop} {s : Shared} {env : Env}
theorem n_attrName {id attr : Str} {p pos : Pos} {Q : Value → Shared → Prop} (h : wpAny M A (eval (.Name id p) env) (fun o s₁ => wpN M A (getAttr o attr true) Q E s₁) E s) :
    wpN M A (eval (.Attribute (.Name id p) attr pos) env) Q E s := by
  rw [arm_eval_Attribute]
  show wpN M A (eval (.Name id p) env >>= _) Q E s
  refine n_then (wpAny_mono h (fun o s₁ h₁ => n_bind (n_standAt (n_bind (n_holding (n_mono h₁ (fun r s₂ h₂ => ?_) fun _ _ x => x))))) fun _ _ x => x)
  exact n_bind (n_pure (n_pure h₂))
theorem n_isTrueNot {f : Expr} {args : List Expr} {ks : List Keyword} {pos p : Pos} {whole : Sem Value} {Q : Bool → Shared → Prop}
    (h : wpN M A (eval (.Call f args ks pos) env) (fun v s₁ => wpAny M A (truthy v) (fun b => Q (!b)) E s₁) E s) : wpN M A (isTrue (.UnaryOp .Not (.Call f args ks pos) p) env whole) Q E s := by
  rw [arm_isTrue_UnaryOp]
  refine n_bind ?_
  show wpN M A (eval (.Call f args ks pos) env >>= fun v => standAt _ >>= fun _ => holding [v] (truthy v)) _ _ _
  exact n_bind (n_mono h (fun v s₁ h₁ => n_bind (n_standAt (n_holding (n_any (wpAny_mono h₁ (fun b s₂ h₂ => n_pure h₂) fun _ _ x => x))))) fun _ _ x => x)
theorem n_callB {id : String} {e : Expr} {rest : List Expr} {pos : Pos} {Q : Value → Shared → Prop} (h : wpAny M A (spliced (backTo pos (starEach (e :: rest) env))) (fun vs s₁ => wpN M A (call (.builtin id) vs) Q E s₁) E s)
    (he : starEach (e :: rest) env = (false, eval e env) :: starEach rest env := by rfl) (hplain : (backTo pos (starEach rest env)).any (·.1) = false := by rfl) :
    wpN M A (callWith pos (.builtin id) [] (backTo pos (starEach (e :: rest) env)) []) Q E s := by
  rw [he] at h ⊢
  exact n_callWith (P := fun _ => True) (by show (false || (backTo pos (starEach rest env)).any (·.1)) = false; rw [hplain]; rfl) (fun _ _ => ⟨.machine, .inr (.inl rfl), Looks.of_pure rfl⟩)
    (evalArgs_plain (wpAny_mono h (fun vs s₁ h₁ => ⟨trivial, by simpa using h₁⟩) fun _ _ x => x))
theorem n_callK {K : Frag} {f : Value} {h₀ : Heap} {e : Expr} {rest : List Expr} {pos : Pos} {Q : Value → Shared → Prop} (_X : K.In h₀) (hk : keepIn K f = true) (h : wpAny M A (spliced (backTo pos (starEach (e :: rest) env))) (fun vs s₁ => K.In s₁.heap ∧ wpN M A (call f vs) Q E s₁) E s)
    (he : starEach (e :: rest) env = (false, eval e env) :: starEach rest env := by rfl) (hplain : (backTo pos (starEach rest env)).any (·.1) = false := by rfl) :
    wpN M A (callWith pos f [] (backTo pos (starEach (e :: rest) env)) []) Q E s := by
  rw [he] at h ⊢
  exact n_callWith (by show (false || (backTo pos (starEach rest env)).any (·.1)) = false; rw [hplain]; rfl) (keeps_K hk)
    (evalArgs_plain (wpAny_mono h (fun vs s₁ h₁ => ⟨h₁.1, by simpa using h₁.2⟩) fun _ _ x => x))
end
end Mine
end
section
set_option maxRecDepth 100000
namespace Mine
open PySem PySem.W PySem.Calls PyProof.Rows
theorem findObj_ndata {K : Frag} {C : Addr} {od : Obj} {name : Str} {a g : Value} (hh : hasDictIn K C = true) (ha : findIn K (.ref C) name = some (some a)) (hs : specialIn K a "__get__" = some (some g)) (ht : takesIn K a = some false)
    (hc : copiedNames.contains name = false) (hl : lookIn name od = some none) : findObj K C (some od) name = some (.bind g a) := by
  obtain ⟨cd, hc', hd⟩ := any_some hh
  unfold findObj
  have ho : PySem.W.ownOf cd (some od) name = some none := by unfold PySem.W.ownOf; rw [if_pos hd]; exact hl
  rw [hc', Option.bind_some, ha, Option.bind_some]
  simp only [hs, Option.bind_some, ht, ho, hc, Bool.false_and, Bool.false_eq_true, if_false]
end Mine
namespace Mine
open PySem PySem.W PySem.Calls PyProof.Rows
section
variable {prog : Program} {w : World} {A : Around} {s : Shared} {K : Frag} {p x C dx L : Addr} {E : Value → Shared → Prop} {expr : Bool} {h₀ : Heap} {m : Str → Option Value} {news news' : List (Addr × Obj)} {es : List DictEntry} {n : Nat} {Q : Value → Shared → Prop} {od od' : Obj} {sl : Array (Option Value)}
theorem n_getDict {t : Tok} {s1 : Value} (F : Fr h₀ L s.heap m) (X₀ : K.In h₀) (N : News h₀ L s.heap news) (h1 : (x, (⟨.ref C, some dx, .plain, sl⟩ : Obj)) ∈ news) (h2 : (dx, od) ∈ news)
    (hg : plainGet K C "__dict__" = true) (ha : findIn K (.ref C) "__dict__" = some (some (.ref p))) (hs : specialIn K (.ref p) "__get__" = some (some (.builtin "getset_descriptor.__get__"))) (ht : takesIn K (.ref p) = some true)
    (hp : recIn K p "getset_descriptor" = some [.str (Str.ofString "__dict__") t, .ref C, .builtin "function.__dict__", s1]) (hh : hasDictIn K C = true)
    (hm : mroIn K C (.ref C) = some true) (hst : mroIn K C (.type "staticmethod") = some false) (hcm : mroIn K C (.type "classmethod") = some false) (hth : nsIn K cStatics "_thread.count" = some none)
    (hmk : marked od = od') (hfr : od'.isFreed = false) (U : Upd dx od od' news news')
    (h : ∀ h', Fr h₀ L h' m → News h₀ L h' news' → Q (.ref dx) { s with heap := h', toks := s.toks + 1 }) : wpN (model prog w) A (getAttr (.ref x) "__dict__" expr) Q E s := by
  have XK := X₀.keeps F.keep
  have I := InstAt.of_news N h1 h2
  have hcl := any_some hh
  obtain ⟨hod, F', N'⟩ := updS (f := marked) F N U hmk hfr
  refine n_get_bind XK I (plainGet_of hg).1 (findObj_data (by obtain ⟨cd, hc, _⟩ := hcl; rw [hc]; rfl) ha hs ht) (plainGet_of hg).2 (n_call ?_)
  refine n_dict_get (s := { s with toks := s.toks + 1 }) XK I rfl hod hp hcl hm hst hcm hth ?_
  show wpAny _ _ (handedOut (.ref dx)) _ _ _
  exact wpAny_pure (h _ F' N')
end
end Mine
namespace Mine
open PySem PySem.W
theorem far_of {l : List (Addr × Obj)} {d e : Nat} (h : ∀ p ∈ l, @LT.lt Nat _ p.1 d) (hle : d ≤ e) : ∀ p ∈ l, p.1 ≠ e := fun p hp q => by
  have := h p hp
  have q' : @Eq Nat p.1 e := q
  omega
end Mine
namespace Mine
open PySem PySem.W
theorem flat_nil {K : Type} (enc : K → PyData) : PyProof.V.FlatPairs enc [] [] := by first | exact trivial | exact .nil | constructor
end Mine
end
section
set_option maxRecDepth 100000
namespace Mine
open PySem PySem.W PySem.Calls PyProof.Rows
section
variable {prog : Program} {w : World} {A : Around} {s : Shared} {L d : Addr} {E : Value → Shared → Prop} {h₀ : Heap} {m : Str → Option Value} {news : List (Addr × Obj)} {K : Type} [DecidableEq K] {knd : KeyKind prog w K} {kvs : List (K × Value)} {o : Obj} {g : Obj → List (Addr × Obj)} {Q : Value → Shared → Prop}
theorem clear_K (F : Fr h₀ L s.heap m) (N : News h₀ L s.heap news) (U : UpdF d o news g) (hd : o.IsDictOf knd [])
    (h : ∀ h' o', Fr h₀ L h' m → News h₀ L h' (g o') → o'.IsDictOf knd [] → Q .none { s with heap := h' }) : wpAny (model prog w) A (call (.builtin "dict.clear") [.ref d]) Q E s := by
  obtain ⟨pre, post, rfl, hg, a, b⟩ := U.split
  exact call_clear_madeIn (enc := fun _ => PyData.none) F N a b hd fun h' o' F' N' hd' _ => h h' o' F' (hg o' ▸ N') hd'
theorem empty_kind {K' : Type} [DecidableEq K'] {knd' : KeyKind prog w K'} (hd : o.IsDictOf knd []) : o.IsDictOf knd' [] := by
  obtain ⟨es, ep, hc, hdat, _, hp, _⟩ := hd
  have he : es.toList = [] := List.length_eq_zero_iff.mp hp.length
  have he' : es = #[] := Array.toList_inj.mp he
  subst he'
  exact ⟨#[], ep, hc, hdat, (fun e he => by simp at he), Pairs.nil, List.nodup_nil⟩
end
end Mine
end
section
set_option maxRecDepth 100000
namespace Mine
open PySem PySem.W PySem.Calls PyProof.Rows PySem.Spec PyProof.V
section
variable {prog : Program} {w : World} {A : Around} {E : Value → Shared → Prop} {s : Shared} {env : Env} {h₀ : Heap} {x : Str} {body : List Stmt} {Q : Flow → Shared → Prop}

def TurnJ (h₀ : Heap) (L : Addr) (x : Str) (stored : List Str) (m₀ : Str → Option Value) (I : Addr) (own : List (Addr × Obj)) (J' : (Str → Option Value) → List (Addr × Obj) → Prop) (s₁ : Shared) (Q : Flow → Shared → Prop) (f : Flow) (s₂ : Shared) : Prop :=
  match f with
  | .ret v => Q (.ret v) s₂
  | .brk => Q .next s₂
  | _ => ∃ h' tk m' news', s₂ = { s₁ with heap := h', toks := tk } ∧ Fr h₀ L h' m' ∧ News h₀ L h' (own ++ news') ∧ (∀ p ∈ news', p.1 ≠ I) ∧ (∀ y, y ≠ x → stored.contains y = false → m' y = m₀ y) ∧ J' m' news'

theorem loop_walks {I : Addr} {fp : List Addr} {n : Nat} {P : Nat → Value → Prop} {St : Nat → Heap → Prop} {m₀ : Str → Option Value} {news own0 : List (Addr × Obj)} (stored : List Str)
    (J : Nat → (Str → Option Value) → List (Addr × Obj) → Prop)
    (W : Walks prog w A I fp [I] n P St) (hIf : I ∈ fp) (hLf : env.locals ∉ fp) (hI₀ : h₀.get? I = none)
    (hown : ∀ p ∈ own0, p.1 ∈ fp ∧ p.1 ≠ I ∧ h₀.get? p.1 = none) (hcov : ∀ b ∈ fp, b ≠ I → h₀.get? b = none → b ∈ own0.map (·.1))
    (hnI : ∀ p ∈ news, p.1 ≠ I) (hSt : ∀ i h, St i h → ∃ o, h.get? I = some o) (hSt2 : ∀ i h, St i h → (∀ p ∈ own0, ∃ o, h.get? p.1 = some o))
    (hst : St 0 s.heap) (F : Fr h₀ env.locals s.heap m₀) (N : News h₀ env.locals s.heap (own0 ++ news)) (h0 : J 0 m₀ news)
    (turn : ∀ i v (u : Str → Option Value) h tk oI news₁, i < n → P i v → J i u news₁ → Fr h₀ env.locals h (fun y => if y = x then some v else if stored.contains y then u y else m₀ y) → News h₀ env.locals h ((I, oI) :: (own0 ++ news₁)) → (∀ p ∈ news₁, p.1 ≠ I) →
      wpAny (model prog w) A (execs body env) (TurnJ h₀ env.locals x stored m₀ I ((I, oI) :: own0) (J (i + 1)) { s with heap := h, toks := tk } Q) E { s with heap := h, toks := tk })
    (done : ∀ (u : Str → Option Value) h tk news', J n u news' → Fr h₀ env.locals h (fun y => if y = x then u y else if stored.contains y then u y else m₀ y) → News h₀ env.locals h (own0 ++ news') → (∀ p ∈ news', p.1 ≠ I) → Q .next { s with heap := h, toks := tk }) :
    LoopAtV prog w A h₀ env x body Q E (.ref I) s := by
  have fold : ∀ (m₁ : Str → Option Value) (v : Option Value), (∀ y, y ≠ x → stored.contains y = false → m₁ y = m₀ y) → (fun y => if y = x then v else m₁ y) = fun y => if y = x then v else if stored.contains y then m₁ y else m₀ y := by
    intro m₁ v hm
    funext y
    by_cases h1 : y = x
    · simp [h1]
    · simp only [if_neg h1]
      cases h2 : stored.contains y with
      | true => simp
      | false => simp only [Bool.false_eq_true, if_false]; exact hm y h1 h2
  let J' : Nat → (Str → Option Value) → List (Addr × Obj) → Prop := fun i m₁ news₁ => ∃ news₂, news₁ = own0 ++ news₂ ∧ J i m₁ news₂ ∧ (∀ p ∈ news₂, p.1 ≠ I) ∧ ∀ y, y ≠ x → stored.contains y = false → m₁ y = m₀ y
  refine ⟨I, fp, [I], n, P, St, m₀, own0 ++ news, J', rfl, W, hLf, ?_, ?_, hst, F, N, ⟨news, rfl, h0, hnI, fun _ _ _ => rfl⟩, ?_, ?_⟩
  · intro b hb
    rw [List.mem_singleton.mp hb]
    exact hI₀
  · intro p hp hI
    rcases List.mem_append.mp hp with hp | hp
    · exact absurd (List.mem_singleton.mp hI) (hown p hp).2.1
    · exact absurd (List.mem_singleton.mp hI) (hnI p hp)
  · rintro i v m₁ news₁ s₁ own ⟨hh', tk', rfl⟩ hin hP ⟨news₂, rfl, hJ, hne, hm⟩ hoff h5 h6 h7 hs F₁ N₁
    rw [fold _ _ hm] at F₁
    obtain ⟨oI, hoI⟩ := hSt _ _ hs
    have NI : News h₀ env.locals hh' ((I, oI) :: (own0 ++ news₂)) := fun p hp => by
      rcases List.mem_cons.mp hp with rfl | hp
      · exact N₁ _ (List.mem_append.mpr (.inl (h7 I hIf hI₀ oI hoI)))
      · exact N₁ p (List.mem_append.mpr (.inr hp))
    have own1 : ∀ p ∈ own, p ∈ (I, oI) :: own0 := fun p hp => by
      have a := N₁ p (List.mem_append.mpr (.inl hp))
      rcases Decidable.em (p.1 = I) with q | q
      · have c := a.1
        rw [q] at c
        exact List.mem_cons.mpr (.inl (Prod.ext q (Option.some.inj (c.symm.trans hoI))))
      · obtain ⟨p', hp', e'⟩ := List.mem_map.mp (hcov p.1 (h5 p hp) q a.2.2)
        have c := (NI p' (List.mem_cons_of_mem _ (List.mem_append_left _ hp'))).1
        have e'' : p'.1 = p.1 := e'
        rw [e'', a.1] at c
        have : p = p' := Prod.ext e''.symm (Option.some.inj c)
        exact List.mem_cons.mpr (.inr (this ▸ hp'))
    refine wpAny_mono (turn i v m₁ hh' tk' oI news₂ hin hP hJ F₁ NI hne) (fun f s₂ p => ?_) fun _ _ e => e
    have fin : (∃ h' tk m' news', s₂ = { s with heap := h', toks := tk } ∧ Fr h₀ env.locals h' m' ∧ News h₀ env.locals h' (((I, oI) :: own0) ++ news') ∧ (∀ p ∈ news', p.1 ≠ I) ∧ (∀ y, y ≠ x → stored.contains y = false → m' y = m₀ y) ∧ J (i + 1) m' news') → LoopStepU h₀ env.locals [I] own (J' (i + 1)) { s with heap := hh', toks := tk' } .next s₂ := by
      rintro ⟨h', tk, m', news', e, F', N', hn, hm', hJ'⟩
      refine ⟨rfl, h', tk, m', own0 ++ news', e, F', fun p hp => ?_, ?_, news', rfl, hJ', hn, hm'⟩
      · rcases List.mem_append.mp hp with hp | hp
        · exact N' _ (List.mem_append_left _ (own1 p hp))
        · exact N' p (List.mem_cons_of_mem _ hp)
      · intro p hp
        rcases List.mem_append.mp hp with hp | hp
        · exact fun q => (hown p hp).2.1 (List.mem_singleton.mp q)
        · exact fun q => hn p hp (List.mem_singleton.mp q)
    cases f with
    | ret v => exact .ret p
    | brk => exact .brk p
    | next => exact .next (fin p)
    | cont => exact .cont (fin p)
  · rintro h' tk m' news' F' N' _ ⟨news₂, rfl, hJ, hne, hm⟩
    refine done m' h' tk news₂ hJ ?_ N' hne
    have e := fold m' none hm
    have e : (fun y => if y = x then m' y else if stored.contains y then m' y else m₀ y) = m' := by
      funext y
      by_cases h1 : y = x
      · simp [h1]
      · simp only [if_neg h1]
        cases h2 : stored.contains y with
        | true => simp
        | false => simp only [Bool.false_eq_true, if_false]; exact (hm y h1 h2).symm
    rw [e]
    exact F'

theorem loop_list {l : Addr} {items : Array Value} {c : Nat} {m₀ : Str → Option Value} {news : List (Addr × Obj)} (stored : List Str)
    (J : Addr → Nat → (Str → Option Value) → List (Addr × Obj) → Prop) (hh : A.handled = none)
    (F : Fr h₀ env.locals s.heap m₀) (N : News h₀ env.locals s.heap ((l, listOf items c) :: news)) (h0 : ∀ I, l < I → (∀ p ∈ news, p.1 < I) → J I 0 m₀ news)
    (turn : ∀ I i v (u : Str → Option Value) h tk oI news₁, l < I → (∀ p ∈ news, p.1 < I) → items[i]? = some v → J I i u news₁ → Fr h₀ env.locals h (fun y => if y = x then some v else if stored.contains y then u y else m₀ y) → News h₀ env.locals h ((I, oI) :: (l, listOf items c) :: news₁) → (∀ p ∈ news₁, p.1 ≠ I) →
      wpAny (model prog w) A (execs body env) (TurnJ h₀ env.locals x stored m₀ I [(I, oI), (l, listOf items c)] (J I (i + 1)) { s with heap := h, toks := tk } Q) E { s with heap := h, toks := tk })
    (done : ∀ I (u : Str → Option Value) h tk news', l < I → (∀ p ∈ news, p.1 < I) → J I items.size u news' → Fr h₀ env.locals h (fun y => if y = x then u y else if stored.contains y then u y else m₀ y) → News h₀ env.locals h news' → (∀ p ∈ news', p.1 ≠ I) → Q .next { s with heap := h, toks := tk }) :
    wpAny (model prog w) A (pyIter (.ref l)) (fun it s₂ => LoopAtV prog w A h₀ env x body Q E it s₂) E s := by
  have nl := N (l, listOf items c) List.mem_cons_self
  have hls : s.heap.IsList l items := ⟨_, nl.1, rfl, _, rfl⟩
  have hlt : l < s.heap.objs.size := Heap.lt_size nl.1
  have hne : l ≠ s.heap.objs.size := Nat.ne_of_lt hlt
  have hnl : ∀ p ∈ news, p.1 < s.heap.objs.size := fun p hp => Heap.lt_size (N p (List.mem_cons_of_mem _ hp)).1
  refine wpAny_pyIter_list hls ?_
  have W := Walks.list (prog := prog) (w := w) hh s.heap.objs.size l hne items
  have W' := Walks.list (prog := prog) (w := w) hh s.heap.objs.size l hne items
  refine loop_walks (own0 := [(l, listOf items c)]) (news := news) stored (J s.heap.objs.size) W List.mem_cons_self ?_ (next_is_new F) ?_ ?_ (fun p hp => Nat.ne_of_lt (hnl p hp)) (fun i h st => by obtain ⟨o, e, _⟩ := st.1; exact ⟨o, e⟩) (fun i h st p hp => by
      rw [List.mem_singleton.mp hp]; obtain ⟨o, e, _⟩ := st.2; exact ⟨o, e⟩) ⟨⟨_, Heap.get?_push_size _ rfl, rfl, rfl⟩, hls.at fun o e => Heap.get?_push_of_some _ e⟩ (F.push _) (fun p hp => ⟨Heap.get?_push_of_some _ (N p hp).1, (N p hp).2⟩) (h0 _ hlt hnl) ?_ ?_
  · intro hm
    rcases List.mem_cons.mp hm with e | hm
    · exact absurd F.ns.lt (e ▸ Nat.lt_irrefl _)
    · exact nl.2.1 (List.mem_singleton.mp hm).symm
  · intro p hp
    rw [List.mem_singleton.mp hp]
    exact ⟨List.mem_cons_of_mem _ List.mem_cons_self, hne, nl.2.2⟩
  · intro b hb hbI _
    rcases List.mem_cons.mp hb with e | hb
    · exact absurd e hbI
    · rw [List.mem_singleton.mp hb]; exact List.mem_cons_self
  · intro i v u h tk oI news₁ _ hP hJ F₁ N₁ hn₁
    exact turn _ i v u h tk oI news₁ hlt hnl hP hJ F₁ N₁ hn₁
  · intro u h tk news' hJ F' N' hn'
    exact done _ u h tk news' hlt hnl hJ F' N'.tail' hn'

theorem loop_range {r : Addr} {a₀ b₀ : Int} {t₀ u₀ v₀ : Tok} {n : Nat} {m₀ : Str → Option Value} {news : List (Addr × Obj)} (stored : List Str)
    (J : Addr → Nat → (Str → Option Value) → List (Addr × Obj) → Prop)
    (hh : A.handled = none) (hr : IsRange s.heap r a₀ b₀ 1 t₀ u₀ v₀) (hsmall : Builtin.Range.small a₀ b₀ 1 = true) (hn : Builtin.Range.rangeSize a₀ b₀ 1 = (n : Int)) (F : Fr h₀ env.locals s.heap m₀) (N : News h₀ env.locals s.heap news)
    (h0 : ∀ I, (∀ p ∈ news, p.1 < I) → J I 0 m₀ news)
    (turn : ∀ I i t (u : Str → Option Value) h tk oI news₁, (∀ p ∈ news, p.1 < I) → i < n → J I i u news₁ → Fr h₀ env.locals h (fun y => if y = x then some (.int (a₀ + (i : Nat)) t) else if stored.contains y then u y else m₀ y) → News h₀ env.locals h ((I, oI) :: news₁) → (∀ p ∈ news₁, p.1 ≠ I) →
      wpAny (model prog w) A (execs body env) (TurnJ h₀ env.locals x stored m₀ I [(I, oI)] (J I (i + 1)) { s with heap := h, toks := tk } Q) E { s with heap := h, toks := tk })
    (done : ∀ I (u : Str → Option Value) h tk news', (∀ p ∈ news, p.1 < I) → J I n u news' → Fr h₀ env.locals h (fun y => if y = x then u y else if stored.contains y then u y else m₀ y) → News h₀ env.locals h news' → (∀ p ∈ news', p.1 ≠ I) → Q .next { s with heap := h, toks := tk }) :
    wpAny (model prog w) A (pyIter (.ref r)) (fun it s₂ => LoopAtV prog w A h₀ env x body Q E it s₂) E s := by
  have hnl : ∀ p ∈ news, p.1 < s.heap.objs.size := fun p hp => Heap.lt_size (N p hp).1
  refine wpAny_pyIter_range hr hsmall ?_
  have W : Walks prog w A s.heap.objs.size [s.heap.objs.size] [s.heap.objs.size] n (fun i v => ∃ t, v = .int (a₀ + i * 1) t)
      (fun i h => IsRangeIter h s.heap.objs.size (a₀ + (i : Nat) * 1) ((n : Int) - (i : Nat)) 1) := Walks.range hh _ a₀ 1 n
  refine loop_walks (own0 := []) (news := news) stored (J s.heap.objs.size) W List.mem_cons_self ?_ (next_is_new F) (fun p hp => nomatch hp) (fun b hb hbI _ => absurd (List.mem_singleton.mp hb) hbI) (fun p hp => Nat.ne_of_lt (hnl p hp)) (fun i h st => ⟨_, st⟩) (fun i h st p hp => nomatch hp) (by show IsRangeIter _ _ _ _ _; rw [hn]; simpa using Heap.get?_push_size _ rfl) (F.push _) (fun p hp => ⟨Heap.get?_push_of_some _ (N p hp).1, (N p hp).2⟩) (h0 _ hnl) ?_ ?_
  · intro hm
    exact absurd F.ns.lt ((List.mem_singleton.mp hm) ▸ Nat.lt_irrefl _)
  · rintro i v u h tk oI news₁ hi ⟨t, rfl⟩ hJ F₁ N₁ hn₁
    rw [Int.mul_one] at F₁
    exact turn _ i t u h tk oI news₁ hnl hi hJ F₁ N₁ hn₁
  · intro u h tk news' hJ F' N' hn'
    exact done _ u h tk news' hnl hJ F' N' hn'

def IterAt (prog : Program) (w : World) (A : Around) (h₀ : Heap) (env : Env) (x : Str) (body : List Stmt) (Q : Flow → Shared → Prop) (E : Value → Shared → Prop) (xv : Value) (s₁ : Shared) : Prop :=
  wpAny (model prog w) A (pyIter xv) (fun it s₂ => LoopAtV prog w A h₀ env x body Q E it s₂) E s₁
theorem for_own {px pos : Pos} {iter : Expr} {m : Str → Option Value} (_F : Fr h₀ env.locals s.heap m) (hx : env.kindOf x = some .local)
    (hp : (env.scope.kind == .class || (env.scope.kind == .module && env.locals != env.globals)) = false)
    (h : wpAny (model prog w) A (eval iter env) (IterAt prog w A h₀ env x body Q E) E s)
    (hs : ∀ x, foldedSetIterable iter env x = pure x := by intro _; rfl)
    (hE : PassesOwn (model prog w) A env E := by passes_own) :
    wpAny (model prog w) A (exec (.For (.Name x px) iter body [] pos) env) Q E s := For_invV h₀ hx hp h hs hE

theorem loop_listM {l : Addr} {items : Array Value} {c : Nat} {m₀ : Str → Option Value} {news : List (Addr × Obj)} (stored : List Str)
    (J : Addr → Nat → (Str → Option Value) → List (Addr × Obj) → Prop) (hh : A.handled = none)
    (F : Fr h₀ env.locals s.heap m₀) (N : News h₀ env.locals s.heap news) (hm : (l, listOf items c) ∈ news) (h0 : ∀ I, (∀ p ∈ news, p.1 < I) → J I 0 m₀ news)
    (turn : ∀ I i v (u : Str → Option Value) h tk oI news₁, (∀ p ∈ news, p.1 < I) → items[i]? = some v → J I i u news₁ → Fr h₀ env.locals h (fun y => if y = x then some v else if stored.contains y then u y else m₀ y) → News h₀ env.locals h ((I, oI) :: (l, listOf items c) :: news₁) → (∀ p ∈ news₁, p.1 ≠ I) →
      wpAny (model prog w) A (execs body env) (TurnJ h₀ env.locals x stored m₀ I [(I, oI), (l, listOf items c)] (J I (i + 1)) { s with heap := h, toks := tk } Q) E { s with heap := h, toks := tk })
    (done : ∀ I (u : Str → Option Value) h tk news', (∀ p ∈ news, p.1 < I) → J I items.size u news' → Fr h₀ env.locals h (fun y => if y = x then u y else if stored.contains y then u y else m₀ y) → News h₀ env.locals h news' → (∀ p ∈ news', p.1 ≠ I) → Q .next { s with heap := h, toks := tk }) :
    IterAt prog w A h₀ env x body Q E (.ref l) s :=
  loop_list stored J hh F (fun p hp => (List.mem_cons.mp hp).elim (fun e => e ▸ N _ hm) (fun q => N p q)) (fun I _ => h0 I) (fun I i v u h tk oI news₁ _ => turn I i v u h tk oI news₁) (fun I u h tk news' _ => done I u h tk news')

theorem loop_none {l : Addr} {c : Nat} {m₀ : Str → Option Value} {news : List (Addr × Obj)} (stored : List Str) (hh : A.handled = none)
    (F : Fr h₀ env.locals s.heap m₀) (N : News h₀ env.locals s.heap news) (hm : (l, listOf #[] c) ∈ news)
    (done : ∀ (u : Str → Option Value) h tk, Fr h₀ env.locals h (fun y => if y = x then u y else if stored.contains y then u y else m₀ y) → News h₀ env.locals h news → Q .next { s with heap := h, toks := tk }) :
    IterAt prog w A h₀ env x body Q E (.ref l) s :=
  loop_listM stored (fun _ _ _ n' => n' = news) hh F N hm (fun _ _ => rfl) (fun I i v u h tk oI news₁ _ hv => absurd hv (by simp)) (fun I u h tk news' _ hJ F' N' _ => done u h tk F' (hJ ▸ N'))

/-- the rest of a ledger, without one address -/
def rm (l : List (Addr × Obj)) (a : Addr) : List (Addr × Obj) := l.filter fun p => decide (p.1 ≠ a)
theorem rm_ne {l : List (Addr × Obj)} {a : Addr} : ∀ p ∈ rm l a, p.1 ≠ a := fun p hp => of_decide_eq_true (List.mem_filter.mp hp).2
theorem rm_sub {l : List (Addr × Obj)} {a : Addr} : ∀ p ∈ rm l a, p ∈ l := fun p hp => (List.mem_filter.mp hp).1
theorem mem_rm {l : List (Addr × Obj)} {a : Addr} {p : Addr × Obj} (hp : p ∈ l) (h : p.1 ≠ a) : p ∈ rm l a := List.mem_filter.mpr ⟨hp, decide_eq_true h⟩
theorem News.front {h : Heap} {L a : Addr} {o : Obj} {news : List (Addr × Obj)} (N : News h₀ L h news) (hm : (a, o) ∈ news) : News h₀ L h ((a, o) :: rm news a) := News.perm N fun p hp => by
  rcases List.mem_cons.mp hp with rfl | hp
  · exact hm
  · exact rm_sub p hp
end
end Mine
end
section
set_option maxRecDepth 100000
namespace Mine
open PySem PySem.W PySem.Calls PyProof.Rows PySem.Spec PyProof.V

def rows (n : Nat) (g : Nat → Value) : List (Int × Value) := (List.range n).map fun (v : Nat) => ((v : Int), g v)
theorem rows_length (n : Nat) (g : Nat → Value) : (rows n g).length = n := by simp [rows]
theorem rows_congr {n : Nat} {g g' : Nat → Value} (h : ∀ v, v < n → g v = g' v) : rows n g = rows n g' := by
  unfold rows
  exact List.map_congr_left fun v hv => by rw [h v (List.mem_range.mp hv)]
theorem rows_succ (n : Nat) (g : Nat → Value) : rows (n + 1) g = rows n g ++ [((n : Int), g n)] := by
  simp [rows, List.range_succ]
theorem rows_keys (n : Nat) (g : Nat → Value) : (rows n g).map (·.1) = (List.range n).map (fun v : Nat => (v : Int)) := by
  simp [rows, Function.comp_def]
theorem rows_any (n : Nat) (g : Nat → Value) (v : Nat) : ((rows n g).any fun kv => kv.1 = (v : Int)) = decide (v < n) := by
  by_cases h : v < n
  · simp only [h, decide_true, List.any_eq_true]
    exact ⟨((v : Int), g v), List.mem_map.mpr ⟨v, List.mem_range.mpr h, rfl⟩, by simp⟩
  · simp only [h, decide_false]
    rw [Bool.eq_false_iff]
    intro q
    obtain ⟨p, hp, e⟩ := List.any_eq_true.mp q
    obtain ⟨u, hu, rfl⟩ := List.mem_map.mp hp
    have := List.mem_range.mp hu
    simp at e
    omega
theorem valueAt_rows_none {n : Nat} {g : Nat → Value} {v : Nat} (h : ¬ v < n) : valueAt (rows n g) (v : Int) = none := by
  have := valueAt_isSome_eq_any (rows n g) (v : Int)
  rw [rows_any, decide_eq_false h] at this
  cases e : valueAt (rows n g) (v : Int) with
  | none => rfl
  | some y => rw [e] at this; cases this
theorem valueAt_append {kvs kvs' : List (Int × Value)} {k : Int} : valueAt (kvs ++ kvs') k = (valueAt kvs k).or (valueAt kvs' k) := by
  unfold valueAt
  rw [List.find?_append]
  cases List.find? (fun kv => decide (kv.1 = k)) kvs <;> simp
theorem valueAt_rows {n : Nat} {g : Nat → Value} {v : Nat} (h : v < n) : valueAt (rows n g) (v : Int) = some (g v) := by
  induction n with
  | zero => omega
  | succ n ih =>
    rw [rows_succ, valueAt_append]
    by_cases e : v < n
    · rw [ih e]; rfl
    · have : v = n := by omega
      subst this
      rw [valueAt_rows_none e]
      simp [valueAt]
theorem stored_rows_new (n : Nat) (g : Nat → Value) (y : Value) : stored (rows n g) (n : Int) y = rows (n + 1) (fun v => if v = n then y else g v) := by
  rw [stored_absent (valueAt_rows_none (Nat.lt_irrefl n)), rows_succ]
  simp only [if_true]
  rw [rows_congr (g := g) (g' := fun v => if v = n then y else g v) fun v hv => (if_neg (Nat.ne_of_lt hv)).symm]
theorem stored_rows_old {n : Nat} {g : Nat → Value} {v : Nat} {y : Value} (h : v < n) : stored (rows n g) (v : Int) y = rows n (fun u => if u = v then y else g u) := by
  unfold stored
  rw [rows_any, decide_eq_true h]
  simp only [if_true, rows, List.map_map]
  refine List.map_congr_left fun u hu => ?_
  simp only [Function.comp_apply]
  by_cases e : u = v
  · simp [e]
  · have : ¬ ((u : Int) = (v : Int)) := by omega
    simp [e, this]

theorem valueAt_stored_self {K : Type} [DecidableEq K] (kvs : List (K × Value)) (k : K) (y : Value) : valueAt (stored kvs k y) k = some y := by
  by_cases h : (kvs.any fun kv => kv.1 = k) = true
  · unfold stored
    rw [if_pos h]
    induction kvs with
    | nil => simp at h
    | cons p r ih =>
      by_cases e : p.1 = k
      · simp [valueAt, e]
      · have h' : (r.any fun kv => kv.1 = k) = true := by simpa [e] using h
        have := ih h'
        simpa [valueAt, e] using this
  · have h' : valueAt kvs k = none := by
      have := valueAt_isSome_eq_any kvs k
      cases q : valueAt kvs k with
      | none => rfl
      | some z => rw [q] at this; exact absurd this.symm h
    rw [stored_absent h']
    unfold valueAt at h' ⊢
    rw [List.find?_append]
    cases q : List.find? (fun kv => decide (kv.1 = k)) kvs with
    | none => simp
    | some z => rw [q] at h'; simp at h'

/-- the rest of a ledger, without some addresses -/
def rms (l : List (Addr × Obj)) (as : List Nat) : List (Addr × Obj) := l.filter fun p => decide (p.1 ∉ as)
theorem rms_ne {l : List (Addr × Obj)} {as : List Nat} {a : Nat} (ha : a ∈ as) : ∀ p ∈ rms l as, p.1 ≠ a := fun p hp e => (of_decide_eq_true (List.mem_filter.mp hp).2) (e ▸ ha)
theorem rms_sub {l : List (Addr × Obj)} {as : List Nat} : ∀ p ∈ rms l as, p ∈ l := fun p hp => (List.mem_filter.mp hp).1
theorem mem_rms {l : List (Addr × Obj)} {as : List Nat} {p : Addr × Obj} (hp : p ∈ l) (h : p.1 ∉ as) : p ∈ rms l as := List.mem_filter.mpr ⟨hp, decide_eq_true h⟩

def Apart (S G : List (Addr × Obj)) : Prop := ∀ p ∈ S, ∀ q ∈ G, p.1 ≠ q.1

structure GI (prog : Program) (w : World) (G : List (Addr × Obj)) (x d ag an aa : Nat) (es : List DictEntry) (ne : Nat) (f : Nat → Nat) (n : Nat) (A : Nat → List (Int × Value)) (B : Nat → List (Str × Value)) (gk : List (Str × Value)) : Prop where
  inst : (x, instObj 617 d) ∈ G
  dict : (d, dictS es ne) ∈ G
  gr : ∃ o, (ag, o) ∈ G ∧ o.IsDictOf (PySem.strKind prog w) gk
  nod : ∃ o, (an, o) ∈ G ∧ o.IsDictOf (PySem.intKind prog w) (rows n fun v => .ref (f (2 * v + 1)))
  adj : ∃ o, (aa, o) ∈ G ∧ o.IsDictOf (PySem.intKind prog w) (rows n fun v => .ref (f (2 * v)))
  adv : ∀ v, v < n → ∃ o, (f (2 * v), o) ∈ G ∧ o.IsDictOf (PySem.intKind prog w) (A v)
  ndv : ∀ v, v < n → ∃ o, (f (2 * v + 1), o) ∈ G ∧ o.IsDictOf (PySem.strKind prog w) (B v)
  inj : ∀ i j, i < 2 * n → j < 2 * n → i ≠ j → f i ≠ f j
  off : ∀ i, i < 2 * n → f i ∉ [x, d, ag, an, aa]
  dis : [x, d, ag, an, aa].Nodup
  low : ∀ a ∈ [x, d, ag, an, aa], (a == sysModules) = false
  lowf : ∀ i, i < 2 * n → (f i == sysModules) = false
end Mine
end
section
set_option maxRecDepth 100000
namespace Mine
open PySem PySem.W PySem.Calls PyProof.Rows PySem.Spec PyProof.V

theorem allLt_all {d : Nat} {l : List (Addr × Obj)} (h : AllLt d l) : ∀ p ∈ l, @LT.lt Nat _ p.1 d := by
  induction l with
  | nil => exact fun p hp => nomatch hp
  | cons q r ih =>
    intro p hp
    rcases List.mem_cons.mp hp with e | hp
    · exact e ▸ h.1
    · exact ih h.2 p hp
theorem allLt_append {d : Nat} {a b : List (Addr × Obj)} (h : AllLt d (a ++ b)) : AllLt d a ∧ AllLt d b :=
  ⟨allLt_of fun p hp => allLt_all h p (List.mem_append_left _ hp), allLt_of fun p hp => allLt_all h p (List.mem_append_right _ hp)⟩
theorem flat_len {K : Type} {enc : K → PyData} {kvs : List (K × Value)} {D : List (PyData × PyData)} (h : FlatPairs enc kvs D) : kvs.length = D.length := by
  induction h with
  | nil => rfl
  | cons _ _ ih => simp [ih]

section
variable {prog : Program} {w : World} {S G : List (Addr × Obj)} {x d ag an aa : Nat} {es : List DictEntry} {ne : Nat} {f : Nat → Nat} {n : Nat} {A : Nat → List (Int × Value)} {B : Nat → List (Str × Value)} {gk : List (Str × Value)}

theorem GI.mem_lt (gi : GI prog w G x d ag an aa es ne f n A B gk) {h₀ h : Heap} {L : Addr} (N : News h₀ L h G) : ∀ i, i < 2 * n → f i < h.objs.size := by
  intro i hi
  rcases Nat.mod_two_eq_zero_or_one i with e | e
  · have : i = 2 * (i / 2) := by omega
    obtain ⟨o, ho, _⟩ := gi.adv (i / 2) (by omega)
    rw [this]
    exact Heap.lt_size (N _ ho).1
  · have : i = 2 * (i / 2) + 1 := by omega
    obtain ⟨o, ho, _⟩ := gi.ndv (i / 2) (by omega)
    rw [this]
    exact Heap.lt_size (N _ ho).1
theorem GI.fin (gi : GI prog w G x d ag an aa es ne f n A B gk) : ∀ i, i < 2 * n → ∃ o, (f i, o) ∈ G := by
  intro i hi
  rcases Nat.mod_two_eq_zero_or_one i with e | e
  · have : i = 2 * (i / 2) := by omega
    obtain ⟨o, ho, _⟩ := gi.adv (i / 2) (by omega)
    rw [this]
    exact ⟨_, ho⟩
  · have : i = 2 * (i / 2) + 1 := by omega
    obtain ⟨o, ho, _⟩ := gi.ndv (i / 2) (by omega)
    rw [this]
    exact ⟨_, ho⟩

theorem add_step {h₀ h' : Heap} {L : Addr} {i I D d1 d2 : Nat} {oI oD o1 o2 oa on : Obj} {R : List (Addr × Obj)} {kvs : List (Str × Value)}
    (gi : GI prog w G x d ag an aa es ne f i (fun _ => []) (fun _ => []) []) (ap : Apart ((D, oD) :: S) G) (hI : ∀ p ∈ (D, oD) :: (S ++ G), p.1 ≠ I)
    (hR : R = (I, oI) :: (S ++ rms G [aa, an, x, d]))
    (N : News h₀ L h' ((d2, o2) :: (d1, o1) :: (D, oD) :: (aa, oa) :: (an, on) :: (x, instObj 617 d) :: (d, dictS es ne) :: R))
    (l1 : D < d1 ∧ aa < d1 ∧ an < d1 ∧ x < d1 ∧ d < d1 ∧ AllLt d1 R) (l2 : d1 < d2 ∧ D < d2 ∧ aa < d2 ∧ an < d2 ∧ x < d2 ∧ d < d2 ∧ AllLt d2 R)
    (a1 : oa.IsDictOf (PySem.intKind prog w) (stored (rows i fun v => .ref (f (2 * v))) (i : Int) (.ref d1)))
    (a2 : on.IsDictOf (PySem.intKind prog w) (stored (rows i fun v => .ref (f (2 * v + 1))) (i : Int) (.ref d2)))
    (b1 : o1.IsDictOf (PySem.intKind prog w) []) (b2 : o2.IsDictOf (PySem.strKind prog w) kvs) (hf : FlatPairs PyData.str kvs (ktMergeD [] []))
    (lo1 : (d1 == sysModules) = false) (lo2 : (d2 == sysModules) = false) :
    ∃ G' f', News h₀ L h' ([(I, oI)] ++ ((D, oD) :: (S ++ G'))) ∧ (∀ p ∈ (D, oD) :: (S ++ G'), p.1 ≠ I) ∧ Apart ((D, oD) :: S) G' ∧
      GI prog w G' x d ag an aa es ne f' (i + 1) (fun _ => []) (fun _ => []) [] := by
  have hk : kvs = [] := List.length_eq_zero_iff.mp (by rw [flat_len hf]; rfl)
  subst hk hR
  obtain ⟨l11, l12, l13, l14, l15, l16, l17⟩ := l1
  obtain ⟨l20, l21, l22, l23, l24, l25, l26, l27⟩ := l2
  have s1 := allLt_all l17
  have s2 := allLt_all l27
  have fold : ∀ p ∈ S, p.1 < d1 ∧ p.1 < d2 := fun p hp => ⟨s1 p (List.mem_append_left _ hp), s2 p (List.mem_append_left _ hp)⟩
  have fG : ∀ p ∈ G, p.1 < d1 ∧ p.1 < d2 := fun p hp => by
    by_cases q : p.1 ∈ [aa, an, x, d]
    · simp only [List.mem_cons, List.not_mem_nil, or_false] at q
      rcases q with q | q | q | q <;> rw [q] <;> constructor <;> assumption
    · exact ⟨s1 p (List.mem_append_right _ (mem_rms hp q)), s2 p (List.mem_append_right _ (mem_rms hp q))⟩
  have off : ∀ k, k < 2 * i → f k < d1 ∧ f k < d2 := fun k hk => by obtain ⟨o, ho⟩ := gi.fin k hk; exact fG _ ho
  have hmem : ∀ v o, v < 2 * i → (f v, o) ∈ G → (f v, o) ∈ rms G [aa, an, x, d] := fun v o hv ho => mem_rms ho fun q => gi.off v hv (by
    simp only [List.mem_cons, List.not_mem_nil, or_false] at q ⊢
    rcases q with q | q | q | q <;> simp [q])
  have hag := gi.dis
  simp only [List.nodup_cons, List.mem_cons, List.not_mem_nil, or_false, not_or, List.nodup_nil, and_true, not_false_eq_true] at hag
  refine ⟨(d2, o2) :: (d1, o1) :: (aa, oa) :: (an, on) :: (x, instObj 617 d) :: (d, dictS es ne) :: rms G [aa, an, x, d], fun k => if k = 2 * i then d1 else if k = 2 * i + 1 then d2 else f k, ?_, ?_, ?_, ?_⟩
  · refine News.perm N fun p hp => ?_
    simp only [List.cons_append, List.nil_append, List.mem_cons, List.mem_append] at hp ⊢
    rcases hp with h | h | h | h | h | h | h | h | h | h <;> simp [h]
  · intro p hp
    have hD : D ≠ I := hI _ List.mem_cons_self
    have hS : ∀ p ∈ S, p.1 ≠ I := fun p hp => hI p (List.mem_cons_of_mem _ (List.mem_append_left _ hp))
    have hG : ∀ p ∈ G, p.1 ≠ I := fun p hp => hI p (List.mem_cons_of_mem _ (List.mem_append_right _ hp))
    obtain ⟨_, ma, _⟩ := gi.adj
    obtain ⟨_, mn, _⟩ := gi.nod
    simp only [List.mem_cons, List.mem_append] at hp
    rcases hp with h | h | h | h | h | h | h | h | h
    · rw [h]; exact hD
    · exact hS p h
    · rw [h]; exact Nat.ne_of_gt (Nat.lt_of_lt_of_le l26 (Nat.le_refl _))
    · rw [h]; exact Nat.ne_of_gt l16
    · rw [h]; exact (hG _ ma : aa ≠ I)
    · rw [h]; exact (hG _ mn : an ≠ I)
    · rw [h]; exact hG _ gi.inst
    · rw [h]; exact hG _ gi.dict
    · exact hG p (rms_sub p h)
  · intro p hp q hq
    obtain ⟨_, ma, _⟩ := gi.adj
    obtain ⟨_, mn, _⟩ := gi.nod
    have pl : p.1 < d1 ∧ p.1 < d2 := by
      rcases List.mem_cons.mp hp with h | h
      · rw [h]; exact ⟨l11, l21⟩
      · exact fold p h
    simp only [List.mem_cons] at hq
    rcases hq with h | h | h | h | h | h | h
    · rw [h]; exact Nat.ne_of_lt pl.2
    · rw [h]; exact Nat.ne_of_lt pl.1
    · rw [h]; exact (ap p hp _ ma : p.1 ≠ aa)
    · rw [h]; exact (ap p hp _ mn : p.1 ≠ an)
    · rw [h]; exact ap p hp _ gi.inst
    · rw [h]; exact ap p hp _ gi.dict
    · exact ap p hp q (rms_sub q h)
  · have e1 : rows (i + 1) (fun v => Value.ref ((fun k => if k = 2 * i then d1 else if k = 2 * i + 1 then d2 else f k) (2 * v))) = stored (rows i fun v => .ref (f (2 * v))) (i : Int) (.ref d1) := by
      rw [stored_rows_new]
      refine rows_congr fun v hv => ?_
      by_cases q : v = i
      · subst q; simp
      · have a : ¬ 2 * v = 2 * i := by omega
        have b : ¬ 2 * v = 2 * i + 1 := by omega
        simp only [a, b, q, if_false]
    have e2 : rows (i + 1) (fun v => Value.ref ((fun k => if k = 2 * i then d1 else if k = 2 * i + 1 then d2 else f k) (2 * v + 1))) = stored (rows i fun v => .ref (f (2 * v + 1))) (i : Int) (.ref d2) := by
      rw [stored_rows_new]
      refine rows_congr fun v hv => ?_
      by_cases q : v = i
      · subst q; simp
      · have a : ¬ 2 * v + 1 = 2 * i := by omega
        have b : ¬ 2 * v + 1 = 2 * i + 1 := by omega
        simp only [a, b, q, if_false]
    obtain ⟨og, mg, dg⟩ := gi.gr
    constructor
    · simp
    · simp
    · refine ⟨og, ?_, dg⟩
      have : (ag, og) ∈ rms G [aa, an, x, d] := mem_rms mg (by simp only [List.mem_cons, List.not_mem_nil, or_false, not_or]; exact ⟨hag.2.2.1.2, hag.2.2.1.1, fun e => hag.1.2.1 e.symm, fun e => hag.2.1.1 e.symm⟩)
      simp [this]
    · exact ⟨on, by simp, e2 ▸ a2⟩
    · exact ⟨oa, by simp, e1 ▸ a1⟩
    · intro v hv
      by_cases q : v = i
      · subst q; exact ⟨o1, by simp, b1⟩
      · obtain ⟨o, ho, hd⟩ := gi.adv v (by omega)
        refine ⟨o, ?_, hd⟩
        have a : ¬ 2 * v = 2 * i := by omega
        have b : ¬ 2 * v = 2 * i + 1 := by omega
        simp only [a, b, if_false]
        have := hmem (2 * v) o (by omega) ho
        simp [this]
    · intro v hv
      by_cases q : v = i
      · subst q; exact ⟨o2, by simp, b2⟩
      · obtain ⟨o, ho, hd⟩ := gi.ndv v (by omega)
        refine ⟨o, ?_, hd⟩
        have a : ¬ 2 * v + 1 = 2 * i := by omega
        have b : ¬ 2 * v + 1 = 2 * i + 1 := by omega
        simp only [a, b, if_false]
        have := hmem (2 * v + 1) o (by omega) ho
        simp [this]
    · intro a b ha hb hab
      show (if a = 2 * i then d1 else if a = 2 * i + 1 then d2 else f a) ≠ (if b = 2 * i then d1 else if b = 2 * i + 1 then d2 else f b)
      have k1 : ∀ c, c < 2 * (i + 1) → ¬ c = 2 * i → ¬ c = 2 * i + 1 → f c < d1 ∧ f c < d2 := fun c hc q r => off c (by omega)
      have k3 : d1 ≠ d2 := Nat.ne_of_lt l20
      split
      · split
        · omega
        · split
          · exact k3
          · have := k1 b hb (by assumption) (by assumption); omega
      · split
        · split
          · exact k3.symm
          · split
            · omega
            · have := k1 b hb (by assumption) (by assumption); omega
        · split
          · have := k1 a ha (by assumption) (by assumption); omega
          · split
            · have := k1 a ha (by assumption) (by assumption); omega
            · exact gi.inj a b (by omega) (by omega) hab
    · intro a ha
      show (if a = 2 * i then d1 else if a = 2 * i + 1 then d2 else f a) ∉ _
      have lag : ag < d1 ∧ ag < d2 := fG _ mg
      split
      · simp only [List.mem_cons, List.not_mem_nil, or_false, not_or]; omega
      · split
        · simp only [List.mem_cons, List.not_mem_nil, or_false, not_or]; omega
        · exact gi.off a (by omega)
    · exact gi.dis
    · exact gi.low
    · intro a ha
      show ((if a = 2 * i then d1 else if a = 2 * i + 1 then d2 else f a) == sysModules) = false
      split
      · exact lo1
      · split
        · exact lo2
        · exact gi.lowf a (by omega)
/-- the facts that a walk over the graph's own objects needs -/
theorem GI.apart2 (gi : GI prog w G x d ag an aa es ne f n A B gk) : (¬x = d ∧ ¬x = ag ∧ ¬x = an ∧ ¬x = aa) ∧ (¬d = ag ∧ ¬d = an ∧ ¬d = aa) ∧ (¬ag = an ∧ ¬ag = aa) ∧ ¬an = aa := by
  have hag := gi.dis
  simp only [List.nodup_cons, List.mem_cons, List.not_mem_nil, or_false, not_or, List.nodup_nil, and_true, not_false_eq_true] at hag
  exact hag
end
end Mine
end
section
set_option maxRecDepth 100000
namespace Mine
open PySem PySem.W PySem.Calls PyProof.Rows PySem.Spec PyProof.V

structure Nx (prog : Program) (w : World) (i : Addr) (fp : List Addr) (n : Nat) (P : Nat → Value → Prop) (St : Nat → Heap → Prop) : Prop where
  here : i ∈ fp
  frame : ∀ k h h', St k h → (∀ b ∈ fp, ∀ o, h.get? b = some o → h'.get? b = some o) → St k h'
  live : ∀ k h, St k h → ∀ b ∈ fp, ∃ o, h.get? b = some o
  item : ∀ (A : Around) (E : Value → Shared → Prop) k (s : Shared) (Q : Value → Shared → Prop), k < n → St k s.heap →
    (∀ v h' tk, P k v → St (k + 1) h' → Heap.SameBut i s.heap h' → Q v { s with heap := h', toks := tk }) → wpAny (model prog w) A (Builtin.SmallTypes.nextOf (.ref i)) Q E s
  done : ∀ (A : Around) (E : Value → Shared → Prop) (s : Shared) (Q : Value → Shared → Prop), A.handled = none → St n s.heap →
    (∀ h' e, Heap.ExtBut i s.heap h' → (∃ o, h'.get? e = some o ∧ o.cls = .type "StopIteration") → E (.ref e) { s with heap := h' }) → wpAny (model prog w) A (Builtin.SmallTypes.nextOf (.ref i)) Q E s

section
variable {prog : Program} {w : World} {A : Around} {E : Value → Shared → Prop} {s : Shared}

theorem Nx.list (i l : Addr) (hne : l ≠ i) (items : Array Value) :
    Nx prog w i [i, l] items.size (fun k v => items[k]? = some v) (fun k h => h.IsListIter i l k ∧ h.IsList l items) where
  here := List.mem_cons_self
  frame := fun k h h' st hk => ⟨st.1.at fun o e => hk i (by simp) o e, st.2.at fun o e => hk l (by simp) o e⟩
  live := fun k h st b hb => by
    obtain ⟨⟨o, ho, _⟩, ⟨o', ho', _⟩⟩ := st
    simp only [List.mem_cons, List.not_mem_nil, or_false] at hb
    rcases hb with rfl | rfl
    · exact ⟨_, ho⟩
    · exact ⟨_, ho'⟩
  item := fun A E k s Q hk st hQ => by
    refine wpAny_nextOf_list_item st.1 st.2 (x := items[k]) (by simp [hk]) fun h' hit' hs' => ?_
    exact hQ _ h' s.toks (by simp [hk]) ⟨hit', st.2.extBut hs'.extBut hne⟩ hs'
  done := fun A E s Q hh st hE => wpAny_nextOf_list_end hh st.1 st.2 (by simp) hE

theorem nextOf_range_item {it : Addr} {x left step : Int} {Q : Value → Shared → Prop} (hit : IsRangeIter s.heap it x left step) (hleft : 0 < left)
    (hQ : ∀ h', IsRangeIter h' it (x + step) (left - 1) step → Heap.SameBut it s.heap h' → Q (.int x s.toks) { s with heap := h', toks := s.toks + 1 }) :
    wpAny (model prog w) A (Builtin.SmallTypes.nextOf (.ref it)) Q E s := by
  have hT : s.TypeIs (.ref it) "range_iterator" := ⟨_, hit, rfl⟩
  unfold Builtin.SmallTypes.nextOf
  refine wpAny_bind (wpAny_callSpecial?_slot (name := Str.ofString "__next__") hT F.slot_range_iterator_next
    (call_meets F.slot_range_iterator_next hT F.entry_range_iterator_next (F.args_range_iterator_next_1 _) (AutoRange.range_iterator___next___range_iterator_1 it x left step (by omega)) ⟨hit, ?_⟩))
  exact wpAny_pure (hQ _ (Heap.get?_update_self _ (Heap.get?_update_self _ hit rfl) rfl) ((Heap.SameBut.update ..).trans (Heap.SameBut.update ..)))

theorem nextOf_range_end {it : Addr} {x left step : Int} {Q : Value → Shared → Prop} (hh : A.handled = none) (hit : IsRangeIter s.heap it x left step) (hleft : left ≤ 0)
    (hE : ∀ h' e, Heap.ExtBut it s.heap h' → (∃ o, h'.get? e = some o ∧ o.cls = .type "StopIteration") → E (.ref e) { s with heap := h' }) :
    wpAny (model prog w) A (Builtin.SmallTypes.nextOf (.ref it)) Q E s := by
  have hT : s.TypeIs (.ref it) "range_iterator" := ⟨_, hit, rfl⟩
  unfold Builtin.SmallTypes.nextOf
  refine wpAny_bind (wpAny_callSpecial?_slot (name := Str.ofString "__next__") hT F.slot_range_iterator_next
    (wpAny_call_entry F.slot_range_iterator_next hT F.entry_range_iterator_next ?_ (F.args_range_iterator_next_1 _)))
  show wpAny _ _ (field (.ref it) 0 >>= _) _ _ s
  refine wpAny_bind (wpAny_field hit rfl (x := rawInt x) rfl ?_)
  show wpAny _ _ (field (.ref it) 1 >>= _) _ _ s
  refine wpAny_bind (wpAny_field hit rfl (x := rawInt left) rfl ?_)
  show wpAny _ _ (field (.ref it) 2 >>= _) _ _ s
  refine wpAny_bind (wpAny_field hit rfl (x := rawInt step) rfl ?_)
  show wpAny _ _ (if left ≤ 0 then _ else _) _ _ s
  rw [if_pos hleft]
  refine wpAny_bind (wpAny_rule ?_)
  refine wpAny_bind ?_
  show wpAny _ _ (newExc (.type "StopIteration") [] >>= _) _ _ _
  refine wpAny_bind ?_
  simp only [newExc, newTuple]
  refine wpAny_bind (wpAny_newObj_type ?_ (by size_fits))
  refine wpAny_bind (m := firstArgMember _ _) (wpAny_of_eq (a := Value.none) (by first | rfl | (simp only [firstArgMember]; rfl)) ?_)
  refine wpAny_newObj_type ?_ (by size_fits)
  simp only [raiseNew]
  refine wpAny_bind (wpAny_handled ?_)
  first | rw [show A.in1.handled = none from hh] | rw [hh]
  refine wpAny_bind (wpAny_pure (wpAny_throw ?_))
  exact hE _ _ (((Heap.ExtBut.refl it s.heap).push _).push _) ⟨_, Heap.get?_push_size _ rfl, rfl⟩

theorem Nx.range (i : Addr) (a : Int) (n : Nat) :
    Nx prog w i [i] n (fun k v => ∃ t, v = .int (a + (k : Nat)) t) (fun k h => IsRangeIter h i (a + (k : Nat)) ((n : Int) - (k : Nat)) 1) where
  here := List.mem_cons_self
  frame := fun k h h' st hk => hk i (by simp) _ st
  live := fun k h st b hb => by rw [List.mem_singleton.mp hb]; exact ⟨_, st⟩
  item := fun A E k s Q hk st hQ => by
    refine nextOf_range_item st (by omega) fun h' hit' hs' => ?_
    refine hQ _ h' _ ⟨_, rfl⟩ ?_ hs'
    have e1 : a + ((k + 1 : Nat) : Int) = a + (k : Int) + 1 := by push_cast; omega
    have e2 : (n : Int) - ((k + 1 : Nat) : Int) = (n : Int) - (k : Int) - 1 := by push_cast; omega
    rw [e1, e2]; exact hit'
  done := fun A E s Q hh st hE => nextOf_range_end hh st (by omega) hE

theorem loadAlive {M : Model} {a : Addr} {Q : Option Obj → Shared → Prop} (h : Q (s.heap.get? a) s) : wpAny M A (loadIfAlive a) Q E s := by
  intro Γ p _
  unfold loadIfAlive
  rw [Sem.wp_loadIfAlive]
  exact h

/-- a zip object over two iterators, with or without a tuple handed out -/
structure ZipSt (h : Heap) (z TI TO i1 i2 : Addr) : Prop where
  obj : ∃ f0 f1, h.get? z = some { cls := .type "zip", dict := none, data := .fields #[f0, f1, .bool false, .ref TI, .ref TO], slots := #[] } ∧ (f0 = .none ∨ ∃ (T : Addr) (o : Obj), f0 = rawInt T ∧ h.get? T = some o)
  its : IsPair h TI (.ref i1) (.ref i2)
  own : ∃ a b, IsPair h TO a b

structure ZipAp (z TI TO i1 i2 : Addr) (fp1 fp2 : List Addr) : Prop where
  TIz : TI ≠ z
  TOz : TO ≠ z
  TITO : TI ≠ TO
  TIi1 : TI ≠ i1
  TIi2 : TI ≠ i2
  z1 : z ∉ fp1
  z2 : z ∉ fp2
  TO1 : TO ∉ fp1
  TO2 : TO ∉ fp2
  i12 : i1 ∉ fp2
  i21 : i2 ∉ fp1

theorem zip_item {z TI TO i1 i2 : Addr} {fp1 fp2 : List Addr} {n1 n2 k : Nat} {P1 P2 : Nat → Value → Prop} {St1 St2 : Nat → Heap → Prop} {Q : Value → Shared → Prop}
    (W1 : Nx prog w i1 fp1 n1 P1 St1) (W2 : Nx prog w i2 fp2 n2 P2 St2) (D : ZipAp z TI TO i1 i2 fp1 fp2) (hz : ZipSt s.heap z TI TO i1 i2) (s1 : St1 k s.heap) (s2 : St2 k s.heap) (h1 : k < n1) (h2 : k < n2)
    (hQ : ∀ T h' tk x y, s.heap.objs.size ≤ T → P1 k x → P2 k y → IsPair h' T x y → ZipSt h' z TI TO i1 i2 → St1 (k + 1) h' → St2 (k + 1) h' → (∀ c o, c ≠ z → c ≠ TO → c ≠ i1 → c ≠ i2 → s.heap.get? c = some o → h'.get? c = some o) → Q (.ref T) { s with heap := h', toks := tk }) :
    wpAny (model prog w) A (Builtin.«zip.__next__» ⟨[.ref z], []⟩) (fun fin s' => ∃ v, fin = .done (.ret v) ∧ Q v s') E s := by
  obtain ⟨⟨f0, f1, hzo, hf⟩, hTI, ⟨a, b, hTO⟩⟩ := id hz
  have i1z : i1 ≠ z := fun e => D.z1 (e ▸ W1.here)
  have i2z : i2 ≠ z := fun e => D.z2 (e ▸ W2.here)
  have TOi1 : TO ≠ i1 := fun e => D.TO1 (e ▸ W1.here)
  have TOi2 : TO ≠ i2 := fun e => D.TO2 (e ▸ W2.here)
  have ni12 : i1 ≠ i2 := fun e => D.i12 (e ▸ W2.here)
  show wpAny _ _ (field (.ref z) 2 >>= _) _ _ _
  refine wpAny_bind (wpAny_field hzo rfl (x := .bool false) rfl ?_)
  show wpAny _ _ (field (.ref z) 3 >>= _) _ _ _
  refine wpAny_bind (wpAny_field hzo rfl (x := .ref TI) rfl ?_)
  refine wpAny_bind (wpAny_seqItems hTI rfl ?_)
  show wpAny _ _ (Builtin.SmallTypes.ownedTupleIsFree (.ref z) >>= _) _ _ _
  refine wpAny_bind ?_
  unfold Builtin.SmallTypes.ownedTupleIsFree
  rcases hf with rfl | ⟨T, oT, rfl, hT⟩
  · refine wpAny_bind (wpAny_field hzo rfl (x := .none) rfl (wpAny_pure ?_))
    simp only [if_true]
    refine wpAny_bind (wpAny_rule ?_)
    refine wpAny_bind (wpAny_field hzo rfl (x := .ref TO) rfl ?_)
    refine wpAny_bind (wpAny_setField_rec hzo (by simp) fun h₁ hz₁ hs₁ => ?_)
    refine wpAny_bind ?_
    simp only [List.zipIdx_cons, List.zipIdx_nil, List.forIn_cons, List.forIn_nil]
    refine wpAny_bind (wpAny_bind (wpAny_onRaise ?_))
    show wpAny _ _ (Builtin.SmallTypes.nextOf (.ref i1) >>= _) _ _ _
    have k1 : ∀ c o, c ≠ z → s.heap.get? c = some o → h₁.get? c = some o := fun c o hc e => hs₁.extBut _ _ hc e
    refine wpAny_bind (W1.item _ _ k _ _ h1 (W1.frame _ _ _ s1 fun c hc o e => k1 c o (fun q => D.z1 (q ▸ hc)) e) fun x h₂ tk₂ px st1 hs₂ => wpAny_pure ?_)
    have k2 : ∀ c o, c ≠ z → c ≠ i1 → s.heap.get? c = some o → h₂.get? c = some o := fun c o hc hc' e => hs₂.extBut _ _ hc' (k1 c o hc e)
    have hTO₂ : IsPair h₂ TO a b := k2 _ _ D.TOz TOi1 hTO
    refine wpAny_bind (wpAny_seqItems hTO₂ rfl ?_)
    refine wpAny_bind (wpAny_updateSeq_pair hTO₂ fun h₃ hTO₃ hs₃ => ?_)
    replace hTO₃ : IsPair h₃ TO x b := hTO₃
    refine wpAny_bind (wpAny_letGo (wpAny_pure ?_))
    refine wpAny_bind (wpAny_bind (wpAny_onRaise ?_))
    show wpAny _ _ (Builtin.SmallTypes.nextOf (.ref i2) >>= _) _ _ _
    have k3 : ∀ c o, c ≠ z → c ≠ i1 → c ≠ TO → s.heap.get? c = some o → h₃.get? c = some o := fun c o hc hc' hc'' e => hs₃.extBut _ _ hc'' (k2 c o hc hc' e)
    refine wpAny_bind (W2.item _ _ k _ _ h2 (W2.frame _ _ _ s2 fun c hc o e => k3 c o (fun q => D.z2 (q ▸ hc)) (fun q => D.i12 (q ▸ hc)) (fun q => D.TO2 (q ▸ hc)) e) fun y h₄ tk₄ py st2 hs₄ => wpAny_pure ?_)
    have hTO₄ : IsPair h₄ TO x b := hs₄.extBut _ _ TOi2 hTO₃
    refine wpAny_bind (wpAny_seqItems hTO₄ rfl ?_)
    refine wpAny_bind (wpAny_updateSeq_pair hTO₄ fun h₅ hTO₅ hs₅ => ?_)
    replace hTO₅ : IsPair h₅ TO x y := hTO₅
    refine wpAny_bind (wpAny_letGo (wpAny_pure (wpAny_pure ?_)))
    refine wpAny_bind (wpAny_seqItems hTO₅ rfl ?_)
    refine wpAny_bind (wpAny_newTuple ?_)
    have hz₅ : h₅.get? z = _ := hs₅.extBut _ _ D.TOz.symm (hs₄.extBut _ _ i2z.symm (hs₃.extBut _ _ D.TOz.symm (hs₂.extBut _ _ i1z.symm hz₁)))
    show wpAny _ _ (Builtin.SmallTypes.ownedTupleHandOut (.ref z) (.ref h₅.objs.size) >>= _) _ _ _
    refine wpAny_bind ?_
    unfold Builtin.SmallTypes.ownedTupleHandOut
    have hzlt : z < h₅.objs.size := Heap.lt_size hz₅
    have hTOlt : TO < h₅.objs.size := Heap.lt_size hTO₅
    refine wpAny_bind (wpAny_setField_rec (Heap.get?_push_of_some _ hz₅) (by simp) fun h₇ hz₇ hs₇ => ?_)
    refine wpAny_setField_rec hz₇ (by simp) fun h₈ hz₈ hs₈ => ?_
    have up : ∀ c o, c ≠ z → h₅.get? c = some o → h₈.get? c = some o := fun c o c1 e => hs₈.extBut _ _ c1 (hs₇.extBut _ _ c1 (Heap.get?_push_of_some _ e))
    have hT₈ : IsPair h₈ h₅.objs.size x y := hs₈.extBut _ _ (Nat.ne_of_gt hzlt) (hs₇.extBut _ _ (Nat.ne_of_gt hzlt) (Heap.get?_push_size _ rfl))
    have hsz : h₅.objs.size = s.heap.objs.size := by rw [hs₅.1, hs₄.1, hs₃.1, hs₂.1, hs₁.1]
    refine wpAny_pure ⟨_, rfl, ?_⟩
    have k5 : ∀ c o, c ≠ z → c ≠ TO → c ≠ i1 → c ≠ i2 → s.heap.get? c = some o → h₈.get? c = some o := fun c o c1 c2 c3 c4 e =>
      up c o c1 (hs₅.extBut _ _ c2 (hs₄.extBut _ _ c4 (k3 c o c1 c3 c2 e)))
    refine hQ h₅.objs.size h₈ _ x y (Nat.le_of_eq hsz.symm) px py hT₈ ⟨⟨rawInt h₅.objs.size, .bool false, hz₈, .inr ⟨_, _, rfl, hT₈⟩⟩, k5 _ _ D.TIz D.TITO D.TIi1 D.TIi2 hTI, ⟨x, y, up _ _ D.TOz hTO₅⟩⟩ ?_ ?_ k5
    · exact W1.frame _ _ _ st1 fun c hc o e => up c o (fun q => D.z1 (q ▸ hc)) (hs₅.extBut _ _ (fun q => D.TO1 (q ▸ hc)) (hs₄.extBut _ _ (fun q => D.i21 (q ▸ hc)) (hs₃.extBut _ _ (fun q => D.TO1 (q ▸ hc)) e)))
    · exact W2.frame _ _ _ st2 fun c hc o e => up c o (fun q => D.z2 (q ▸ hc)) (hs₅.extBut _ _ (fun q => D.TO2 (q ▸ hc)) e)
  · refine wpAny_bind (wpAny_field hzo rfl (x := rawInt T) rfl ?_)
    show wpAny _ _ (loadIfAlive T >>= _) _ _ _
    refine wpAny_bind (loadAlive ?_)
    rw [hT]
    simp only [Option.isNone_some, Bool.false_eq_true, if_false]
    refine wpAny_mono (Q := fun a s' => a = false ∧ ∃ h₁ f1', s' = { s with heap := h₁ } ∧ h₁.get? z = some { cls := .type "zip", dict := none, data := .fields #[rawInt T, f1', .bool false, .ref TI, .ref TO], slots := #[] } ∧ Heap.SameBut z s.heap h₁) ?_ (fun a' s' ha => ?_) fun _ _ e => e
    · refine wpAny_bind (wpAny_field hzo rfl (x := f1) rfl ?_)
      split
      · exact wpAny_bind (wpAny_setField_rec hzo (by simp) fun h₁ hz₁ hs₁ => wpAny_pure ⟨rfl, h₁, _, rfl, hz₁, hs₁⟩)
      · exact wpAny_pure ⟨rfl, s.heap, f1, rfl, hzo, Heap.SameBut.refl _ _⟩
    · obtain ⟨rfl, h₁, f1', rfl, hz₁, hs₁⟩ := ha
      simp only [Bool.false_eq_true, if_false]
      refine wpAny_bind ?_
      simp only [List.forIn_toArray, List.forIn_cons, List.forIn_nil]
      have k1 : ∀ c o, c ≠ z → s.heap.get? c = some o → h₁.get? c = some o := fun c o hc e => hs₁.extBut _ _ hc e
      refine wpAny_bind (wpAny_bind (wpAny_holding ?_))
      show wpAny _ _ (Builtin.SmallTypes.nextOf (.ref i1) >>= _) _ _ _
      refine wpAny_bind (W1.item _ _ k _ _ h1 (W1.frame _ _ _ s1 fun c hc o e => k1 c o (fun q => D.z1 (q ▸ hc)) e) fun x h₂ tk₂ px st1 hs₂ => wpAny_pure ?_)
      have k2 : ∀ c o, c ≠ z → c ≠ i1 → s.heap.get? c = some o → h₂.get? c = some o := fun c o hc hc' e => hs₂.extBut _ _ hc' (k1 c o hc e)
      refine wpAny_pure ?_
      refine wpAny_bind (wpAny_bind (wpAny_holding ?_))
      show wpAny _ _ (Builtin.SmallTypes.nextOf (.ref i2) >>= _) _ _ _
      refine wpAny_bind (W2.item _ _ k _ _ h2 (W2.frame _ _ _ s2 fun c hc o e => k2 c o (fun q => D.z2 (q ▸ hc)) (fun q => D.i12 (q ▸ hc)) e) fun y h₄ tk₄ py st2 hs₄ => wpAny_pure ?_)
      have k4 : ∀ c o, c ≠ z → c ≠ i1 → c ≠ i2 → s.heap.get? c = some o → h₄.get? c = some o := fun c o hc hc' hc'' e => hs₄.extBut _ _ hc'' (k2 c o hc hc' e)
      refine wpAny_pure (wpAny_pure ?_)
      refine wpAny_bind (wpAny_newTuple (hsz := by show 2 ≤ sizeLine; rw [sizeLine_eq]; decide) ?_)
      have hz₄ : h₄.get? z = _ := hs₄.extBut _ _ i2z.symm (hs₂.extBut _ _ i1z.symm hz₁)
      have up : ∀ c o, h₄.get? c = some o → (h₄.push { cls := .type "tuple", data := .seq #[x, y] }).get? c = some o := fun c o e => Heap.get?_push_of_some _ e
      have hsz : h₄.objs.size = s.heap.objs.size := by rw [hs₄.1, hs₂.1, hs₁.1]
      have hT₄ : ∃ o, h₄.get? T = some o := by
        have e1 : ∃ o, h₁.get? T = some o := by
          by_cases q : T = z
          · rw [q]; exact ⟨_, hz₁⟩
          · exact ⟨_, k1 _ _ q hT⟩
        obtain ⟨o1, e1⟩ := e1
        have e2 : ∃ o, h₂.get? T = some o := by
          by_cases q : T = i1
          · obtain ⟨o, ho⟩ := W1.live _ _ st1 i1 W1.here
            exact ⟨o, q ▸ ho⟩
          · exact ⟨_, hs₂.extBut _ _ q e1⟩
        obtain ⟨o2, e2⟩ := e2
        by_cases q : T = i2
        · obtain ⟨o, ho⟩ := W2.live _ _ st2 i2 W2.here
          exact ⟨o, q ▸ ho⟩
        · exact ⟨_, hs₄.extBut _ _ q e2⟩
      obtain ⟨oT4, hT₄⟩ := hT₄
      refine wpAny_pure ⟨_, rfl, ?_⟩
      refine hQ h₄.objs.size (h₄.push { cls := .type "tuple", data := .seq #[x, y] }) _ x y (Nat.le_of_eq hsz.symm) px py (Heap.get?_push_size _ rfl) ⟨⟨_, f1', up _ _ hz₄, .inr ⟨_, _, rfl, up _ _ hT₄⟩⟩, up _ _ (k4 _ _ D.TIz D.TIi1 D.TIi2 hTI), ⟨a, b, up _ _ (k4 _ _ D.TOz TOi1 TOi2 hTO)⟩⟩ ?_ ?_ fun c o c1 _ c3 c4 e => up _ _ (k4 c o c1 c3 c4 e)
      · exact W1.frame _ _ _ st1 fun c hc o e => up c o (hs₄.extBut _ _ (fun q => D.i21 (q ▸ hc)) e)
      · exact W2.frame _ _ _ st2 fun c hc o e => up c o e
theorem zip_end {z TI TO i1 i2 : Addr} {fp1 fp2 : List Addr} {n1 n2 k : Nat} {P1 P2 : Nat → Value → Prop} {St1 St2 : Nat → Heap → Prop} {Q : Fin → Shared → Prop} (hh : A.handled = none)
    (W1 : Nx prog w i1 fp1 n1 P1 St1) (W2 : Nx prog w i2 fp2 n2 P2 St2) (D : ZipAp z TI TO i1 i2 fp1 fp2) (hz : ZipSt s.heap z TI TO i1 i2) (s1 : St1 k s.heap) (s2 : St2 k s.heap) (hk : k = min n1 n2)
    (hE : ∀ h' e tk, (∀ c o, c ≠ z → c ≠ TO → c ≠ i1 → c ≠ i2 → s.heap.get? c = some o → h'.get? c = some o) → (∃ o, h'.get? e = some o ∧ o.cls = .type "StopIteration") → E (.ref e) { s with heap := h', toks := tk }) :
    wpAny (model prog w) A (Builtin.«zip.__next__» ⟨[.ref z], []⟩) Q E s := by
  obtain ⟨⟨f0, f1, hzo, hf⟩, hTI, ⟨a, b, hTO⟩⟩ := id hz
  have i1z : i1 ≠ z := fun e => D.z1 (e ▸ W1.here)
  have i2z : i2 ≠ z := fun e => D.z2 (e ▸ W2.here)
  have TOi1 : TO ≠ i1 := fun e => D.TO1 (e ▸ W1.here)
  have TOi2 : TO ≠ i2 := fun e => D.TO2 (e ▸ W2.here)
  show wpAny _ _ (field (.ref z) 2 >>= _) _ _ _
  refine wpAny_bind (wpAny_field hzo rfl (x := .bool false) rfl ?_)
  show wpAny _ _ (field (.ref z) 3 >>= _) _ _ _
  refine wpAny_bind (wpAny_field hzo rfl (x := .ref TI) rfl ?_)
  refine wpAny_bind (wpAny_seqItems hTI rfl ?_)
  show wpAny _ _ (Builtin.SmallTypes.ownedTupleIsFree (.ref z) >>= _) _ _ _
  refine wpAny_bind ?_
  unfold Builtin.SmallTypes.ownedTupleIsFree
  rcases hf with rfl | ⟨T, oT, rfl, hT⟩
  · refine wpAny_bind (wpAny_field hzo rfl (x := .none) rfl (wpAny_pure ?_))
    simp only [if_true]
    refine wpAny_bind (wpAny_rule ?_)
    refine wpAny_bind (wpAny_field hzo rfl (x := .ref TO) rfl ?_)
    refine wpAny_bind (wpAny_setField_rec hzo (by simp) fun h₁ hz₁ hs₁ => ?_)
    refine wpAny_bind ?_
    simp only [List.zipIdx_cons, List.zipIdx_nil, List.forIn_cons, List.forIn_nil]
    refine wpAny_bind (wpAny_bind (wpAny_onRaise ?_))
    show wpAny _ _ (Builtin.SmallTypes.nextOf (.ref i1) >>= _) _ _ _
    have k1 : ∀ c o, c ≠ z → s.heap.get? c = some o → h₁.get? c = some o := fun c o hc e => hs₁.extBut _ _ hc e
    have s1' : St1 k h₁ := W1.frame _ _ _ s1 fun c hc o e => k1 c o (fun q => D.z1 (q ▸ hc)) e
    by_cases q : n1 ≤ n2
    · have : k = n1 := by omega
      subst this
      refine wpAny_bind (W1.done _ _ _ _ hh s1' fun h₂ e hs₂ he => ?_)
      obtain ⟨oe, hoe, hce⟩ := he
      have hz₂ : h₂.get? z = _ := hs₂ _ _ i1z.symm hz₁
      have hez : e ≠ z := fun x => by subst x; rw [hz₂] at hoe; cases hoe; simp at hce
      refine wpAny_setField_rec hz₂ (by simp) fun h₃ _ hs₃ => hE h₃ e s.toks (fun c o c1 _ c3 _ x => hs₃.extBut _ _ c1 (hs₂ _ _ c3 (k1 c o c1 x))) ⟨oe, hs₃.extBut _ _ hez hoe, hce⟩
    · have : k = n2 := by omega
      subst this
      refine wpAny_bind (W1.item _ _ k _ _ (by omega) s1' fun x h₂ tk₂ px st1 hs₂ => wpAny_pure ?_)
      have k2 : ∀ c o, c ≠ z → c ≠ i1 → s.heap.get? c = some o → h₂.get? c = some o := fun c o hc hc' e => hs₂.extBut _ _ hc' (k1 c o hc e)
      have hTO₂ : IsPair h₂ TO a b := k2 _ _ D.TOz TOi1 hTO
      refine wpAny_bind (wpAny_seqItems hTO₂ rfl ?_)
      refine wpAny_bind (wpAny_updateSeq_pair hTO₂ fun h₃ hTO₃ hs₃ => ?_)
      refine wpAny_bind (wpAny_letGo (wpAny_pure ?_))
      refine wpAny_bind (wpAny_bind (wpAny_onRaise ?_))
      show wpAny _ _ (Builtin.SmallTypes.nextOf (.ref i2) >>= _) _ _ _
      have k3 : ∀ c o, c ≠ z → c ≠ i1 → c ≠ TO → s.heap.get? c = some o → h₃.get? c = some o := fun c o hc hc' hc'' e => hs₃.extBut _ _ hc'' (k2 c o hc hc' e)
      refine wpAny_bind (W2.done _ _ _ _ hh (W2.frame _ _ _ s2 fun c hc o e => k3 c o (fun q => D.z2 (q ▸ hc)) (fun q => D.i12 (q ▸ hc)) (fun q => D.TO2 (q ▸ hc)) e) fun h₄ e hs₄ he => ?_)
      obtain ⟨oe, hoe, hce⟩ := he
      have hz₄ : h₄.get? z = _ := hs₄ _ _ i2z.symm (hs₃.extBut _ _ D.TOz.symm (hs₂.extBut _ _ i1z.symm hz₁))
      have hez : e ≠ z := fun x => by subst x; rw [hz₄] at hoe; cases hoe; simp at hce
      refine wpAny_setField_rec hz₄ (by simp) fun h₅ _ hs₅ => hE h₅ e tk₂ (fun c o c1 c2 c3 c4 x => hs₅.extBut _ _ c1 (hs₄ _ _ c4 (k3 c o c1 c3 c2 x))) ⟨oe, hs₅.extBut _ _ hez hoe, hce⟩
  · refine wpAny_bind (wpAny_field hzo rfl (x := rawInt T) rfl ?_)
    show wpAny _ _ (loadIfAlive T >>= _) _ _ _
    refine wpAny_bind (loadAlive ?_)
    rw [hT]
    simp only [Option.isNone_some, Bool.false_eq_true, if_false]
    refine wpAny_mono (Q := fun a s' => a = false ∧ ∃ h₁ f1', s' = { s with heap := h₁ } ∧ h₁.get? z = some { cls := .type "zip", dict := none, data := .fields #[rawInt T, f1', .bool false, .ref TI, .ref TO], slots := #[] } ∧ Heap.SameBut z s.heap h₁) ?_ (fun a' s' ha => ?_) fun _ _ e => e
    · refine wpAny_bind (wpAny_field hzo rfl (x := f1) rfl ?_)
      split
      · exact wpAny_bind (wpAny_setField_rec hzo (by simp) fun h₁ hz₁ hs₁ => wpAny_pure ⟨rfl, h₁, _, rfl, hz₁, hs₁⟩)
      · exact wpAny_pure ⟨rfl, s.heap, f1, rfl, hzo, Heap.SameBut.refl _ _⟩
    · obtain ⟨rfl, h₁, f1', rfl, hz₁, hs₁⟩ := ha
      simp only [Bool.false_eq_true, if_false]
      refine wpAny_bind ?_
      simp only [List.forIn_toArray, List.forIn_cons, List.forIn_nil]
      have k1 : ∀ c o, c ≠ z → s.heap.get? c = some o → h₁.get? c = some o := fun c o hc e => hs₁.extBut _ _ hc e
      have s1' : St1 k h₁ := W1.frame _ _ _ s1 fun c hc o e => k1 c o (fun q => D.z1 (q ▸ hc)) e
      refine wpAny_bind (wpAny_bind (wpAny_holding ?_))
      show wpAny _ _ (Builtin.SmallTypes.nextOf (.ref i1) >>= _) _ _ _
      by_cases q : n1 ≤ n2
      · have : k = n1 := by omega
        subst this
        exact wpAny_bind (W1.done _ _ _ _ hh s1' fun h₂ e hs₂ he => hE h₂ e s.toks (fun c o c1 _ c3 _ x => hs₂ _ _ c3 (k1 c o c1 x)) he)
      · have : k = n2 := by omega
        subst this
        refine wpAny_bind (W1.item _ _ k _ _ (by omega) s1' fun x h₂ tk₂ px st1 hs₂ => wpAny_pure ?_)
        have k2 : ∀ c o, c ≠ z → c ≠ i1 → s.heap.get? c = some o → h₂.get? c = some o := fun c o hc hc' e => hs₂.extBut _ _ hc' (k1 c o hc e)
        refine wpAny_pure ?_
        refine wpAny_bind (wpAny_bind (wpAny_holding ?_))
        show wpAny _ _ (Builtin.SmallTypes.nextOf (.ref i2) >>= _) _ _ _
        exact wpAny_bind (W2.done _ _ _ _ hh (W2.frame _ _ _ s2 fun c hc o e => k2 c o (fun q => D.z2 (q ▸ hc)) (fun q => D.i12 (q ▸ hc)) e) fun h₄ e hs₄ he => hE h₄ e tk₂ (fun c o c1 _ c3 c4 x => hs₄ _ _ c4 (k2 c o c1 c3 x)) he)

theorem zip_pyNext_item {z TI TO i1 i2 : Addr} {fp1 fp2 : List Addr} {n1 n2 k : Nat} {P1 P2 : Nat → Value → Prop} {St1 St2 : Nat → Heap → Prop} {Q : Option Value → Shared → Prop}
    (W1 : Nx prog w i1 fp1 n1 P1 St1) (W2 : Nx prog w i2 fp2 n2 P2 St2) (D : ZipAp z TI TO i1 i2 fp1 fp2) (hz : ZipSt s.heap z TI TO i1 i2) (s1 : St1 k s.heap) (s2 : St2 k s.heap) (h1 : k < n1) (h2 : k < n2)
    (hQ : ∀ T h' tk x y, s.heap.objs.size ≤ T → P1 k x → P2 k y → IsPair h' T x y → ZipSt h' z TI TO i1 i2 → St1 (k + 1) h' → St2 (k + 1) h' → (∀ c o, c ≠ z → c ≠ TO → c ≠ i1 → c ≠ i2 → s.heap.get? c = some o → h'.get? c = some o) → Q (some (.ref T)) { s with heap := h', toks := tk }) :
    wpAny (model prog w) A (pyNext (.ref z)) Q E s := by
  obtain ⟨⟨f0, f1, hzo, hf⟩, _⟩ := id hz
  have hT : s.TypeIs (.ref z) "zip" := ⟨_, hzo, rfl⟩
  unfold pyNext
  exact wpAny_bind (wpAny_attempt (wpAny_callSpecial?_slot (name := Str.ofString "__next__") hT F.slot_zip_next
    (wpAny_call_entry F.slot_zip_next hT F.entry_zip_next
      (zip_item W1 W2 D hz s1 s2 h1 h2 fun T h' tk x y a1 a2 a3 a4 a5 a6 a7 a8 => wpAny_pure (hQ T h' tk x y a1 a2 a3 a4 a5 a6 a7 a8)) (F.args_zip_next_1 _))))

theorem zip_pyNext_end {z TI TO i1 i2 : Addr} {fp1 fp2 : List Addr} {n1 n2 k : Nat} {P1 P2 : Nat → Value → Prop} {St1 St2 : Nat → Heap → Prop} {Q : Option Value → Shared → Prop} (hh : A.handled = none)
    (W1 : Nx prog w i1 fp1 n1 P1 St1) (W2 : Nx prog w i2 fp2 n2 P2 St2) (D : ZipAp z TI TO i1 i2 fp1 fp2) (hz : ZipSt s.heap z TI TO i1 i2) (s1 : St1 k s.heap) (s2 : St2 k s.heap) (hk : k = min n1 n2)
    (hQ : ∀ h' tk, (∀ c o, c ≠ z → c ≠ TO → c ≠ i1 → c ≠ i2 → s.heap.get? c = some o → h'.get? c = some o) → Q none { s with heap := h', toks := tk }) :
    wpAny (model prog w) A (pyNext (.ref z)) Q E s := by
  obtain ⟨⟨f0, f1, hzo, hf⟩, _⟩ := id hz
  have hT : s.TypeIs (.ref z) "zip" := ⟨_, hzo, rfl⟩
  unfold pyNext
  refine wpAny_bind (wpAny_attempt (wpAny_callSpecial?_slot (name := Str.ofString "__next__") hT F.slot_zip_next
    (wpAny_call_entry F.slot_zip_next hT F.entry_zip_next (zip_end hh W1 W2 D hz s1 s2 hk fun h' e tk hk he => ?_) (F.args_zip_next_1 _))))
  obtain ⟨o, ho, hc⟩ := he
  refine wpAny_bind (wpAny_isInstance (T := "StopIteration") (b := true) ⟨o, ho, hc⟩ isSubtype_stop ?_)
  exact wpAny_pure (hQ _ _ hk)
end
end Mine
end
section
set_option maxRecDepth 100000
namespace Mine
open PySem PySem.W PySem.Calls PyProof.Rows PySem.Spec PyProof.V

abbrev riObj (a b : Int) : Obj := { cls := .type "range_iterator", data := .fields #[rawInt a, rawInt (Builtin.Range.rangeSize a b 1), rawInt 1] }
abbrev zrH1 (h : Heap) (a b : Int) : Heap := h.push (riObj a b)
abbrev zrH2 (h : Heap) (a b : Int) (l2 : Addr) : Heap := (zrH1 h a b).push { cls := .type "list_iterator", data := .fields #[.ref l2, .int 0 0] }
abbrev zrH3 (h : Heap) (a b : Int) (l2 : Addr) : Heap := (zrH2 h a b l2).push { cls := .type "tuple", data := .seq #[.ref h.objs.size, .ref (zrH1 h a b).objs.size] }
abbrev zrH4 (h : Heap) (a b : Int) (l2 : Addr) : Heap := (zrH3 h a b l2).push { cls := .type "tuple", data := .seq #[.none, .none] }
abbrev zrH5 (h : Heap) (a b : Int) (l2 : Addr) : Heap := (zrH4 h a b l2).push { cls := .type "zip", data := .fields #[.none, .bool false, .bool false, .ref (zrH2 h a b l2).objs.size, .ref (zrH3 h a b l2).objs.size] }

theorem meets_zip_rl (r l2 : Addr) (a b : Int) (t u v : Tok) (ys : Array Value) (hsmall : Builtin.Range.small a b 1 = true) :
    Meets (Builtin.«zip.__new__» ⟨[.type "zip", .ref r, .ref l2], []⟩) (fun _ R s => IsRange s.heap r a b 1 t u v ∧ s.heap.IsList l2 ys ∧
      R (.ok (.ret (.ref (zrH4 s.heap a b l2).objs.size))) { s with heap := zrH5 s.heap a b l2 }) :=
  .of_wp fun prog w A R s h => by
    obtain ⟨hp, g, d, tk, os⟩ := s; obtain ⟨hl1, hl2, h⟩ := h
    have hsub := sub_zip
    have hL1 : IsRange (Shared.heap ⟨hp, g, d, tk, os⟩) r a b 1 t u v := hl1
    have hL2 : Heap.IsList (Shared.heap ⟨hp.push (riObj a b), g, d, tk, os⟩) l2 ys := Heap.IsList.push hl2 _
    wp_walk using wpAny_pyIter_range hL1 hsmall, wpAny_pyIter_list hL2
    exact ⟨_, rfl, h⟩

section
variable {prog : Program} {w : World} {A : Around} {E : Value → Shared → Prop} {s : Shared}

theorem zipAp_at (σ l : Nat) (h : l < σ) : ZipAp (σ + 4) (σ + 2) (σ + 3) σ (σ + 1) [σ] [σ + 1, l] := by
  have k : ∀ {a b : Nat}, a ≠ b → @Ne Addr a b := fun h => h
  have m1 : ∀ {a b : Nat}, a ≠ b → (a : Addr) ∉ ([b] : List Addr) := fun h q => h (List.mem_singleton.mp q)
  have m2 : ∀ {a b c : Nat}, a ≠ b → a ≠ c → (a : Addr) ∉ ([b, c] : List Addr) := fun h h' q => by
    rcases List.mem_cons.mp q with q | q
    · exact h q
    · exact h' (List.mem_singleton.mp q)
  exact ⟨k (by omega), k (by omega), k (by omega), k (by omega), k (by omega), m1 (by omega), m2 (by omega) (by omega), m1 (by omega), m2 (by omega) (by omega), m2 (by omega) (by omega), m1 (by omega)⟩

/-- a zip of a range and a list, not yet asked -/
structure ZipRL (h : Heap) (σ : Nat) (z : Addr) (a : Int) (n : Nat) (l : Addr) (ys : Array Value) : Prop where
  here : ∃ TI TO i1 i2, ZipAp z TI TO i1 i2 [i1] [i2, l] ∧ l ≠ i2 ∧ ZipSt h z TI TO i1 i2 ∧ IsRangeIter h i1 (a + (0 : Nat)) ((n : Int) - (0 : Nat)) 1 ∧ h.IsListIter i2 l 0 ∧ h.IsList l ys ∧ ∀ c ∈ [z, TO, i1, i2], @LE.le Nat _ σ c

theorem call_zip_rl {r l : Addr} {a b : Int} {n : Nat} {t u v : Tok} {ys : Array Value} {Q : Value → Shared → Prop} (hr : IsRange s.heap r a b 1 t u v) (hl : s.heap.IsList l ys) (hsmall : Builtin.Range.small a b 1 = true) (hn : Builtin.Range.rangeSize a b 1 = (n : Int))
    (h : ∀ h', ZipRL h' s.heap.objs.size (s.heap.objs.size + 4) a n l ys → (∀ c o, s.heap.get? c = some o → h'.get? c = some o) → Q (.ref (s.heap.objs.size + 4)) { s with heap := h' }) :
    wpAny (model prog w) A (call (.type "zip") [.ref r, .ref l]) Q E s := by
  refine callType_new F.called_zip (by decide) (F.typeCall_zip_2 _ _) (F.newCall_zip_2 _ _) (fun obj => F.args_object_init_3 obj _ _) F.entry_zip_new
    (meets_zip_rl r l a b t u v ys hsmall) ⟨hr, hl, ?_⟩
  have z1 : (zrH1 s.heap a b).objs.size = s.heap.objs.size + 1 := Heap.size_push ..
  have z2 : (zrH2 s.heap a b l).objs.size = s.heap.objs.size + 2 := by rw [Heap.size_push, z1]
  have z3 : (zrH3 s.heap a b l).objs.size = s.heap.objs.size + 3 := by rw [Heap.size_push, z2]
  have z4 : (zrH4 s.heap a b l).objs.size = s.heap.objs.size + 4 := by rw [Heap.size_push, z3]
  have g5 : (zrH5 s.heap a b l).get? (zrH4 s.heap a b l).objs.size = some _ := Heap.get?_push_size _ rfl
  have g4 : (zrH5 s.heap a b l).get? (zrH3 s.heap a b l).objs.size = some _ := Heap.get?_push_of_some _ (Heap.get?_push_size _ rfl)
  have g3 : (zrH5 s.heap a b l).get? (zrH2 s.heap a b l).objs.size = some _ := Heap.get?_push_of_some _ (Heap.get?_push_of_some _ (Heap.get?_push_size _ rfl))
  have g2 : (zrH5 s.heap a b l).get? (zrH1 s.heap a b).objs.size = some _ := Heap.get?_push_of_some _ (Heap.get?_push_of_some _ (Heap.get?_push_of_some _ (Heap.get?_push_size _ rfl)))
  have g1 : (zrH5 s.heap a b l).get? s.heap.objs.size = some _ := Heap.get?_push_of_some _ (Heap.get?_push_of_some _ (Heap.get?_push_of_some _ (Heap.get?_push_of_some _ (Heap.get?_push_size _ rfl))))
  have up : ∀ c o, s.heap.get? c = some o → (zrH5 s.heap a b l).get? c = some o := fun c o x =>
    Heap.get?_push_of_some _ (Heap.get?_push_of_some _ (Heap.get?_push_of_some _ (Heap.get?_push_of_some _ (Heap.get?_push_of_some _ x))))
  obtain ⟨ol, hol, hc, nl, hd⟩ := id hl
  have ll : l < s.heap.objs.size := Heap.lt_size hol
  rw [z2, z3, z4] at g5
  rw [z1, z2] at g3
  rw [z3] at g4
  rw [z1] at g2
  rw [z4]
  refine ⟨⟨_, g5, rfl⟩, h _ ⟨⟨s.heap.objs.size + 2, s.heap.objs.size + 3, s.heap.objs.size, s.heap.objs.size + 1, ?_, ?_, ⟨⟨_, _, g5, .inl rfl⟩, g3, ⟨_, _, g4⟩⟩, ?_, ⟨_, g2, rfl, rfl⟩, ⟨ol, up _ _ hol, hc, nl, hd⟩, ?_⟩⟩ up⟩
  · exact zipAp_at _ _ ll
  · exact Nat.ne_of_lt (Nat.lt_succ_of_lt ll)
  · show (zrH5 s.heap a b l).get? s.heap.objs.size = _
    rw [g1]
    show some ({ cls := .type "range_iterator", data := .fields #[rawInt a, rawInt (Builtin.Range.rangeSize a b 1), rawInt 1] } : Obj) = _
    rw [hn]
    simp
  · intro c hc
    simp only [List.mem_cons, List.not_mem_nil, or_false] at hc
    rcases hc with rfl | rfl | rfl | rfl <;> simp
end
end Mine
end
section
set_option maxRecDepth 100000
namespace Mine
open PySem PySem.W PySem.Calls PyProof.Rows PySem.Spec PyProof.V
theorem entry_zip_ga : entryFor table "zip.__getattribute__" = some Builtin.«object.__getattribute__» :=
  entryFor_alias (id' := "object.__getattribute__") (by kernel_rfl) (by first | rfl | decide +kernel) (by decide +kernel) (by kernel_rfl)
theorem lk_zip_keys : typeLookup (.type "zip") "keys" = pure none := by rw [typeLookup_type, builtinLookup_eq_fast]; kernel_rfl
theorem lk_zip_getattr : typeLookup (.type "zip") "__getattr__" = pure none := by rw [typeLookup_type, builtinLookup_eq_fast]; kernel_rfl
theorem meets_zip_keys (a : Addr) (fs : Array Value) (u : Tok) :
    Meets (Builtin.«object.__getattribute__» ⟨[.ref a, .str "keys" u], []⟩) (fun A R s => s.heap.get? a = some { cls := .type "zip", dict := none, data := .fields fs, slots := #[] } ∧ raisesAttr (.ref a) "keys" A R s) :=
  Meets.of_wp fun prog w A R s hs => by
    obtain ⟨hp, g, d, tk, os⟩ := s
    obtain ⟨hx, hs⟩ := hs
    have hT : (⟨hp, g, d, tk, os⟩ : Shared).TypeIs (.ref a) "zip" := ⟨_, hx, rfl⟩
    have f4 := lk_zip_keys
    unfold Builtin.«object.__getattribute__»
    repeat (any_goals (first | assumption | wp_step))
    exact wpAny_raiseAttrError hs.1 hs.2
section
variable {prog : Program} {w : World} {A : Around} {E : Value → Shared → Prop} {s : Shared} {a : Addr} {fs : Array Value}
theorem zip_no_keys {Q : Option Value → Shared → Prop} (hx : s.heap.get? a = some { cls := .type "zip", dict := none, data := .fields fs, slots := #[] }) (hA : A.handled = none)
    (h : ∀ h' tk, (∀ b ob, s.heap.get? b = some ob → h'.get? b = some ob) → Q none { s with heap := h', toks := tk }) : wpAny (model prog w) A (getAttr? (.ref a) "keys") Q E s := by
  obtain ⟨hp, g, d, tk, os⟩ := s
  have hT : ∀ tk', (⟨hp, g, d, tk', os⟩ : Shared).TypeIs (.ref a) "zip" := fun _ => ⟨_, hx, rfl⟩
  have f1 := sub_AttributeError
  have f3 := F.slot_zip_getattribute.lookup
  have f4 := F.slot_zip_getattribute.bind (.ref a)
  have f5 := lk_zip_getattr
  unfold getAttr? getAttrBy? getAttrBy
  repeat (any_goals (first | assumption | exact hT _ | ((with_reducible show wpAny _ _ (call (Value.builtin "zip.__getattribute__") _ _) _ _ _); refine call_meets F.slot_zip_getattribute (hT _) entry_zip_ga (F.args_zip_getattribute_2 _ _) (meets_zip_keys a fs _) ⟨hx, by assumption, fun h' tk' e hx' => ?_⟩) | wp_step))
  obtain ⟨t', u', he⟩ := hx'.there
  show wpAny _ _ (getattributeRaised _ _ _ _ _ _ _) _ _ _
  unfold getattributeRaised
  repeat (any_goals (first | assumption | wp_step))
  exact h _ _ hx'.keeps
end
end Mine
end
section
set_option maxRecDepth 100000
namespace Mine
open PySem PySem.W PySem.Calls PyProof.Rows PySem.Spec PyProof.V
theorem plain_update_loop : plainId "dict.update.loop" = true := by decide +kernel
theorem entry_update_loop : entryFor table "dict.update.loop" = some Builtin.«dict.update.loop» := entryFor_of_fast (by kernel_rfl)
section
variable {prog : Program} {w : World} {A : Around} {E : Value → Shared → Prop} {s : Shared}

theorem dictSet_int {knd : KeyKind prog w Int} {d : Addr} {kvs : List (Int × Value)} {k : Int} {key v : Value} {Q : Unit → Shared → Prop} (hkey : knd.is k key = true) (hm : s.heap.DictOf knd d kvs) (hsz : kvs.length ≤ sizeLine)
    (hQ : ∀ h', h'.DictOf knd d (stored kvs k v) → Heap.SameBut d s.heap h' → Q () { s with heap := h', toks := s.toks + 1 }) :
    wpAny (model prog w) A (dictSet d key v) Q E s := by
  unfold dictSet
  try with_reducible refine wpAny_holding ?_
  refine wpAny_bind (knd.pyHash hkey ?_)
  exact wpAny_dictSetHashed_pairs (s := { s with toks := s.toks + 1 }) hkey hm hQ hsz

/-- a dict built from pairs -/
def fromPairs (kvs : List (Int × Value)) : List (Int × Value) → List (Int × Value)
  | [] => kvs
  | (k, v) :: r => fromPairs (stored kvs k v) r
theorem fromPairs_len : ∀ (l kvs : List (Int × Value)), (fromPairs kvs l).length ≤ kvs.length + l.length
  | [], kvs => by simp [fromPairs]
  | (k, v) :: r, kvs => by
    have := fromPairs_len r (stored kvs k v)
    have h2 := stored_length_le kvs k v
    simp only [fromPairs, List.length_cons]
    omega

theorem update_loop {d z TI TO i1 i2 : Addr} {fp1 fp2 : List Addr} {n1 n2 n : Nat} {St1 St2 : Nat → Heap → Prop} {ks : Nat → Int} {R : Result → Shared → Prop} {knd : KeyKind prog w Int}
    (W1 : Nx prog w i1 fp1 n1 (fun k v => knd.is (ks k) v = true) St1) {vs : Nat → Value} (W2 : Nx prog w i2 fp2 n2 (fun k v => v = vs k) St2) (D : ZipAp z TI TO i1 i2 fp1 fp2) (hn : n = min n1 n2)
    (dz : d ≠ z) (dTI : d ≠ TI) (dTO : d ≠ TO) (d1 : d ∉ fp1) (d2 : d ∉ fp2) :
    ∀ (j k : Nat) (s : Shared) (kvs : List (Int × Value)) (ti : Tok), n - k = j → k ≤ n → A.handled = none → ZipSt s.heap z TI TO i1 i2 → St1 k s.heap → St2 k s.heap → s.heap.DictOf knd d kvs → kvs.length + j ≤ sizeLine →
      (∀ h' tk kvs', h'.DictOf knd d kvs' → kvs' = fromPairs kvs ((List.range' k j).map fun k => (ks k, vs k)) → (∀ c o, c ≠ d → c ≠ z → c ≠ TO → c ≠ i1 → c ≠ i2 → s.heap.get? c = some o → h'.get? c = some o) → R (.ok (.ret .none)) { s with heap := h', toks := tk }) →
      codeAny (model prog w) A (.builtin "dict.update.loop" ⟨[.ref d, .ref z, .int k ti, .none], []⟩) R s := by
  intro j
  induction j with
  | zero =>
    intro k s kvs ti hj hk hh hz s1 s2 hd hsz hR
    have hkn : k = n := by omega
    refine codeAny_builtin entry_update_loop ?_
    rw [Around.under_plainId plain_update_loop _]
    show wpAny _ A.in1 (pyNext (.ref z) >>= _) _ _ s
    refine wpAny_bind (zip_pyNext_end (A := A.in1) hh W1 W2 D hz s1 s2 (hkn.trans hn) fun h' tk hkp => ?_)
    show wpAny _ _ (Builtin.Dict.addKeywords d [] >>= _) _ _ _
    refine wpAny_bind (wpAny_pure (wpAny_pure ?_))
    refine hR h' tk kvs ?_ (by simp [fromPairs]) fun c o _ c1 c2 c3 c4 e => hkp c o c1 c2 c3 c4 e
    obtain ⟨o, es, ep, ho, r⟩ := hd
    exact ⟨o, es, ep, hkp d o dz dTO (fun q => d1 (q ▸ W1.here)) (fun q => d2 (q ▸ W2.here)) ho, r⟩
  | succ j ih =>
    intro k s kvs ti hj hk hh hz s1 s2 hd hsz hR
    have h1 : k < n1 := by omega
    have h2 : k < n2 := by omega
    refine codeAny_builtin entry_update_loop ?_
    rw [Around.under_plainId plain_update_loop _]
    show wpAny _ A.in1 (pyNext (.ref z) >>= _) _ _ s
    refine wpAny_bind (zip_pyNext_item (A := A.in1) W1 W2 D hz s1 s2 h1 h2 fun T h' tk x y hT px py hp hz' s1' s2' hkp => ?_)
    subst py
    show wpAny _ _ (holding [.ref T] _ >>= _) _ _ _
    refine wpAny_bind (wpAny_holding ?_)
    refine wpAny_bind (wpAny_tryCatch ?_)
    unfold Builtin.Dict.pairItems
    have hTt : ({ s with heap := h', toks := tk } : Shared).TypeIs (.ref T) "tuple" := ⟨_, hp, rfl⟩
    refine wpAny_bind (wpAny_typeOf hTt ?_)
    simp only [beq_self_eq_true, Bool.or_true, if_true]
    refine wpAny_bind (wpAny_seqItems hp rfl (wpAny_pure ?_))
    show wpAny _ _ (holding [x, vs k] (dictSet d x (vs k))) _ _ _
    have d1' : d ≠ i1 := fun q => d1 (q ▸ W1.here)
    have d2' : d ≠ i2 := fun q => d2 (q ▸ W2.here)
    have hd' : h'.DictOf knd d kvs := by
      obtain ⟨o, es, ep, ho, r⟩ := hd
      exact ⟨o, es, ep, hkp d o dz dTO d1' d2' ho, r⟩
    refine wpAny_holding (dictSet_int (s := { s with heap := h', toks := tk }) px hd' (by omega) fun h₂ hd₂ hs₂ => ?_)
    have up : ∀ c o, c ≠ d → h'.get? c = some o → h₂.get? c = some o := fun c o hc e => hs₂.extBut _ _ hc e
    have hz₂ : ZipSt h₂ z TI TO i1 i2 := by
      obtain ⟨⟨f0, f1, e1, e2⟩, e3, ⟨a, b, e4⟩⟩ := hz'
      refine ⟨⟨f0, f1, up _ _ dz.symm e1, ?_⟩, up _ _ dTI.symm e3, ⟨a, b, up _ _ dTO.symm e4⟩⟩
      rcases e2 with e2 | ⟨T', o', e5, e6⟩
      · exact .inl e2
      · by_cases q : T' = d
        · obtain ⟨od, es, ep, ho, r⟩ := hd₂
          exact .inr ⟨T', od, e5, q ▸ ho⟩
        · exact .inr ⟨T', o', e5, up _ _ q e6⟩
    refine wpAny_pure ⟨plainId_quiet plain_update_loop _, ?_⟩
    have e1 : ((k : Int) + 1) = ((k + 1 : Nat) : Int) := by push_cast; rfl
    show codeAny _ A (.builtin "dict.update.loop" ⟨[.ref d, .ref z, .int ((k : Int) + 1) 0, .none], []⟩) R _
    rw [e1]
    refine ih (k + 1) _ (stored kvs (ks k) (vs k)) 0 (by omega) (by omega) hh hz₂ (W1.frame _ _ _ s1' fun c hc o e => up c o (fun q => d1 (q ▸ hc)) e) (W2.frame _ _ _ s2' fun c hc o e => up c o (fun q => d2 (q ▸ hc)) e) hd₂ (by have := stored_length_le kvs (ks k) (vs k); omega) fun h₃ tk₃ kvs' hd₃ he hk₃ => ?_
    refine hR h₃ tk₃ kvs' hd₃ (by rw [he, List.range'_succ]; rfl) fun c o c0 c1 c2 c3 c4 e => hk₃ c o c0 c1 c2 c3 c4 (up c o c0 (hkp c o c1 c2 c3 c4 e))
theorem fromPairs_fresh : ∀ (l kvs : List (Int × Value)), ((kvs ++ l).map (·.1)).Nodup → fromPairs kvs l = kvs ++ l
  | [], kvs, _ => by simp [fromPairs]
  | (k, v) :: r, kvs, h => by
    have hk : k ∉ kvs.map (·.1) := fun q => by
      rw [List.map_append, List.nodup_append] at h
      exact h.2.2 k q k (by simp) rfl
    have e : stored kvs k v = kvs ++ [(k, v)] := stored_absent (valueAt_none_of_not_mem hk) v
    simp only [fromPairs]
    rw [e, fromPairs_fresh r (kvs ++ [(k, v)]) (by simpa using h)]
    simp

theorem rep_size (n : Nat) (v : Value) : ((List.replicate (n : Int).toNat #[v].toList).flatten.toArray).size = n := by simp
theorem rep_get (n : Nat) (v : Value) : ∀ k, k < n → ((List.replicate (n : Int).toNat #[v].toList).flatten.toArray)[k]? = some ((fun _ => v) k) := by
  intro k hk
  have e : (List.replicate (n : Int).toNat #[v].toList).flatten = List.replicate n v := by
    rw [Int.toNat_natCast]
    induction n with
    | zero => rfl
    | succ n ih => simp [List.replicate_succ]
  rw [e]
  simp [hk]

def rowsFrom (a : Int) (n : Nat) (vs : Nat → Value) : List (Int × Value) := (List.range n).map fun (k : Nat) => (a + (k : Int), vs k)
theorem rowsFrom_nodup (a : Int) (n : Nat) (vs : Nat → Value) : ((rowsFrom a n vs).map (·.1)).Nodup := by
  unfold rowsFrom
  rw [List.map_map]
  refine List.pairwise_map.mpr (List.Pairwise.imp (fun h q => h ?_) (List.nodup_range (n := n)))
  simp only [Function.comp_apply] at q
  omega
theorem rowsFrom_len (a : Int) (n : Nat) (vs : Nat → Value) : (rowsFrom a n vs).length = n := by simp [rowsFrom]
theorem rowsFrom_zero (n : Nat) (vs : Nat → Value) : rowsFrom 0 n vs = rows n vs := by simp [rowsFrom, rows]

/-- a zip of a range and a list, made in this frame, not yet asked -/
def ZipK (h₀ : Heap) (L : Addr) (h : Heap) (z : Addr) (a : Int) (n : Nat) (l : Addr) (ys : Array Value) (news : List (Addr × Obj)) : Prop :=
  ∃ TI TO i1 i2, ZipAp z TI TO i1 i2 [i1] [i2, l] ∧ l ≠ i2 ∧ ZipSt h z TI TO i1 i2 ∧ IsRangeIter h i1 (a + (0 : Nat)) ((n : Int) - (0 : Nat)) 1 ∧ h.IsListIter i2 l 0 ∧ h.IsList l ys ∧
    ∀ c ∈ [z, TO, i1, i2], c ≠ L ∧ h₀.get? c = none ∧ ∀ p ∈ news, p.1 ≠ c

section
variable {h₀ : Heap} {L : Addr} {m : Str → Option Value} {news : List (Addr × Obj)}
theorem zip_K {r l : Addr} {a b : Int} {n : Nat} {t u v : Tok} {ys : Array Value} {Q : Value → Shared → Prop} (F : Fr h₀ L s.heap m) (N : News h₀ L s.heap news) (hr : IsRange s.heap r a b 1 t u v) (hl : s.heap.IsList l ys)
    (hsmall : Builtin.Range.small a b 1 = true) (hn : Builtin.Range.rangeSize a b 1 = (n : Int))
    (k : ∀ z h', Fr h₀ L h' m → News h₀ L h' news → ZipK h₀ L h' z a n l ys news → Q (.ref z) { s with heap := h' }) :
    wpAny (model prog w) A (call (.type "zip") [.ref r, .ref l]) Q E s := by
  refine call_zip_rl hr hl hsmall hn fun h' Z hk => ?_
  obtain ⟨⟨TI, TO, i1, i2, z1, z2, z3, z4, z5, z6, z7⟩⟩ := Z
  refine k _ h' ?_ (fun p hp => ⟨hk _ _ (N p hp).1, (N p hp).2⟩) ⟨TI, TO, i1, i2, z1, z2, z3, z4, z5, z6, fun c hc => ?_⟩
  · exact ⟨F.ns.at' fun o e => hk _ _ e, fun b o e => hk _ _ (F.keep b o e), F.above⟩
  · have hle := z7 c hc
    have hL : L < s.heap.objs.size := F.ns.lt
    refine ⟨fun e => absurd hL (Nat.not_lt.mpr (e ▸ hle)), Heap.get?_none_of_le (Nat.le_trans (Nat.le_of_lt (Nat.lt_of_le_of_lt F.above F.ns.lt)) hle), fun p hp e => ?_⟩
    · have h1 : @LT.lt Nat _ p.1 s.heap.objs.size := Heap.lt_size (N p hp).1
      have : @Eq Nat p.1 c := e
      omega

theorem dict_zip_K {z l : Addr} {a : Int} {n : Nat} {ys : Array Value} {vs : Nat → Value} {Q : Value → Shared → Prop} (hA : A.handled = none) (Fm : Fr h₀ L s.heap m) (N : News h₀ L s.heap news) (hbig : sysModules < h₀.objs.size) (Z : ZipK h₀ L s.heap z a n l ys news)
    (hlen : ys.size = n) (hys : ∀ k, k < n → ys[k]? = some (vs k)) (hsz : n ≤ sizeLine)
    (k : ∀ h' tk o, Fr h₀ L h' m → News h₀ L h' ((s.heap.objs.size, o) :: news) → (∀ p ∈ news, p.1 < s.heap.objs.size) → (s.heap.objs.size == sysModules) = false → o.IsDictOf (PySem.intKind prog w) (rowsFrom a n vs) → Q (.ref s.heap.objs.size) { s with heap := h', toks := tk }) :
    wpAny (model prog w) A (call (.type "dict") [.ref z]) Q E s := by
  obtain ⟨TI, TO, i1, i2, z1, z2, z3, z4, z5, z6, z7⟩ := Z
  refine callType_codes (Q₁ := fun obj s₁ => obj = .ref s.heap.objs.size ∧ s₁ = { s with heap := s.heap.push { cls := .type "dict", data := .dict #[] } }) PySem.F.kt_called_dict (PySem.F.kt_typeCall_dict_1 _) PySem.F.entry_dict_init (kt_code_dict_new _ ⟨rfl, rfl⟩) ?_
  rintro obj s₁ ⟨rfl, rfl⟩
  have hnew : (s.heap.push { cls := .type "dict", data := .dict #[] }).DictOf (PySem.intKind prog w) s.heap.objs.size [] := Heap.DictOf.new s.heap
  refine ⟨hnew.typeIs, PySem.F.args_dict_init_2 _ _, ?_⟩
  unfold Builtin.«dict.__init__»
  refine wpAny_bind ?_
  unfold Builtin.Dict.selfAndRest
  refine wpAny_bind (wpAny_notOrdered_dict hnew.typeIs ?_)
  show wpAny _ _ (pure (s.heap.objs.size, [Value.ref z])) _ _ _
  refine wpAny_pure ?_
  show wpAny _ _ (Builtin.Dict.updateFrom "dict.__init__" s.heap.objs.size (.ref z) [] .none) _ _ _
  unfold Builtin.Dict.updateFrom
  obtain ⟨⟨f0, f1, hzo, hf⟩, hTI, ⟨ta, tb, hTO⟩⟩ := id z3
  have up0 : ∀ c o, s.heap.get? c = some o → (s.heap.push { cls := .type "dict", data := .dict #[] }).get? c = some o := fun c o e => Heap.get?_push_of_some _ e
  have hT : ({ s with heap := s.heap.push { cls := .type "dict", data := .dict #[] } } : Shared).TypeIs (.ref z) "zip" := ⟨_, up0 _ _ hzo, rfl⟩
  refine wpAny_bind (wpAny_typeOf hT ?_)
  rw [if_pos (by decide)]
  refine wpAny_bind (zip_no_keys (s := { s with heap := s.heap.push { cls := .type "dict", data := .dict #[] } }) (up0 _ _ hzo) hA fun h₂ tk₂ hk₂ => ?_)
  have up2 : ∀ c o, s.heap.get? c = some o → h₂.get? c = some o := fun c o e => hk₂ _ _ (up0 c o e)
  refine wpAny_bind (wpAny_rule ?_)
  have hT2 : ({ s with heap := h₂, toks := tk₂ } : Shared).TypeIs (.ref z) "zip" := ⟨_, up2 _ _ hzo, rfl⟩
  refine wpAny_bind (wpAny_pyIter_slot hT2 PySem.F.slot_zip_iter (wpAny_call_entry PySem.F.slot_zip_iter hT2 PySem.F.entry_zip_iter ?_ (PySem.F.args_zip_iter_1 _)))
  show wpAny _ _ (ret (.ref z)) _ _ _
  refine wpAny_pure ⟨_, rfl, "zip", _, hT2, PySem.F.slot_zip_next.lookup, ?_⟩
  have Dlt : ∀ c o, s.heap.get? c = some o → s.heap.objs.size ≠ c := fun c o e => Nat.ne_of_gt (Heap.lt_size e)
  have hz2 : ZipSt h₂ z TI TO i1 i2 := ⟨⟨f0, f1, up2 _ _ hzo, hf.imp id fun ⟨T, o, e1, e2⟩ => ⟨T, o, e1, up2 _ _ e2⟩⟩, up2 _ _ hTI, ⟨ta, tb, up2 _ _ hTO⟩⟩
  have W1 := Nx.range (prog := prog) (w := w) i1 a n
  have W2 := Nx.list (prog := prog) (w := w) i2 l z2 ys
  have W1' : Nx prog w i1 [i1] n (fun k v => (PySem.intKind prog w).is (a + (k : Nat)) v = true) (fun k h => IsRangeIter h i1 (a + (k : Nat)) ((n : Int) - (k : Nat)) 1) :=
    ⟨W1.here, W1.frame, W1.live, fun A E k s Q hk st hQ => W1.item A E k s Q hk st fun v h' tk ⟨t, e⟩ => hQ v h' tk (by rw [e]; exact intKind_is _ _ _ _), W1.done⟩
  have W2' : Nx prog w i2 [i2, l] n (fun k v => v = vs k) (fun k h => h.IsListIter i2 l k ∧ h.IsList l ys) :=
    ⟨W2.here, W2.frame, W2.live, fun A E k s Q hk st hQ => W2.item A E k s Q (hlen ▸ hk) st fun v h' tk e => hQ v h' tk (Option.some.inj (e.symm.trans (hys k hk))), fun A E s Q hh st => W2.done A E s Q hh (hlen ▸ st)⟩
  have hd2 : h₂.DictOf (PySem.intKind prog w) s.heap.objs.size [] := by
    obtain ⟨o, es, ep, ho, r⟩ := hnew
    exact ⟨o, es, ep, hk₂ _ _ ho, r⟩
  obtain ⟨ol, hol, _⟩ := id z6
  obtain ⟨oi2, hoi2, _⟩ := id z5
  refine wpAny_pure ⟨plainId_quiet plain_update_loop _, ?_⟩
  have e0 : (rawInt 0) = .int ((0 : Nat) : Int) 0 := rfl
  rw [e0]
  refine update_loop W1' W2' z1 (Nat.min_self n).symm (Dlt _ _ hzo) (Dlt _ _ hTI) (Dlt _ _ hTO) (fun q => Dlt _ _ z4 (List.mem_singleton.mp q)) (fun q => ?_) n 0 _ [] 0 (Nat.sub_zero n) (Nat.zero_le _) hA hz2 (up2 _ _ z4) ⟨z5.at fun o e => up2 _ _ e, z6.at fun o e => up2 _ _ e⟩ hd2 (by simpa using hsz) fun h' tk kvs' hd' he hk' => ?_
  · rcases List.mem_cons.mp q with q | q
    · exact Dlt _ _ hoi2 q
    · exact Dlt _ _ hol (List.mem_singleton.mp q)
  refine ⟨rfl, ?_⟩
  have ek : kvs' = rowsFrom a n vs := by
    have e1 : (List.range' 0 n).map (fun (k : Nat) => (a + (k : Int), vs k)) = rowsFrom a n vs := by unfold rowsFrom; rw [List.range_eq_range']
    rw [he, e1, fromPairs_fresh _ _ (by simpa using rowsFrom_nodup a n vs)]
    rfl
  subst ek
  obtain ⟨o', ho', hd''⟩ := Heap.dictOf_iff.mp hd'
  have keep : ∀ c o, c ∉ [z, TO, i1, i2] → s.heap.get? c = some o → h'.get? c = some o := fun c o hc e => by
    simp only [List.mem_cons, List.not_mem_nil, or_false, not_or] at hc
    exact hk' c o (Dlt _ _ e).symm hc.1 hc.2.1 hc.2.2.1 hc.2.2.2 (up2 _ _ e)
  refine k h' tk o' ⟨Fm.ns.at' fun o e => keep _ o (fun q => (z7 _ q).1 rfl) e, fun b o e => keep b o (fun q => by have := (z7 _ q).2.1; rw [e] at this; cases this) (Fm.keep b o e), Fm.above⟩ (fun p hp => ?_) (fun p hp => Heap.lt_size (N p hp).1) (Fm.notModules hbig) hd''
  rcases List.mem_cons.mp hp with rfl | hp
  · exact ⟨ho', Nat.ne_of_gt Fm.ns.lt, next_is_new Fm⟩
  · exact ⟨keep _ _ (fun q => (z7 _ q).2.2 p hp rfl) (N p hp).1, (N p hp).2⟩
end
end
end Mine
end
section
set_option maxRecDepth 100000
namespace Mine
open PySem PySem.W PySem.Calls PyProof.Rows PySem.Spec PyProof.V
abbrev kE (w : World) (x : Str) (t : Tok) (a : Addr) : DictEntry := { hash := PyData.keyHash w.params x, key := .str x t, val := .ref a }
abbrev rangeObj (a b : Int) (t u v : Tok) : Obj := { cls := .type "range", dict := none, data := .fields #[.int a t, .int b u, .int 1 v], slots := #[] }
section
variable {prog : Program} {w : World} {A : Around} {E : Value → Shared → Prop} {s : Shared} {h₀ : Heap} {L : Addr} {m : Str → Option Value} {news : List (Addr × Obj)}
theorem News.pushAt {h' : Heap} {o : Obj} (F : Fr h₀ L s.heap m) (N : News h₀ L s.heap news) (ho : h'.get? s.heap.objs.size = some o) (hk : ∀ b o, s.heap.get? b = some o → h'.get? b = some o) : News h₀ L h' ((s.heap.objs.size, o) :: news) := fun p hp => by
  rcases List.mem_cons.mp hp with rfl | hp
  · exact ⟨ho, Nat.ne_of_gt F.ns.lt, next_is_new F⟩
  · exact ⟨hk _ _ (N p hp).1, (N p hp).2⟩
theorem range1_K {Q : Value → Shared → Prop} {n : Int} {t : Tok} (F : Fr h₀ L s.heap m) (N : News h₀ L s.heap news)
    (h : ∀ r h' tk t₁ u₁ v₁, Fr h₀ L h' m → News h₀ L h' ((r, rangeObj 0 n t₁ u₁ v₁) :: news) → (∀ p ∈ news, p.1 < r) → Q (.ref r) { s with heap := h', toks := tk }) :
    wpAny (model prog w) A (call (.type "range") [.int n t]) Q E s :=
  range1_rows F N fun h' tk t₁ u₁ v₁ hr F' _ hk => h _ h' tk t₁ u₁ v₁ F' (News.pushAt F N hr hk) fun p hp => Heap.lt_size (N p hp).1
theorem range2_K {Q : Value → Shared → Prop} {a b : Int} {t u : Tok} (F : Fr h₀ L s.heap m) (N : News h₀ L s.heap news)
    (h : ∀ r h' tk t₁ u₁ v₁, Fr h₀ L h' m → News h₀ L h' ((r, rangeObj a b t₁ u₁ v₁) :: news) → (∀ p ∈ news, p.1 < r) → Q (.ref r) { s with heap := h', toks := tk }) :
    wpAny (model prog w) A (call (.type "range") [.int a t, .int b u]) Q E s :=
  range2_rows F N fun h' tk t₁ u₁ v₁ hr F' _ hk => h _ h' tk t₁ u₁ v₁ F' (News.pushAt F N hr hk) fun p hp => Heap.lt_size (N p hp).1
end
end Mine
end
section
set_option maxRecDepth 100000
namespace Mine
open PySem PySem.W PySem.Calls PyProof.Rows PySem.Spec PyProof.V
section
variable {prog : Program} {w : World} {K : Type} [DecidableEq K] {knd : KeyKind prog w K} {A : Around} {E : Value → Shared → Prop} {s : Shared} {h₀ : Heap} {L d : Addr} {m : Str → Option Value} {news : List (Addr × Obj)} {o : Obj} {kvs : List (K × Value)}
theorem method_update {pl : Sem Bool} {Q : Value × List Value → Shared → Prop} (N : News h₀ L s.heap news) (hp : (d, o) ∈ news) (hd : o.IsDictOf knd kvs) (h : Q (.builtin "dict.update", [.ref d]) s) : wpAny (model prog w) A (getMethod (.ref d) "update" pl) Q E s :=
  have hD := kda_dict N hp hd
  getMethod_builtin hD.typeIs PySem.F.plainAttrs_dict PySem.F.slot_dict_update PySem.F.type_dict_update hD.mapOf.noDict h
theorem method_items {pl : Sem Bool} {Q : Value × List Value → Shared → Prop} (N : News h₀ L s.heap news) (hp : (d, o) ∈ news) (hd : o.IsDictOf knd kvs) (h : Q (.builtin "dict.items", [.ref d]) s) : wpAny (model prog w) A (getMethod (.ref d) "items" pl) Q E s :=
  have hD := kda_dict N hp hd
  getMethod_builtin hD.typeIs PySem.F.plainAttrs_dict PySem.F.slot_dict_items PySem.F.type_dict_items hD.mapOf.noDict h
theorem update_K {e : Addr} {oe : Obj} {more : List (K × Value)} {g : Obj → List (Addr × Obj)} {Q : Value → Shared → Prop} (F : Fr h₀ L s.heap m) (N : News h₀ L s.heap news) (U : UpdF d o news g) (hd : o.IsDictOf knd kvs) (hp : (e, oe) ∈ news) (he : oe.IsDictOf knd more)
    (hne : @Ne Nat d e) (lo : (e == sysModules) = false) (hsz : kvs.length + more.length ≤ sizeLine)
    (h : ∀ h' o', Fr h₀ L h' m → News h₀ L h' (g o') → o'.IsDictOf knd (merged kvs more) → Q .none { s with heap := h' }) : wpAny (model prog w) A (call (.builtin "dict.update") [.ref d, .ref e]) Q E s := by
  obtain ⟨pre, post, rfl, hg, a, b⟩ := U.split
  have hm := N (d, o) (List.mem_append_right _ (.head _))
  have hD : s.heap.DictOf knd d kvs := Heap.dictOf_iff.mpr ⟨o, hm.1, hd⟩
  have hE := kda_dict N hp he
  refine call_meetsIn PySem.F.slot_dict_update hD.typeIs PySem.F.entry_dict_update (PySem.F.args_dict_update_2 _ _) (meets_dict_update knd d e hne lo) ⟨kvs, more, hD, hE, hsz, fun h' hmm _ hs => ?_⟩
  obtain ⟨o', ho', hd'⟩ := Heap.dictOf_iff.mp hmm
  exact h h' o' (F.change hs hm.2.1 hm.2.2) (hg o' ▸ N.setIn a b hs ho') hd'
/-- an items view just made -/
def ItemsView (h : Heap) (vw d : Addr) : Prop := ∃ ov, h.get? vw = some ov ∧ ov.cls = .type "dict_items" ∧ ov.data = .fields #[.ref d]
theorem items_K {Q : Value → Shared → Prop} (F : Fr h₀ L s.heap m) (N : News h₀ L s.heap news) (hp : (d, o) ∈ news) (hd : o.IsDictOf knd kvs) (lo : (d == sysModules) = false)
    (h : ∀ vw h', ItemsView h' vw d → Fr h₀ L h' m → News h₀ L h' news → Q (.ref vw) { s with heap := h' }) :
    wpAny (model prog w) A (call (.builtin "dict.items") [.ref d]) Q E s := by
  have hD := kda_dict N hp hd
  exact call_meetsIn PySem.F.slot_dict_items hD.typeIs PySem.F.entry_dict_items (PySem.F.args_dict_items_1 _) (meets_dict_items knd d lo)
    ⟨⟨kvs, hD⟩, h _ _ ⟨_, Heap.get?_push_size _ rfl, rfl, rfl⟩ (F.push _) (fun p hp => ⟨Heap.get?_push_of_some _ (N p hp).1, (N p hp).2⟩)⟩
end
section
variable {prog : Program} {w : World} {K : Type} [DecidableEq K] {knd : KeyKind prog w K} {A : Around} {E : Value → Shared → Prop} {s : Shared} {env : Env} {h₀ : Heap} {xk xv : Str} {body : List Stmt} {Q : Flow → Shared → Prop}

def TurnJ2 (h₀ : Heap) (L : Addr) (xk xv : Str) (stored : List Str) (m₀ : Str → Option Value) (I : Addr) (own : List (Addr × Obj)) (J' : (Str → Option Value) → List (Addr × Obj) → Prop) (s₁ : Shared) (Q : Flow → Shared → Prop) (f : Flow) (s₂ : Shared) : Prop :=
  match f with
  | .ret v => Q (.ret v) s₂
  | .brk => Q .next s₂
  | _ => ∃ h' tk m' news', s₂ = { s₁ with heap := h', toks := tk } ∧ Fr h₀ L h' m' ∧ News h₀ L h' (own ++ news') ∧ (∀ p ∈ news', p.1 ≠ I) ∧ (∀ y, y ≠ xk → y ≠ xv → stored.contains y = false → m' y = m₀ y) ∧ J' m' news'

def PairAt (prog : Program) (w : World) (A : Around) (env : Env) (xk xv : Str) (body : List Stmt) (Q : Flow → Shared → Prop) (E : Value → Shared → Prop) (xvl : Value) (s₁ : Shared) : Prop :=
  wpAny (model prog w) A (pyIter xvl) (fun it s₂ => PairLoopAt prog w A s₁.heap env xk xv body Q E it s₂) E s₁
theorem for_pair {pk pv pt pos : Pos} {x1 : Nat} {iter : Expr} 
    (h : wpAny (model prog w) A (eval iter env) (PairAt prog w A env xk xv body Q E) E s)
    (hs : ∀ x, foldedSetIterable iter env x = pure x := by intro _; rfl) :
    wpAny (model prog w) A (exec (.For (.Tuple [.Name xk pk, .Name xv pv] x1 pt) iter body [] pos) env) Q E s :=
  For_pair_inv s.heap h hs

theorem loop_items {d vw : Addr} {od : Obj} {kvs : List (K × Value)} {m₀ : Str → Option Value} {news : List (Addr × Obj)} (stored : List Str)
    (J : Nat → (Str → Option Value) → List (Addr × Obj) → Prop)
    (hh : A.handled = none) (hxk : env.kindOf xk = some .local) (hxv : env.kindOf xv = some .local)
    (hp : (env.scope.kind == .class || (env.scope.kind == .module && env.locals != env.globals)) = false) (V : ItemsView s.heap vw d)
    (F : Fr h₀ env.locals s.heap m₀) (N : News h₀ env.locals s.heap news) (hm : (d, od) ∈ news) (hd : od.IsDictOf knd kvs) (h0 : J 0 m₀ news)
    (turn : ∀ I i k key v (u : Str → Option Value) h tk oI news₁, kvs[i]? = some (k, v) → knd.is k key = true → J i u news₁ → Fr h₀ env.locals h (fun y => if y = xv then some v else if y = xk then some key else if stored.contains y then u y else m₀ y) → News h₀ env.locals h ((I, oI) :: (d, od) :: news₁) → (∀ p ∈ news₁, p.1 ≠ I) → (∀ p ∈ news, p.1 < I) →
      wpAny (model prog w) A (execs body env) (TurnJ2 h₀ env.locals xk xv stored m₀ I [(I, oI), (d, od)] (J (i + 1)) { s with heap := h, toks := tk } Q) E { s with heap := h, toks := tk })
    (done : ∀ (u : Str → Option Value) h tk news', J kvs.length u news' → Fr h₀ env.locals h (fun y => if y = xv then u y else if y = xk then u y else if stored.contains y then u y else m₀ y) → News h₀ env.locals h news' → Q .next { s with heap := h, toks := tk })
    (hE : PassesOwn (model prog w) A env E := by passes_own) :
    PairAt prog w A env xk xv body Q E (.ref vw) s := by
  unfold PairAt
  have hdn := N _ hm
  have hD : s.heap.DictOf knd d kvs := Heap.dictOf_iff.mpr ⟨od, hdn.1, hd⟩
  obtain ⟨ep, hat⟩ := hD.dictAt
  refine wpAny_pyIter_items (knd := knd) (d := d) (kvs := kvs) (ep := ep) V hat ?_
  intro pk pv pt x1
  obtain ⟨it, hitd⟩ : ∃ it : Addr, it = s.heap.objs.size := ⟨_, rfl⟩
  have hdi : d ≠ it := hitd ▸ Nat.ne_of_lt hat.lt_size
  have hiL : it ≠ env.locals := hitd ▸ Nat.ne_of_gt F.ns.lt
  have hin : h₀.get? it = none := hitd ▸ next_is_new F
  have hdL : d ≠ env.locals := hdn.2.1
  have hnlt : ∀ p ∈ news, p.1 < it := fun p hp => hitd ▸ Heap.lt_size (N p hp).1
  rw [← hitd]
  have hLf : env.locals ∉ [it, d] := by
    intro hx
    rcases List.mem_cons.mp hx with e | hx
    · exact hiL e.symm
    · exact hdL (List.mem_singleton.mp hx).symm
  have fold : ∀ (m₁ : Str → Option Value) (a b : Option Value), (∀ y, y ≠ xk → y ≠ xv → stored.contains y = false → m₁ y = m₀ y) → (fun y => if y = xv then a else if y = xk then b else m₁ y) = fun y => if y = xv then a else if y = xk then b else if stored.contains y then m₁ y else m₀ y := by
    intro m₁ a b hm
    funext y
    by_cases h1 : y = xv
    · simp [h1]
    · by_cases h2 : y = xk
      · simp [h2]
      · simp only [if_neg h1, if_neg h2]
        cases h3 : stored.contains y with
        | true => simp
        | false => simp only [Bool.false_eq_true, if_false]; exact hm y h2 h1 h3
  refine codeAny_forLoop_any
    (fun n s' => ∃ h' tk m' news' i ok ov, s' = { s with heap := h', toks := tk } ∧ IsItemIter h' it d i kvs.length ep ok ov ∧ h'.get? d = some od ∧ h'.DictAt knd d kvs ep ∧ Fr h₀ env.locals h' m' ∧ News h₀ env.locals h' news' ∧ (∀ p ∈ news', p.1 ≠ it) ∧
      (∀ y, y ≠ xk → y ≠ xv → stored.contains y = false → m' y = m₀ y) ∧ J i m' news' ∧ i ≤ kvs.length ∧ n = kvs.length + 1 - i) ?_ (kvs.length + 1)
    ⟨_, s.toks, m₀, news, 0, .none, .none, rfl, hitd ▸ Heap.get?_push_size _ rfl, Heap.get?_push_of_some _ hdn.1, hat.push _, F.push _, (fun p hp => ⟨Heap.get?_push_of_some _ (N p hp).1, (N p hp).2⟩), (fun p hp => Nat.ne_of_lt (hnlt p hp)), (fun _ _ _ _ => rfl), h0, Nat.zero_le _, rfl⟩
  rintro n s' ⟨H, tk, m', news', i, ok, ov, rfl, hit', hod', hm', F', N', hnw, hsame, hJ, hi, rfl⟩
  have hn' := F'.ns
  have oldNe : ∀ b o, h₀.get? b = some o → b ≠ it := fun b o e q => by rw [q, hin] at e; cases e
  cases hv : kvs[i]? with
  | none =>
    have hsz : i = kvs.length := Nat.le_antisymm hi (by simpa using hv)
    refine wpAny_pyNext_items_end hh hit' hm' hv fun h₁ he₁ => wpAny_execs_nil ?_
    refine done m' h₁ tk news' (hsz ▸ hJ) ?_ (fun p hp => ⟨he₁ _ _ (hnw p hp) (N' p hp).1, (N' p hp).2⟩)
    have e : (fun y => if y = xv then m' y else if y = xk then m' y else if stored.contains y then m' y else m₀ y) = m' := by
      funext y
      by_cases h1 : y = xv
      · simp [h1]
      · by_cases h2 : y = xk
        · simp [h2]
        · simp only [if_neg h1, if_neg h2]
          cases h3 : stored.contains y with
          | true => simp
          | false => simp only [Bool.false_eq_true, if_false]; exact (hsame y h2 h1 h3).symm
    rw [e]
    exact ⟨hn'.extBut he₁ (Ne.symm hiL), fun b o e => he₁ b o (oldNe b o e) (F'.keep b o e), F'.above⟩
  | some kv =>
    obtain ⟨k, v⟩ := kv
    have hlt : i < kvs.length := (List.getElem?_eq_some_iff.mp hv).1
    have hiH : it < H.objs.size := Heap.lt_size hit'
    have hLH : env.locals < H.objs.size := hn'.lt
    have hdH : d < H.objs.size := hm'.lt_size
    refine wpAny_pyNext_items_item hit' hm' hv fun key h₁ hkey heo ht₁ hz₁ hk₁ => ?_
    refine wpAny_letOwnedTupleGo_items heo fun h₂ he₂ hs₂ => ?_
    replace hs₂ : Heap.SameBut it h₁ h₂ := hs₂
    have ht₂ : h₂.IsTuple H.objs.size #[key, v] := ⟨_, (hs₂.2 _ (Nat.ne_of_gt hiH)).trans ht₁, rfl, _, rfl⟩
    have hz₂ : h₂.objs.size = H.objs.size + 1 := hs₂.1.trans hz₁
    refine wpAny_assign_Tuple hh ht₂ rfl rfl fun h₃ hx₃ => ?_
    replace hx₃ : Heap.ExtBut h₂.objs.size h₂ h₃ := hx₃
    have old₃ : ∀ b o, b < H.objs.size → h₂.get? b = some o → h₃.get? b = some o := fun b o hb x => hx₃ b o (by rw [hz₂]; exact Nat.ne_of_lt (Nat.lt_succ_of_lt hb)) x
    have up₃ : ∀ b o, b ≠ it → H.get? b = some o → h₃.get? b = some o := fun b o hb x => old₃ b o (Heap.lt_size x) (hs₂.extBut b o hb (hk₁ b o hb x))
    have F₃ : Fr h₀ env.locals h₃ m' := ⟨hn'.at fun o x => up₃ _ o (Ne.symm hiL) x, fun b o e => up₃ b o (oldNe b o e) (F'.keep b o e), F'.above⟩
    have N₃ : News h₀ env.locals h₃ news' := fun p hp => ⟨up₃ _ _ (hnw p hp) (N' p hp).1, (N' p hp).2⟩
    show wpAny _ _ (do holding [v] (assign (.Name xk pk) env key); do holding [] (assign (.Name xv pv) env v); pure ()) _ _ _
    refine wpAny_bind (wpAny_holding (wpAny_assign_Name (wpAny_storeName_local hxk F₃.ns (fun h₄ hn₄ hs₄ => ?_) hp)))
    replace hs₄ : Heap.SameBut env.locals h₃ h₄ := hs₄
    have F₄ := F₃.set hn₄ hs₄
    refine wpAny_bind (wpAny_holding (wpAny_assign_Name (wpAny_storeName_local hxv F₄.ns (fun h₅ hn₅ hs₅ => wpAny_pure ?_) hp)))
    replace hs₅ : Heap.SameBut env.locals h₄ h₅ := hs₅
    have F₅ := F₄.set hn₅ hs₅
    have N₅ : News h₀ env.locals h₅ news' := (N₃.set hs₄).set hs₅
    have up₅ : ∀ b o, b ≠ env.locals → b < H.objs.size → h₂.get? b = some o → h₅.get? b = some o := fun b o hbL hb x => hs₅.extBut b o hbL (hs₄.extBut b o hbL (old₃ b o hb x))
    have hm₂ : h₂.DictAt knd d kvs ep := (hm'.at fun o x => hk₁ d o hdi x).extBut hs₂.extBut hdi
    have hm₅ : h₅.DictAt knd d kvs ep := hm₂.at fun o x => up₅ d o hdL hdH x
    have hod₅ : h₅.get? d = some od := up₅ d od hdL hdH (hs₂.extBut _ _ hdi (hk₁ d od hdi hod'))
    have hit₅ := up₅ it _ hiL hiH he₂
    rw [fold m' (some v) (some key) hsame] at F₅
    obtain ⟨oI, hoI, hII⟩ : ∃ oI, h₅.get? it = some oI ∧ (∀ h' : Heap, h'.get? it = some oI → IsItemIter h' it d (i + 1) kvs.length ep key v) := ⟨_, hit₅, fun _ e => e⟩
    refine wpAny_passesOwn hE (wpAny_mono (turn it i k key v m' h₅ _ oI news' hv hkey hJ F₅ (fun p hp => ?_) hnw hnlt) (fun f s₃ h₆ => ?_) fun _ _ x => x)
    · rcases List.mem_cons.mp hp with rfl | hp
      · exact ⟨hoI, hiL, hin⟩
      · rcases List.mem_cons.mp hp with rfl | hp
        · exact ⟨hod₅, hdn.2⟩
        · exact N₅ p hp
    · have fin2 : (∃ h' tk m' news', s₃ = { s with heap := h', toks := tk } ∧ Fr h₀ env.locals h' m' ∧ News h₀ env.locals h' ([(it, oI), (d, od)] ++ news') ∧ (∀ p ∈ news', p.1 ≠ it) ∧ (∀ y, y ≠ xk → y ≠ xv → stored.contains y = false → m' y = m₀ y) ∧ J (i + 1) m' news') →
          ∃ n, n < kvs.length + 1 - i ∧ ∃ h' tk m' news' i ok ov, s₃ = { s with heap := h', toks := tk } ∧ IsItemIter h' it d i kvs.length ep ok ov ∧ h'.get? d = some od ∧ h'.DictAt knd d kvs ep ∧ Fr h₀ env.locals h' m' ∧ News h₀ env.locals h' news' ∧ (∀ p ∈ news', p.1 ≠ it) ∧
            (∀ y, y ≠ xk → y ≠ xv → stored.contains y = false → m' y = m₀ y) ∧ J i m' news' ∧ i ≤ kvs.length ∧ n = kvs.length + 1 - i := by
        rintro ⟨h₆, tk₆, m₂, news₂, e₆, F₆, N₆, hn₆, hs₆, hJ₆⟩
        have kd := (N₆ (d, od) (by simp)).1
        refine ⟨kvs.length + 1 - (i + 1), by omega, h₆, tk₆, m₂, news₂, i + 1, key, v, e₆, hII _ (N₆ (it, oI) List.mem_cons_self).1, kd, hm₅.at (fun o x => ?_), F₆, (fun p hp => N₆ p (by simp [hp])), hn₆, hs₆, hJ₆, hlt, rfl⟩
        rw [hod₅] at x
        cases x
        exact kd
      cases f with
      | next => exact fin2 h₆
      | cont => exact fin2 h₆
      | brk => exact h₆
      | ret _ => exact h₆
end
end Mine
end
section
set_option maxRecDepth 100000
namespace Mine
open PySem PySem.W PySem.Calls PyProof.Rows PySem.Spec PyProof.V Builtin Builtin.ObjectAttr Builtin.Getset_descriptor
section
variable {prog : Program} {w : World} {A : Around} {s : Shared} {K : Frag} {p x C dx L : Addr} {E : Value → Shared → Prop} {expr : Bool} {h₀ : Heap} {m : Str → Option Value} {news : List (Addr × Obj)} {es : List DictEntry} {n : Nat} {Q : Value → Shared → Prop} {sl : Array (Option Value)} {R : Result → Shared → Prop}
theorem dictS_slots (es : List DictEntry) (n : Nat) : (dictS es n).slots.isEmpty = false := rfl
theorem f_dictS {ox : Obj} (X : K.In s.heap) (I : InstAt s.heap x ox C (some (dictS es n))) (hdx : ox.dict = some dx) (hod : s.heap.get? dx = some (dictS es n))
    (hc : ∃ cd, clsIn K C = some cd ∧ cd.hasDict = true)
    (hs : mroIn K C (.type "staticmethod") = some false) (hcm : mroIn K C (.type "classmethod") = some false)
    (h : R (.ok (.ret (.ref dx))) { s with heap := s.heap.update dx marked }) : codeAny (model prog w) A (.builtin "function.__dict__" ⟨[.ref x], []⟩) R s := by
  obtain ⟨cd, hcd, hdc⟩ := hc
  refine codeAny_builtin entry_fdict ?_
  obtain ⟨hh, g, dr, t', os⟩ := s
  have L0 := I.type (M := model prog w)
  have L2 := looks_mroIn (M := model prog w) X hs
  have L3 := looks_mroIn (M := model prog w) X hcm
  have L4 := looks_clsIn (M := model prog w) X hcd
  have hx := I.at_
  have hcl := I.cls
  have hno := I.no
  dsimp only at hx L0 L2 L3 L4 hod
  obtain ⟨oc, odi, oda, osl⟩ := ox
  dsimp only at hcl hdx
  subst hcl hdx
  unfold Builtin.«function.__dict__»
  dsimp only
  refine wpAny_bind ?_
  unfold isInstance
  repeat lk
  simp only [hdc, Bool.not_true, Bool.false_eq_true, if_false]
  refine wpAny_pure ?_
  dsimp only
  refine wpAny_bind (wpAny_loadPart hx ?_)
  dsimp only
  refine wpAny_bind ?_
  show wpAny _ _ (load dx >>= _) _ _ _
  refine wpAny_bind (wpAny_load hod ?_)
  refine wpAny_ite ?_
  rw [if_pos (by simp [dictS])]
  refine wpAny_pure ?_
  dsimp only
  exact wpAny_bind (wpAny_update hod (wpAny_pure (wpAny_pure h)))

theorem dict_getS {ox : Obj} {tp : Value} {t : Tok} {s1 : Value} (X : K.In s.heap) (I : InstAt s.heap x ox C (some (dictS es n))) (hdx : ox.dict = some dx) (hod : s.heap.get? dx = some (dictS es n))
    (hp : recIn K p "getset_descriptor" = some [.str (Str.ofString "__dict__") t, .ref C, .builtin "function.__dict__", s1]) (hc : ∃ cd, clsIn K C = some cd ∧ cd.hasDict = true)
    (hm : mroIn K C (.ref C) = some true) (hs : mroIn K C (.type "staticmethod") = some false) (hcm : mroIn K C (.type "classmethod") = some false)
    (h : R (.ok (.ret (.ref dx))) { s with heap := s.heap.update dx marked }) : codeAny (model prog w) A (.call (.builtin "getset_descriptor.__get__") ⟨[.ref p, .ref x, tp], []⟩) R s := by
  obtain ⟨d, sl, ho⟩ := rec_of X hp
  have go : codeAny (model prog w) A (.builtin "function.__dict__" ⟨[.ref x], []⟩) R s := f_dictS X I hdx hod hc hs hcm h
  obtain ⟨hh, g, dr, t', os⟩ := s
  have L0 := I.type (M := model prog w)
  have L1 := looks_mroIn (M := model prog w) X hm
  dsimp only at ho L0 L1
  have f0 := looks_field (M := model prog w) ho 0 (v := .str (Str.ofString "__dict__") t) rfl
  have f1 := looks_field (M := model prog w) ho 1 (v := .ref C) rfl
  have f2 := looks_field (M := model prog w) ho 2 (v := .builtin "function.__dict__") rfl
  refine codeAny_call_builtin KF.slot_gs.plain KF.entry_gs (KF.slot_gs.check _ _ _ _ _ _ _ _ ⟨_, ho, rfl⟩ (KF.args_gs _ _ _) ?_)
  unfold Builtin.«getset_descriptor.__get__» descrGet
  rw [dga_obj]
  refine wpAny_bind (wpAny_pure ?_)
  unfold descrGetter descrCheckInstance descrNameAndClass isInstance
  repeat lk
  exact ⟨Code.quiet_builtin _ (by decide +kernel), go⟩

theorem a_getDictS {t : Tok} {s1 : Value} (F : Fr h₀ L s.heap m) (X₀ : K.In h₀) (N : News h₀ L s.heap news) (h1 : (x, (⟨.ref C, some dx, .plain, sl⟩ : Obj)) ∈ news) (h2 : (dx, dictS es n) ∈ news)
    (hg : plainGet K C "__dict__" = true) (ha : findIn K (.ref C) "__dict__" = some (some (.ref p))) (hs : specialIn K (.ref p) "__get__" = some (some (.builtin "getset_descriptor.__get__"))) (ht : takesIn K (.ref p) = some true)
    (hp : recIn K p "getset_descriptor" = some [.str (Str.ofString "__dict__") t, .ref C, .builtin "function.__dict__", s1]) (hh : hasDictIn K C = true)
    (hm : mroIn K C (.ref C) = some true) (hst : mroIn K C (.type "staticmethod") = some false) (hcm : mroIn K C (.type "classmethod") = some false)
    (h : ∀ h', Fr h₀ L h' m → News h₀ L h' news → Q (.ref dx) { s with heap := h', toks := s.toks + 1 }) : wpAny (model prog w) A (getAttr (.ref x) "__dict__" expr) Q E s := by
  have XK := X₀.keeps F.keep
  have I := InstAt.of_news N h1 h2
  have hcl := any_some hh
  have hod := (N _ h2).1
  have keep : ∀ b o, s.heap.get? b = some o → (s.heap.update dx marked).get? b = some o := fun b o e => by
    by_cases q : dx = b
    · subst q
      rw [hod] at e
      cases e
      exact Heap.get?_update_self marked hod rfl
    · exact (Heap.get?_update_other _ _ q).trans e
  refine get_bind XK I (plainGet_of hg).1 (findObj_data (by obtain ⟨cd, hc, _⟩ := hcl; rw [hc]; rfl) ha hs ht) (plainGet_of hg).2 (wpAny_call ?_)
  refine dict_getS (s := { s with toks := s.toks + 1 }) XK I rfl hod hp hcl hm hst hcm ?_
  show wpAny _ _ (handedOut (.ref dx)) _ _ _
  refine wpAny_pure (h _ ⟨F.ns.at' fun o e => keep _ o e, fun b o e => keep b o (F.keep b o e), F.above⟩ fun p hp => ⟨keep _ _ (N p hp).1, (N p hp).2⟩)

theorem findIdx_of {α : Type} (q : α → Bool) : ∀ (l : List α) (e : α), l.find? q = some e → ∃ i, l.findIdx? q = some i ∧ l[i]? = some e
  | [], _, h => by simp at h
  | a :: l, e, h => by
    rw [List.find?_cons] at h
    rw [List.findIdx?_cons]
    cases hq : q a with
    | true => rw [hq] at h; simp at h; exact ⟨0, by simp, by simp [h]⟩
    | false =>
      rw [hq] at h
      obtain ⟨i, h1, h2⟩ := findIdx_of q l e h
      exact ⟨i + 1, by simp [h1], by simpa using h2⟩

/-- dict.get of a name that is there -/
theorem getS_hit {t : Tok} {dflt v : Value} (N : News h₀ L s.heap news) (hp : (dx, dictS es n) ∈ news) (hk : KeysLit w.params es) {name : Str} (hl : getL name es = some (some v)) 
    (h : Q v { s with toks := s.toks + 1 }) : wpAny (model prog w) A (call (.builtin "dict.get") [.ref dx, .str name t, dflt]) Q E s := by
  have ho := (N _ hp).1
  unfold getL at hl
  split at hl
  · rename_i e he
    cases hl
    obtain ⟨i, h1, h2⟩ := findIdx_of _ _ _ he
    have h1' : (es.toArray.findIdx? fun e => (PySem.strKind prog w).is name e.key) = some i := by
      rw [List.findIdx?_toArray, show (fun e : DictEntry => (PySem.strKind prog w).is name e.key) = fun x => x.key.isStr name from funext fun e => (isStr_of name e.key).symm]
      exact h1
    refine wpAny_call (codeAny_call_builtin PySem.F.slot_dict_get.plain PySem.F.entry_dict_get (PySem.F.slot_dict_get.check _ _ _ _ _ _ _ _ ⟨_, ho, rfl⟩ (PySem.F.args_dict_get_3 _ _ _) ?_))
    show wpAny _ _ (dictGet dx (.str name t) >>= _) _ _ s
    refine wpAny_bind ?_
    unfold dictGet
    refine wpAny_holding (wpAny_bind ((PySem.strKind prog w).pyHash (strKind_is prog w name t) (wpAny_bind (wpAny_dictFind_of (s := { s with toks := s.toks + 1 }) (knd := PySem.strKind prog w) (strKind_is prog w name t) ho rfl (keysOf_lit hk) ?_))))
    rw [h1']
    refine wpAny_bind (wpAny_dictEntries (s := { s with toks := s.toks + 1 }) ho rfl (wpAny_pure ?_))
    have h3 : es.toArray[i]? = some e := by simpa using h2
    rw [h3]
    exact wpAny_pure h
  · split at hl <;> cases hl
end
end Mine
end
section
set_option maxRecDepth 100000
namespace Mine
open PySem PySem.W PySem.Calls PyProof.Rows PySem.Spec PyProof.V
theorem lookIn_dict' (name : Str) (es : List DictEntry) (n : Nat) : lookIn name (dictS es n) = getL name es := rfl
theorem handed_K {M : Model} {A : Around} {E : Value → Shared → Prop} {s : Shared} {a : Addr} {Q : Value → Shared → Prop} (h : Q (.ref a) s) : wpAny M A (handedOut (.ref a)) Q E s := by
  rw [handedOut_of rfl]
  exact wpAny_pure h
theorem type_dict_type : typeOf (.type "dict") = pure (.type "type") := by kernel_rfl
theorem rows_get {n i : Nat} {g : Nat → Value} {k : Int} {v : Value} (h : (rows n g)[i]? = some (k, v)) : i < n ∧ k = (i : Int) ∧ v = g i := by
  unfold rows at h
  rw [List.getElem?_map] at h
  by_cases hi : i < n
  · rw [List.getElem?_range hi] at h
    simp at h
    exact ⟨hi, h.1.symm, h.2.symm⟩
  · rw [List.getElem?_eq_none (by simpa using hi)] at h
    cases h
section
variable {prog : Program} {w : World} {K : Type} [DecidableEq K] {knd : KeyKind prog w K} {A : Around} {E : Value → Shared → Prop} {s : Shared} {h₀ : Heap} {L d : Addr} {m : Str → Option Value} {news : List (Addr × Obj)} {o : Obj} {kvs : List (K × Value)}
theorem isinst_dict {Q : Value → Shared → Prop} (N : News h₀ L s.heap news) (hp : (d, o) ∈ news) (hd : o.IsDictOf knd kvs) (h : Q (.bool true) s) : wpAny (model prog w) A (call (.builtin "isinstance") [.ref d, .type "dict"]) Q E s :=
  have hD := (kda_dict N hp hd).typeIs
  call_isinstance_yes hD type_dict_type isSubtype_dict_dict h
end
end Mine
end
section
set_option maxRecDepth 100000
namespace Mine
/-- a place where a walk is to stop -/
def Stop (P : Prop) : Prop := P
theorem Stop.mk {P : Prop} (h : Stop P) : P := h
theorem Stop.out {P : Prop} (h : P) : Stop P := h
/-- a view over the node dict -/
abbrev nvObj (nd an : PySem.Addr) : PySem.Obj := { cls := .ref 101, dict := some nd, data := .plain, slots := #[some (.ref an)] }
open PySem PySem.W PySem.Calls PyProof.Rows PySem.Spec PyProof.V
section
variable {h₀ h : Heap} {L : Addr} {S G es news : List (Addr × Obj)} {I : Nat} {oI : Obj}
theorem front_G (N : News h₀ L h news) (hI : (I, oI) ∈ news) (hSG : ∀ p ∈ S ++ G, p ∈ news) (hes : ∀ p ∈ es, p ∈ G) : News h₀ L h (es ++ ((I, oI) :: (S ++ rms G (es.map (·.1))))) := News.perm N fun p hp => by
  rcases List.mem_append.mp hp with q | q
  · exact hSG p (List.mem_append_right _ (hes p q))
  · rcases List.mem_cons.mp q with rfl | q
    · exact hI
    · rcases List.mem_append.mp q with q | q
      · exact hSG p (List.mem_append_left _ q)
      · exact hSG p (List.mem_append_right _ (rms_sub p q))
theorem front_ne (hnI : ∀ p ∈ S ++ G, p.1 ≠ I) (ap : Apart S G) (hes : ∀ p ∈ es, p ∈ G) : ∀ q ∈ es, ∀ p ∈ (I, oI) :: (S ++ rms G (es.map (·.1))), p.1 ≠ q.1 := by
  intro q hq p hp
  rcases List.mem_cons.mp hp with rfl | hp
  · exact fun e => hnI q (List.mem_append_right _ (hes q hq)) e.symm
  · rcases List.mem_append.mp hp with hp | hp
    · exact ap p hp q (hes q hq)
    · exact rms_ne (List.mem_map_of_mem hq) p hp
/-- the same, with no iterator -/
theorem front_G0 (N : News h₀ L h news) (hSG : ∀ p ∈ S ++ G, p ∈ news) (hes : ∀ p ∈ es, p ∈ G) : News h₀ L h (es ++ (S ++ rms G (es.map (·.1)))) := News.perm N fun p hp => by
  rcases List.mem_append.mp hp with q | q
  · exact hSG p (List.mem_append_right _ (hes p q))
  · rcases List.mem_append.mp q with q | q
    · exact hSG p (List.mem_append_left _ q)
    · exact hSG p (List.mem_append_right _ (rms_sub p q))
theorem front_ne0 (ap : Apart S G) (hes : ∀ p ∈ es, p ∈ G) : ∀ q ∈ es, ∀ p ∈ S ++ rms G (es.map (·.1)), p.1 ≠ q.1 := by
  intro q hq p hp
  rcases List.mem_append.mp hp with hp | hp
  · exact ap p hp q (hes q hq)
  · exact rms_ne (List.mem_map_of_mem hq) p hp
end
section
variable {prog : Program} {w : World} {S G G' : List (Addr × Obj)} {x d ag an aa : Nat} {es es' : List DictEntry} {ne ne' : Nat} {f : Nat → Nat} {n : Nat} {A : Nat → List (Int × Value)} {B : Nat → List (Str × Value)} {gk : List (Str × Value)}
theorem GI.inG (gi : GI prog w G x d ag an aa es ne f n A B gk) : ∀ c ∈ [x, d, ag, an, aa], ∃ o, (c, o) ∈ G := by
  intro c hc
  simp only [List.mem_cons, List.not_mem_nil, or_false] at hc
  rcases hc with rfl | rfl | rfl | rfl | rfl
  · exact ⟨_, gi.inst⟩
  · exact ⟨_, gi.dict⟩
  · obtain ⟨o, h, _⟩ := gi.gr; exact ⟨o, h⟩
  · obtain ⟨o, h, _⟩ := gi.nod; exact ⟨o, h⟩
  · obtain ⟨o, h, _⟩ := gi.adj; exact ⟨o, h⟩
theorem GI.congrB (gi : GI prog w G x d ag an aa es ne f n A B gk) {B' : Nat → List (Str × Value)} (h : ∀ v, v < n → B v = B' v) : GI prog w G x d ag an aa es ne f n A B' gk :=
  ⟨gi.inst, gi.dict, gi.gr, gi.nod, gi.adj, gi.adv, fun v hv => h v hv ▸ gi.ndv v hv, gi.inj, gi.off, gi.dis, gi.low, gi.lowf⟩
theorem GI.congrA (gi : GI prog w G x d ag an aa es ne f n A B gk) {A' : Nat → List (Int × Value)} (h : ∀ v, v < n → A v = A' v) : GI prog w G x d ag an aa es ne f n A' B gk :=
  ⟨gi.inst, gi.dict, gi.gr, gi.nod, gi.adj, fun v hv => h v hv ▸ gi.adv v hv, gi.ndv, gi.inj, gi.off, gi.dis, gi.low, gi.lowf⟩
def Uniq (l : List (Addr × Obj)) : Prop := ∀ {p q : Addr × Obj}, p ∈ l → q ∈ l → p.1 = q.1 → p = q
theorem News.uniq {h₀ h : Heap} {L : Addr} {l : List (Addr × Obj)} (N : News h₀ L h l) {p q : Addr × Obj} (hp : p ∈ l) (hq : q ∈ l) (e : p.1 = q.1) : p = q := by
  have a := (N p hp).1
  have b := (N q hq).1
  rw [e, b] at a
  exact Prod.ext e (Option.some.inj a).symm
/-- one node's attribute dict and the object's dict change -/
theorem GI.nd (gi : GI prog w G x d ag an aa es ne f n A B gk) {i : Nat} {o' : Obj} {kv' : List (Str × Value)} (hi : i < n)
    (hk : ∀ p ∈ G, p.1 ≠ f (2 * i + 1) → p.1 ≠ d → p ∈ G') (hd : (d, dictS es' ne') ∈ G') (ho : (f (2 * i + 1), o') ∈ G') (hb : o'.IsDictOf (PySem.strKind prog w) kv') :
    GI prog w G' x d ag an aa es' ne' f n A (fun v => if v = i then kv' else B v) gk := by
  have ap := gi.apart2
  have off : ∀ c ∈ [x, d, ag, an, aa], c ≠ f (2 * i + 1) := fun c hc e => gi.off (2 * i + 1) (by omega) (e ▸ hc)
  constructor
  · exact hk _ gi.inst (off x (by simp)) ap.1.1
  · exact hd
  · obtain ⟨o, h, z⟩ := gi.gr
    exact ⟨o, hk _ h (off ag (by simp)) (fun e => ap.2.1.1 e.symm), z⟩
  · obtain ⟨o, h, z⟩ := gi.nod
    exact ⟨o, hk _ h (off an (by simp)) (fun e => ap.2.1.2.1 e.symm), z⟩
  · obtain ⟨o, h, z⟩ := gi.adj
    exact ⟨o, hk _ h (off aa (by simp)) (fun e => ap.2.1.2.2 e.symm), z⟩
  · intro v hv
    obtain ⟨o, h, z⟩ := gi.adv v hv
    refine ⟨o, hk _ h (gi.inj _ _ (by omega) (by omega) (by omega)) (fun e => ?_), z⟩
    exact gi.off (2 * v) (by omega) (by rw [show f (2 * v) = d from e]; simp)
  · intro v hv
    by_cases q : v = i
    · subst q
      exact ⟨o', ho, by simpa using hb⟩
    · obtain ⟨o, h, z⟩ := gi.ndv v hv
      refine ⟨o, hk _ h (gi.inj _ _ (by omega) (by omega) (by omega)) (fun e => ?_), by simpa [q] using z⟩
      exact gi.off (2 * v + 1) (by omega) (by rw [show f (2 * v + 1) = d from e]; simp)
  · exact gi.inj
  · exact gi.off
  · exact gi.dis
  · exact gi.low
  · exact gi.lowf

theorem stored_nil {K : Type} [DecidableEq K] (k : K) (v : Value) : stored ([] : List (K × Value)) k v = [(k, v)] := rfl

theorem set_end0 {h₀ h' : Heap} {L : Addr} {I b nv nd : Nat} {oI ob o' on : Obj} {R : List (Addr × Obj)} {v : Value} {k : Str}
    (gi : GI prog w G x d ag an aa es ne f n (fun _ => []) (fun _ => []) gk) (hn : 0 < n) (ap : Apart S G) (hnI : ∀ p ∈ S ++ G, p.1 ≠ I) (hb : (b, ob) ∈ S) (NG : Uniq G)
    (hR : R = (I, oI) :: (S ++ rms G [f (2 * 0 + 1), an, x, d])) (mn : (an, on) ∈ G)
    (N : News h₀ L h' ((nv, nvObj nd an) :: (nd, dictOf [] 0) :: (f (2 * 0 + 1), o') :: (an, on) :: (x, instObj 617 d) :: (d, dictS es' ne') :: R)) (l1 : nd < nv)
    (l2 : f (2 * 0 + 1) < nd ∧ an < nd ∧ x < nd ∧ d < nd ∧ AllLt nd R) (hd : o'.IsDictOf (PySem.strKind prog w) (stored [] k v)) :
    ∃ G', News h₀ L h' ([(I, oI), (b, ob)] ++ (S ++ G')) ∧ (∀ p ∈ S ++ G', p.1 ≠ I) ∧ Apart S G' ∧ (nv, nvObj nd an) ∈ G' ∧ (nd, dictOf [] 0) ∈ G' ∧ (∀ j, j < 2 * n → f j ≠ nv ∧ f j ≠ nd) ∧
      GI prog w G' x d ag an aa es' ne' f n (fun _ => []) (fun u => if u = 0 then [(k, v)] else []) gk := by
  subst hR
  obtain ⟨l20, l21, l22, l23, l24, l25⟩ := l2
  have sR := allLt_all l25
  have sG : ∀ p ∈ G, p.1 < nd := fun p hp => by
    by_cases q : p.1 ∈ [f (2 * 0 + 1), an, x, d]
    · simp only [List.mem_cons, List.not_mem_nil, or_false] at q
      rcases q with q | q | q | q <;> rw [q] <;> assumption
    · exact sR p (List.mem_append_right _ (mem_rms hp q))
  have sS : ∀ p ∈ S, p.1 < nd := fun p hp => sR p (List.mem_append_left _ hp)
  have lI : I < nd := l24
  refine ⟨(nv, nvObj nd an) :: (nd, dictOf [] 0) :: (f (2 * 0 + 1), o') :: (an, on) :: (x, instObj 617 d) :: (d, dictS es' ne') :: rms G [f (2 * 0 + 1), an, x, d], ?_, ?_, ?_, ?_, ?_, ?_, ?_⟩
  · refine News.perm N fun p hp => ?_
    simp only [List.cons_append, List.nil_append, List.mem_cons, List.mem_append] at hp ⊢
    rcases hp with h | h | h | h | h | h | h | h | h | h
    · simp [h]
    · simp [h, hb]
    all_goals simp [h]
  · intro p hp
    rcases List.mem_append.mp hp with h | h
    · exact hnI p (List.mem_append_left _ h)
    · simp only [List.mem_cons] at h
      have old : ∀ q ∈ G, q.1 ≠ I := fun q hq => hnI q (List.mem_append_right _ hq)
      rcases h with h | h | h | h | h | h | h
      · rw [h]; exact Nat.ne_of_gt (Nat.lt_trans lI l1)
      · rw [h]; exact Nat.ne_of_gt lI
      · rw [h]
        obtain ⟨o, ho, _⟩ := gi.ndv 0 hn
        exact (old _ ho : f (2 * 0 + 1) ≠ I)
      · rw [h]; exact old _ mn
      · rw [h]; exact old _ gi.inst
      · rw [h]; exact (old _ gi.dict : d ≠ I)
      · exact old p (rms_sub p h)
  · intro p hp q hq
    have lp := sS p hp
    simp only [List.mem_cons] at hq
    rcases hq with h | h | h | h | h | h | h
    · rw [h]; exact Nat.ne_of_lt (Nat.lt_trans lp l1)
    · rw [h]; exact Nat.ne_of_lt lp
    · rw [h]
      obtain ⟨o, ho, _⟩ := gi.ndv 0 hn
      exact (ap p hp _ ho : p.1 ≠ f (2 * 0 + 1))
    · rw [h]; exact ap p hp _ mn
    · rw [h]; exact ap p hp _ gi.inst
    · rw [h]; exact (ap p hp _ gi.dict : p.1 ≠ d)
    · exact ap p hp q (rms_sub q h)
  · simp
  · simp
  · intro j hj
    obtain ⟨o, ho⟩ := gi.fin j hj
    have : f j < nd := sG _ ho
    exact ⟨Nat.ne_of_lt (Nat.lt_trans this l1), Nat.ne_of_lt this⟩
  · refine GI.nd gi hn (fun p hp q1 q2 => ?_) (by simp) (o' := o') (by simp) (by rw [stored_nil] at hd; exact hd)
    by_cases q : p.1 ∈ [f (2 * 0 + 1), an, x, d]
    · simp only [List.mem_cons, List.not_mem_nil, or_false] at q
      rcases q with q | q | q | q
      · exact absurd q q1
      · rw [NG hp mn q]; simp
      · rw [NG hp gi.inst q]; simp
      · exact absurd q q2
    · simp [mem_rms hp q]

theorem set_end1 {h₀ h' : Heap} {L : Addr} {I b nv nd i : Nat} {oI ob o' on : Obj} {R : List (Addr × Obj)} {v : Value} {k : Str}
    (gi : GI prog w G x d ag an aa es ne f n A B gk) (hn : i < n) (ap : Apart S G) (hnI : ∀ p ∈ S ++ G, p.1 ≠ I) (hb : (b, ob) ∈ S) (NG : Uniq G)
    (hR : R = (I, oI) :: (S ++ rms G [f (2 * i + 1), an, x, d, nv, nd])) (mn : (an, on) ∈ G) (mv : (nv, nvObj nd an) ∈ G) (md : (nd, dictOf [] 0) ∈ G)
    (N : News h₀ L h' ((f (2 * i + 1), o') :: (an, on) :: (x, instObj 617 d) :: (d, dictS es ne) :: (nv, nvObj nd an) :: (nd, dictOf [] 0) :: R)) (hd : o'.IsDictOf (PySem.strKind prog w) (stored [] k v)) :
    ∃ G', News h₀ L h' ([(I, oI), (b, ob)] ++ (S ++ G')) ∧ (∀ p ∈ S ++ G', p.1 ≠ I) ∧ Apart S G' ∧ (nv, nvObj nd an) ∈ G' ∧ (nd, dictOf [] 0) ∈ G' ∧
      GI prog w G' x d ag an aa es ne f n A (fun u => if u = i then [(k, v)] else B u) gk := by
  subst hR
  obtain ⟨o0, m0, _⟩ := gi.ndv i hn
  have inG : ∀ p ∈ (f (2 * i + 1), o') :: (an, on) :: (x, instObj 617 d) :: (d, dictS es ne) :: (nv, nvObj nd an) :: (nd, dictOf [] 0) :: rms G [f (2 * i + 1), an, x, d, nv, nd], ∃ q ∈ G, q.1 = p.1 := by
    intro p hp
    simp only [List.mem_cons] at hp
    rcases hp with h | h | h | h | h | h | h
    · rw [h]; exact ⟨_, m0, rfl⟩
    · rw [h]; exact ⟨_, mn, rfl⟩
    · rw [h]; exact ⟨_, gi.inst, rfl⟩
    · rw [h]; exact ⟨_, gi.dict, rfl⟩
    · rw [h]; exact ⟨_, mv, rfl⟩
    · rw [h]; exact ⟨_, md, rfl⟩
    · exact ⟨p, rms_sub p h, rfl⟩
  refine ⟨(f (2 * i + 1), o') :: (an, on) :: (x, instObj 617 d) :: (d, dictS es ne) :: (nv, nvObj nd an) :: (nd, dictOf [] 0) :: rms G [f (2 * i + 1), an, x, d, nv, nd], ?_, ?_, ?_, ?_, ?_, ?_⟩
  · refine News.perm N fun p hp => ?_
    simp only [List.cons_append, List.nil_append, List.mem_cons, List.mem_append] at hp ⊢
    rcases hp with h | h | h | h | h | h | h | h | h | h
    · simp [h]
    · simp [h, hb]
    all_goals simp [h]
  · intro p hp
    rcases List.mem_append.mp hp with h | h
    · exact hnI p (List.mem_append_left _ h)
    · obtain ⟨q, hq, e⟩ := inG p h
      rw [← e]; exact hnI q (List.mem_append_right _ hq)
  · intro p hp q hq
    obtain ⟨q', hq', e⟩ := inG q hq
    rw [← e]; exact ap p hp q' hq'
  · simp
  · simp
  · refine GI.nd gi hn (fun p hp q1 q2 => ?_) (by simp) (o' := o') (by simp) (by rw [stored_nil] at hd; exact hd)
    by_cases q : p.1 ∈ [f (2 * i + 1), an, x, d, nv, nd]
    · simp only [List.mem_cons, List.not_mem_nil, or_false] at q
      rcases q with q | q | q | q | q | q
      · exact absurd q q1
      · rw [NG hp mn q]; simp
      · rw [NG hp gi.inst q]; simp
      · exact absurd q q2
      · rw [NG hp mv q]; simp
      · rw [NG hp md q]; simp
    · simp [mem_rms hp q]
end
theorem merged_rows (na nb : Nat) (vs ws : Nat → Value) : merged (rowsFrom 0 na vs) (rowsFrom (na : Int) nb ws) = rows (na + nb) (fun v => if v < na then vs v else ws (v - na)) := by
  have e : rowsFrom 0 na vs ++ rowsFrom (na : Int) nb ws = rows (na + nb) (fun v => if v < na then vs v else ws (v - na)) := by
    unfold rowsFrom rows
    rw [List.range_add, List.map_append, List.map_map]
    congr 1
    · refine List.map_congr_left fun v hv => ?_
      have := List.mem_range.mp hv
      simp [this]
    · refine List.map_congr_left fun v hv => ?_
      have : ¬ na + v < na := by omega
      simp [this]
  rw [← e]
  refine merged_append_of_fresh _ _ ?_
  rw [e]
  unfold rows
  rw [List.map_map]
  refine List.pairwise_map.mpr (List.Pairwise.imp (fun h q => h ?_) (List.nodup_range (n := na + nb)))
  simp only [Function.comp_apply] at q
  omega
end Mine
end
section
set_option maxRecDepth 100000
namespace Mine
open PySem PySem.W PySem.Calls PyProof.Rows PySem.Spec PyProof.V
section
variable {prog : Program} {w : World} {S G G' : List (Addr × Obj)} {x d ag an aa : Nat} {es : List DictEntry} {ne : Nat} {f : Nat → Nat} {n : Nat} {A : Nat → List (Int × Value)} {B : Nat → List (Str × Value)} {gk : List (Str × Value)}
/-- two adjacency dicts change -/
theorem GI.edge (gi : GI prog w G x d ag an aa es ne f n A B gk) {u v : Nat} {ou ov : Obj} {ku kv : List (Int × Value)} (hu : u < n) (hv : v < n) (huv : u ≠ v)
    (hk : ∀ p ∈ G, p.1 ≠ f (2 * u) → p.1 ≠ f (2 * v) → p ∈ G') (hou : (f (2 * u), ou) ∈ G') (hov : (f (2 * v), ov) ∈ G') (bu : ou.IsDictOf (PySem.intKind prog w) ku) (bv : ov.IsDictOf (PySem.intKind prog w) kv) :
    GI prog w G' x d ag an aa es ne f n (fun k => if k = u then ku else if k = v then kv else A k) B gk := by
  have off : ∀ c ∈ [x, d, ag, an, aa], c ≠ f (2 * u) ∧ c ≠ f (2 * v) := fun c hc => ⟨fun e => gi.off (2 * u) (by omega) (e ▸ hc), fun e => gi.off (2 * v) (by omega) (e ▸ hc)⟩
  constructor
  · exact hk _ gi.inst (off x (by simp)).1 (off x (by simp)).2
  · exact hk _ gi.dict (off d (by simp)).1 (off d (by simp)).2
  · obtain ⟨o, h, z⟩ := gi.gr
    exact ⟨o, hk _ h (off ag (by simp)).1 (off ag (by simp)).2, z⟩
  · obtain ⟨o, h, z⟩ := gi.nod
    exact ⟨o, hk _ h (off an (by simp)).1 (off an (by simp)).2, z⟩
  · obtain ⟨o, h, z⟩ := gi.adj
    exact ⟨o, hk _ h (off aa (by simp)).1 (off aa (by simp)).2, z⟩
  · intro k hkn
    by_cases q : k = u
    · subst q
      exact ⟨ou, hou, by simpa using bu⟩
    · by_cases q' : k = v
      · subst q'
        exact ⟨ov, hov, by simpa [q] using bv⟩
      · obtain ⟨o, h, z⟩ := gi.adv k hkn
        exact ⟨o, hk _ h (gi.inj _ _ (by omega) (by omega) (by omega)) (gi.inj _ _ (by omega) (by omega) (by omega)), by simpa [q, q'] using z⟩
  · intro k hkn
    obtain ⟨o, h, z⟩ := gi.ndv k hkn
    exact ⟨o, hk _ h (gi.inj _ _ (by omega) (by omega) (by omega)) (gi.inj _ _ (by omega) (by omega) (by omega)), z⟩
  · exact gi.inj
  · exact gi.off
  · exact gi.dis
  · exact gi.low
  · exact gi.lowf

theorem edge_end {h₀ h' : Heap} {L : Addr} {u v : Nat} {c1 c2 : Addr × Obj} {ou ov on oa : Obj} {R : List (Addr × Obj)} {ku kv : List (Int × Value)}
    (gi : GI prog w G x d ag an aa es ne f n A B gk) (hu : u < n) (hv : v < n) (huv : u ≠ v) (ap : Apart S G) (NG : Uniq G)
    (hR : R = S ++ rms G [f (2 * u), f (2 * v), aa, an, x, d]) (ma : (aa, oa) ∈ G) (mn : (an, on) ∈ G)
    (N : News h₀ L h' (c1 :: c2 :: (f (2 * u), ou) :: (f (2 * v), ov) :: (aa, oa) :: (an, on) :: (x, instObj 617 d) :: (d, dictS es ne) :: R))
    (bu : ou.IsDictOf (PySem.intKind prog w) ku) (bv : ov.IsDictOf (PySem.intKind prog w) kv) :
    ∃ G', News h₀ L h' (S ++ G') ∧ Apart S G' ∧ GI prog w G' x d ag an aa es ne f n (fun k => if k = u then ku else if k = v then kv else A k) B gk := by
  subst hR
  obtain ⟨o0, m0, _⟩ := gi.adv u hu
  obtain ⟨o1, m1, _⟩ := gi.adv v hv
  refine ⟨(f (2 * u), ou) :: (f (2 * v), ov) :: (aa, oa) :: (an, on) :: (x, instObj 617 d) :: (d, dictS es ne) :: rms G [f (2 * u), f (2 * v), aa, an, x, d], ?_, ?_, ?_⟩
  · refine News.perm N fun p hp => ?_
    simp only [List.mem_cons, List.mem_append] at hp ⊢
    rcases hp with h | h | h | h | h | h | h | h <;> simp [h]
  · intro p hp q hq
    have old : ∀ q ∈ G, p.1 ≠ q.1 := fun q hq => ap p hp q hq
    simp only [List.mem_cons] at hq
    rcases hq with h | h | h | h | h | h | h
    · rw [h]; exact (old _ m0 : p.1 ≠ f (2 * u))
    · rw [h]; exact (old _ m1 : p.1 ≠ f (2 * v))
    · rw [h]; exact old _ ma
    · rw [h]; exact old _ mn
    · rw [h]; exact old _ gi.inst
    · rw [h]; exact old _ gi.dict
    · exact old q (rms_sub q h)
  · refine GI.edge gi hu hv huv (fun p hp q1 q2 => ?_) (by simp) (by simp) bu bv
    by_cases q : p.1 ∈ [f (2 * u), f (2 * v), aa, an, x, d]
    · simp only [List.mem_cons, List.not_mem_nil, or_false] at q
      rcases q with q | q | q | q | q | q
      · exact absurd q q1
      · exact absurd q q2
      · rw [NG hp ma q]; simp
      · rw [NG hp mn q]; simp
      · rw [NG hp gi.inst q]; simp
      · rw [NG hp gi.dict q]; simp
    · simp [mem_rms hp q]
end
end Mine
end
section
set_option maxRecDepth 100000
namespace Mine
open PySem PySem.W PySem.Calls PyProof.Rows PySem.Spec PyProof.V
theorem plain_eq_loop : plainId "list.__eq__.loop" = true := by decide +kernel
theorem entry_eq_loop : entryFor table "list.__eq__.loop" = some Builtin.«list.__eq__.loop» := entryFor_of_fast (by kernel_rfl)
/-- a list of two ints -/
abbrev pairObj (a : Int) (ta : Tok) (i : Int) (ti : Tok) (n : Nat) : Obj := listOf #[.int a ta, .int i ti] n
section
variable {prog : Program} {w : World} {A : Around} {E : Value → Shared → Prop} {s : Shared} {R : Result → Shared → Prop}
theorem lt_loop2 {x y : Addr} {a b i j : Int} {ta tb ti tj : Tok} {n k : Nat} (hx : s.heap.get? x = some (pairObj a ta i ti n)) (hy : s.heap.get? y = some (pairObj b tb j tj k))
    (h : R (.ok (.ret (.bool false))) s) : codeAny (model prog w) A (.builtin "list.__eq__.loop" ⟨[.ref x, .ref y, .int 2 0, rawInt 0], []⟩) R s := by
  refine codeAny_builtin entry_eq_loop ?_
  rw [Around.under_plainId plain_eq_loop _]
  show wpAny _ _ (Builtin.List.listItems (.ref x) >>= _) _ _ _
  refine wpAny_bind (listItems_at hx rfl ?_)
  refine wpAny_bind (listItems_at hy rfl ?_)
  show wpAny _ _ (Builtin.List.listItems (.ref x) >>= _) _ _ _
  refine wpAny_bind (listItems_at hx rfl ?_)
  refine wpAny_bind (listItems_at hy rfl ?_)
  exact wpAny_pure h
theorem lt_loop1 {x y : Addr} {a b i j : Int} {ta tb ti tj : Tok} {n k : Nat} (hx : s.heap.get? x = some (pairObj a ta i ti n)) (hy : s.heap.get? y = some (pairObj b tb j tj k))
    (h : R (.ok (.ret (.bool (decide (i < j))))) s) : codeAny (model prog w) A (.builtin "list.__eq__.loop" ⟨[.ref x, .ref y, .int 1 0, rawInt 0], []⟩) R s := by
  refine codeAny_builtin entry_eq_loop ?_
  rw [Around.under_plainId plain_eq_loop _]
  show wpAny _ _ (Builtin.List.listItems (.ref x) >>= _) _ _ _
  refine wpAny_bind (listItems_at hx rfl ?_)
  refine wpAny_bind (listItems_at hy rfl ?_)
  show wpAny _ _ (eqBool (.int i ti) (.int j tj) >>= _) _ _ _
  refine wpAny_bind (wpAny_eqBool_int ?_)
  by_cases q : i = j
  · subst q
    rw [show (i == i) = true by simp]
    refine wpAny_pure ⟨plainId_quiet plain_eq_loop _, lt_loop2 hx hy ?_⟩
    simpa using h
  · rw [show (i == j) = false by simp [q]]
    simp only [Bool.false_eq_true, if_false]
    refine wpAny_bind (listItems_at hx rfl ?_)
    refine wpAny_bind (listItems_at hy rfl ?_)
    show wpAny _ _ (compareOp .Lt (.int i ti) (.int j tj) >>= _) _ _ _
    exact wpAny_bind (wpAny_lt_int (wpAny_pure h))
theorem lt_loop {x y : Addr} {a b i j : Int} {ta tb ti tj : Tok} {n k : Nat} (hx : s.heap.get? x = some (pairObj a ta i ti n)) (hy : s.heap.get? y = some (pairObj b tb j tj k))
    (h : R (.ok (.ret (.bool (decide (a < b ∨ (a = b ∧ i < j)))))) s) : codeAny (model prog w) A (.builtin "list.__eq__.loop" ⟨[.ref x, .ref y, rawInt 0, rawInt 0], []⟩) R s := by
  refine codeAny_builtin entry_eq_loop ?_
  rw [Around.under_plainId plain_eq_loop _]
  show wpAny _ _ (Builtin.List.listItems (.ref x) >>= _) _ _ _
  refine wpAny_bind (listItems_at hx rfl ?_)
  refine wpAny_bind (listItems_at hy rfl ?_)
  show wpAny _ _ (eqBool (.int a ta) (.int b tb) >>= _) _ _ _
  refine wpAny_bind (wpAny_eqBool_int ?_)
  by_cases q : a = b
  · subst q
    rw [show (a == a) = true by simp]
    refine wpAny_pure ⟨plainId_quiet plain_eq_loop _, lt_loop1 hx hy ?_⟩
    simpa using h
  · rw [show (a == b) = false by simp [q]]
    simp only [Bool.false_eq_true, if_false]
    refine wpAny_bind (listItems_at hx rfl ?_)
    refine wpAny_bind (listItems_at hy rfl ?_)
    show wpAny _ _ (compareOp .Lt (.int a ta) (.int b tb) >>= _) _ _ _
    exact wpAny_bind (wpAny_lt_int (wpAny_pure (by simpa [q] using h)))
theorem pair_lt {x y : Addr} {a b i j : Int} {ta tb ti tj : Tok} {n k : Nat} {Q : Bool → Shared → Prop} (hu : A.units < cLine) (hx : s.heap.get? x = some (pairObj a ta i ti n)) (hy : s.heap.get? y = some (pairObj b tb j tj k))
    (h : Q (decide (a < b ∨ (a = b ∧ i < j))) s) : wpAny (model prog w) A (keyLt' oneType' (.ref x) (.ref y)) Q E s := by
  rw [keyLt'_oneType, oneLt'_eq]
  simp only [if_true]
  refine wpAny_bind (wpAny_cRoomFor hu ?_)
  have hT : s.TypeIs (.ref x) "list" := ⟨_, hx, rfl⟩
  refine wpAny_bind (wpAny_callSpecialIfBound?_slot hT PySem.F.slot_list_lt ?_)
  have hTy : s.TypeIs (.ref y) "list" := ⟨_, hy, rfl⟩
  refine wpAny_call (codeAny_call_builtin PySem.F.slot_list_lt.plain PySem.F.entry_list_lt (PySem.F.slot_list_lt.check _ _ _ _ _ _ _ _ hT (PySem.F.args_list_lt_2 _ _) ?_))
  show wpAny _ _ (isInstance (.ref y) (.type "list") >>= _) _ _ _
  refine wpAny_bind (wpAny_isInstance (b := true) hTy (by rw [isSubtype_type]; kernel_rfl) ?_)
  refine wpAny_pure ⟨plainId_quiet plain_eq_loop _, lt_loop hx hy ?_⟩
  exact wpAny_truthy_bool h
end
end Mine
end
section
set_option maxRecDepth 100000
namespace Mine
open PySem PySem.W PySem.Calls PyProof.Rows PySem.Spec PyProof.V

/-- the way through a tree of questions, answered by a table -/
def runN {α : Type} (n : Nat) (q : Nat → Nat → Bool) : KasT α → Option α
  | .ret a => some a
  | .ask i j k => if i < n ∧ j < n then runN n q (k (q i j)) else none
theorem runN_congr {α : Type} {n : Nat} {q q' : Nat → Nat → Bool} (h : ∀ i j, i < n → j < n → q i j = q' i j) : ∀ t : KasT α, runN n q t = runN n q' t
  | .ret _ => rfl
  | .ask i j k => by
    unfold runN
    by_cases c : i < n ∧ j < n
    · rw [if_pos c, if_pos c, h i j c.1 c.2]
      exact runN_congr h _
    · rw [if_neg c, if_neg c]
theorem kasWp_run {α : Type} {n : Nat} {q : Nat → Nat → Bool} {cmp : Nat → Nat → (Bool → Shared → Prop) → Shared → Prop} {s : Shared} (h : ∀ i j, i < n → j < n → ∀ C : Bool → Shared → Prop, C (q i j) s → cmp i j C s) {Q : α → Shared → Prop} {a : α} (hQ : Q a s) :
    ∀ t : KasT α, runN n q t = some a → t.kasWp cmp Q s
  | .ret b, e => by
    have : b = a := Option.some.inj e
    subst this
    exact hQ
  | .ask i j k, e => by
    unfold runN at e
    by_cases c : i < n ∧ j < n
    · rw [if_pos c] at e
      exact h i j c.1 c.2 _ (kasWp_run h hQ _ e)
    · rw [if_neg c] at e; cases e

def rkTable (R : List Nat) (i j : Nat) : Bool := decide (R.getD i 0 < R.getD j 0)
def kasGood (n : Nat) (R : List Nat) : Bool := match runN n (rkTable R) (kas_sort n) with
  | some p => p.toList.isPerm (List.range n) && decide (p.toList.Pairwise fun i j => rkTable R i j = true)
  | none => false
def lists (n : Nat) : Nat → List (List Nat)
  | 0 => [[]]
  | m + 1 => (lists n m).flatMap fun r => (List.range n).map fun x => x :: r
theorem mem_lists {n : Nat} : ∀ {m : Nat} {r : List Nat}, r.length = m → (∀ x ∈ r, x < n) → r ∈ lists n m
  | 0, r, h, _ => by rw [List.length_eq_zero_iff.mp h]; exact List.mem_singleton.mpr rfl
  | m + 1, [], h, _ => by simp at h
  | m + 1, x :: r, h, hx => by
    show _ ∈ (lists n m).flatMap _
    rw [List.mem_flatMap]
    exact ⟨r, mem_lists (by simpa using h) fun y hy => hx y (List.mem_cons_of_mem _ hy), List.mem_map.mpr ⟨x, List.mem_range.mpr (hx x List.mem_cons_self), rfl⟩⟩
def allGood (n : Nat) : Bool := (lists n n).all fun R => !(decide R.Nodup) || kasGood n R
theorem allGood5 : ((List.range 6).all allGood) = true := by decide +kernel
theorem good_of {n : Nat} (hn : n ≤ 5) {R : List Nat} (hl : R.length = n) (hx : ∀ x ∈ R, x < n) (hd : R.Nodup) : kasGood n R = true := by
  have h1 := List.all_eq_true.mp allGood5 n (List.mem_range.mpr (by omega))
  have h2 := List.all_eq_true.mp h1 R (mem_lists hl hx)
  simpa [hd] using h2

/-- a tree of questions sorts at most five things -/
theorem sort_runs {n : Nat} (hn : n ≤ 5) (q : Nat → Nat → Bool) (irr : ∀ i, q i i = false) (tr : ∀ i j k, q i j = true → q j k = true → q i k = true) (tot : ∀ i j, i < n → j < n → i ≠ j → q i j = true ∨ q j i = true) :
    ∃ p : Array Nat, runN n q (kas_sort n) = some p ∧ p.toList.Perm (List.range n) ∧ p.toList.Pairwise fun i j => q i j = true := by
  let rk : Nat → Nat := fun i => (List.range n).countP fun j => q j i
  have mono : ∀ i j, i < n → j < n → q i j = true → rk i < rk j := by
    intro i j hi hj h
    show List.countP _ _ < List.countP _ _
    have key : ∀ l : List Nat, i ∈ l → List.countP (fun k => q k i) l < List.countP (fun k => q k j) l := by
      intro l
      have le : ∀ l : List Nat, List.countP (fun k => q k i) l ≤ List.countP (fun k => q k j) l := fun l => List.countP_mono_left fun k _ hk => tr k i j hk h
      induction l with
      | nil => intro hm; exact nomatch hm
      | cons y l ih =>
        intro hm
        rw [List.countP_cons, List.countP_cons]
        rcases List.mem_cons.mp hm with e | hm
        · subst e
          rw [irr i, h]
          have := le l
          simp
          omega
        · have a := ih hm
          have b : q y i = true → q y j = true := fun hk => tr y i j hk h
          cases q1 : q y i <;> cases q2 : q y j <;> simp_all
          omega
    exact key _ (List.mem_range.mpr hi)
  have iff : ∀ i j, i < n → j < n → q i j = decide (rk i < rk j) := by
    intro i j hi hj
    cases h : q i j with
    | true => exact (decide_eq_true (mono i j hi hj h)).symm
    | false =>
      refine (decide_eq_false ?_).symm
      by_cases e : i = j
      · subst e; omega
      · rcases tot i j hi hj e with h' | h'
        · rw [h] at h'; cases h'
        · have := mono j i hj hi h'
          omega
  have hlt : ∀ i, i < n → rk i < n := by
    intro i hi
    have : List.countP (fun j => q j i) (List.range n) ≠ (List.range n).length := by
      intro e
      have := List.countP_eq_length.mp e i (List.mem_range.mpr hi)
      rw [irr i] at this; cases this
    have le := List.countP_le_length (p := fun j => q j i) (l := List.range n)
    rw [List.length_range] at this le
    show List.countP _ _ < n
    omega
  let R := (List.range n).map rk
  have hR : ∀ i, i < n → R.getD i 0 = rk i := fun i hi => by simp [R, hi]
  have inj : R.Nodup := by
    show ((List.range n).map rk).Nodup
    rw [List.Nodup, List.pairwise_map]
    refine List.Pairwise.imp_of_mem ?_ (List.nodup_range (n := n))
    intro i j hi hj ne e
    rcases tot i j (List.mem_range.mp hi) (List.mem_range.mp hj) ne with h | h
    · have := mono i j (List.mem_range.mp hi) (List.mem_range.mp hj) h; omega
    · have := mono j i (List.mem_range.mp hj) (List.mem_range.mp hi) h; omega
  have g := good_of hn (R := R) (by simp [R]) (fun x hx => by
    obtain ⟨i, hi, rfl⟩ := List.mem_map.mp hx
    exact hlt i (List.mem_range.mp hi)) inj
  have ct : ∀ i j, i < n → j < n → rkTable R i j = q i j := fun i j hi hj => by
    unfold rkTable
    rw [hR i hi, hR j hj, iff i j hi hj]
  unfold kasGood at g
  rw [runN_congr ct] at g
  cases e : runN n q (kas_sort n) with
  | none => rw [e] at g; cases g
  | some p =>
    rw [e] at g
    simp only [Bool.and_eq_true] at g
    have hp := List.isPerm_iff.mp g.1
    refine ⟨p, rfl, hp, ?_⟩
    refine List.Pairwise.imp_of_mem ?_ (of_decide_eq_true g.2)
    intro i j hi hj h
    rwa [ct i j (List.mem_range.mp (hp.mem_iff.mp hi)) (List.mem_range.mp (hp.mem_iff.mp hj))] at h
end Mine
end
section
set_option maxRecDepth 100000
namespace Mine
open PySem PySem.W PySem.Calls PyProof.Rows PySem.Spec PyProof.V
section
variable {prog : Program} {w : World} {A : Around} {E : Value → Shared → Prop} {s : Shared} {h₀ : Heap} {L : Addr} {m : Str → Option Value} {news : List (Addr × Obj)}

theorem updF_back {d : Addr} {o : Obj} : ∀ {pre post : List (Addr × Obj)}, (∀ p ∈ pre, p.1 ≠ d) → (∀ p ∈ post, p.1 ≠ d) → UpdF d o (pre ++ (d, o) :: post) (fun o' => pre ++ (d, o') :: post)
  | [], _, _, h => .head h
  | p :: pre, _, h1, h => .tail (h1 p List.mem_cons_self) (updF_back (fun q hq => h1 q (List.mem_cons_of_mem _ hq)) h)
theorem nodup_at {l : List Nat} (hd : l.Nodup) {i j : Nat} (hi : i < l.length) (hj : j < l.length) (e : l[i] = l[j]) : i = j := by
  have := List.pairwise_iff_getElem.mp hd
  rcases Nat.lt_trichotomy i j with h | h | h
  · exact absurd e (this i j hi hj h)
  · exact h
  · exact absurd e.symm (this j i hj hi h)
theorem range_getD : ∀ (l : List Nat), (List.range l.length).map (fun i => l.getD i 0) = l := by
  intro l
  apply List.ext_getElem
  · simp
  · intro i h1 h2
    simp [h2]

/-- list.sort over no item or one -/
theorem sort_few {D : Addr} {its : Array Value} {n : Nat} {g : Obj → List (Addr × Obj)} {Q : Value → Shared → Prop} (F : Fr h₀ L s.heap m) (N : News h₀ L s.heap news) (U : UpdF D (listOf its n) news g) (h2 : its.size < 2)
    (h : ∀ c h', Fr h₀ L h' m → News h₀ L h' (g (listOf its c)) → Q .none { s with heap := h' }) :
    wpAny (model prog w) A (call (.builtin "list.sort") [.ref D]) Q E s := by
  obtain ⟨pre, post, e0, hg, x1, x2⟩ := U.split
  rw [e0] at N
  have nz := N (D, listOf its n) (List.mem_append_right _ (.head _))
  have ho : s.heap.get? D = some (seqObj "list" its n) := nz.1
  have hDL : D ≠ L := nz.2.1
  refine wpAny_call_entry slot_list_sort ⟨_, nz.1, rfl⟩ entry_list_sort ?_ (args_list_sort _)
  rw [list_sort_plain]
  have ha : D < s.heap.objs.size := Heap.lt_size ho
  refine wpAny_bind (listItems_at ho rfl ?_)
  refine wpAny_bind (listUpdate_at ho rfl ?_ (by rw [sizeLine_eq]; omega) (Nat.zero_le _))
  obtain ⟨e1, ho1⟩ : ∃ e1, (s.heap.update D (Obj.mapSeq fun _ => (#[] : Array Value))).get? D = some (seqObj "list" #[] e1) := ⟨_, get?_update_seq ho fun _ => #[]⟩
  refine wpAny_bind (seqEpoch_at ho1 rfl ?_)
  refine wpAny_bind (wpAny_newTuple ?_ (by rw [Array.length_toList, sizeLine_eq]; omega))
  refine wpAny_bind (wpAny_newList ?_ (Nat.zero_le _))
  refine wpAny_holding ?_
  have ho6 : (((s.heap.update D (Obj.mapSeq fun _ => (#[] : Array Value))).push (seqObj "tuple" its.toList.toArray 0)).push (seqObj "list" #[] 0)).get? D = some (seqObj "list" #[] e1) := by
    rw [Heap.get?_push_ne _ _ _ (by rw [size_push', Heap.size_update]; exact Nat.ne_of_lt (Nat.lt_succ_of_lt ha)), Heap.get?_push_ne _ _ _ (by rw [Heap.size_update]; exact Nat.ne_of_lt ha)]
    exact ho1
  show wpAny (model prog w) A.in1 _ _ E { s with heap := ((s.heap.update D (Obj.mapSeq fun _ => (#[] : Array Value))).push (seqObj "tuple" its.toList.toArray 0)).push (seqObj "list" #[] 0) }
  dsimp only
  rw [if_pos h2, if_pos h2]
  refine wpAny_bind (wpAny_pure ?_)
  rw [StateT.run_pure]
  refine wpAny_bind (wpAny_pure ?_)
  dsimp only
  have hout : (arrOf (SortSt.mk' general' (its.zip its) #[] 7 none)).map (·.2) = its := by
    show (its.zip its).map (·.2) = its
    apply Array.ext
    · simp
    · intro i h1 h2; simp
  rw [hout]
  refine wpAny_bind (seqEpoch_at ho6 rfl ?_)
  refine wpAny_bind (listUpdate_at ho6 rfl ?_ (Nat.zero_le _) (by rw [sizeLine_eq]; omega))
  simp only [bne_self_eq_false, Bool.false_eq_true, if_false]
  have s2 := Heap.SameBut.update (((s.heap.update D (Obj.mapSeq fun _ => (#[] : Array Value))).push (seqObj "tuple" its.toList.toArray 0)).push (seqObj "list" #[] 0)) D (Obj.mapSeq fun _ => its)
  have s1 := Heap.SameBut.update s.heap D (Obj.mapSeq fun _ => (#[] : Array Value))
  obtain ⟨c2, hc2⟩ : ∃ c2, ((((s.heap.update D (Obj.mapSeq fun _ => (#[] : Array Value))).push (seqObj "tuple" its.toList.toArray 0)).push (seqObj "list" #[] 0)).update D (Obj.mapSeq fun _ => its)).get? D = some (seqObj "list" its c2) := ⟨_, get?_update_seq ho6 fun _ => its⟩
  have N₀ : News h₀ L s.heap (pre ++ post) := fun p hp => N p ((List.mem_append.mp hp).elim (fun q => List.mem_append_left _ q) fun q => List.mem_append_right _ (.tail _ q))
  have hna : ∀ p ∈ pre ++ post, p.1 ≠ D := fun p hp => (List.mem_append.mp hp).elim (x1 p) (x2 p)
  have F2 := kas_fr (((kas_fr F s1 hDL nz.2.2).push (seqObj "tuple" its.toList.toArray 0)).push (seqObj "list" #[] 0)) s2 hDL nz.2.2
  have N2 := kas_news ((kas_news N₀ s1 hna).grown (h' := ((s.heap.update D (Obj.mapSeq fun _ => (#[] : Array Value))).push (seqObj "tuple" its.toList.toArray 0)).push (seqObj "list" #[] 0)) fun b x e => Heap.get?_push_of_some _ (Heap.get?_push_of_some _ e)) s2 hna
  refine wpAny_pure ⟨_, rfl, h c2 _ F2 ?_⟩
  rw [hg]
  intro p hp
  rcases List.mem_append.mp hp with hp | hp
  · exact N2 p (List.mem_append_left _ hp)
  · rcases List.mem_cons.mp hp with rfl | hp
    · exact ⟨hc2, hDL, nz.2.2⟩
    · exact N2 p (List.mem_append_right _ hp)

/-- the items of a list of stubs: the pair of node v lies at P v -/
abbrev refsOf (P : Nat → Nat) (l : List Nat) : Array Value := (l.map fun v => Value.ref (P v)).toArray
/-- the pairs' order -/
abbrev stubLt (e : Nat → Int) (u v : Nat) : Prop := e u < e v ∨ (e u = e v ∧ u < v)
theorem stubLt_tr {e : Nat → Int} {u v x : Nat} (h1 : stubLt e u v) (h2 : stubLt e v x) : stubLt e u x := by
  unfold stubLt at *
  omega
/-- the pairs of some nodes in a ledger -/
def Stubs (S : List (Addr × Obj)) (P : Nat → Nat) (e : Nat → Int) (l : List Nat) : Prop := ∀ v ∈ l, ∃ t t' n, (P v, pairObj (e v) t (v : Int) t' n) ∈ S

theorem sort_stubs {D : Addr} {P : Nat → Nat} {e : Nat → Int} {l : List Nat} {n : Nat} {g : Obj → List (Addr × Obj)} {Q : Value → Shared → Prop} (hu : A.in1.units < cLine) (F : Fr h₀ L s.heap m) (N : News h₀ L s.heap news) (U : UpdF D (listOf (refsOf P l) n) news g)
    (hl : l.length ≤ 5) (hd : l.Nodup) (hS : Stubs news P e l)
    (h : ∀ l' c h', l'.Perm l → l'.Pairwise (stubLt e) → Fr h₀ L h' m → News h₀ L h' (g (listOf (refsOf P l') c)) → Q .none { s with heap := h' }) :
    wpAny (model prog w) A (call (.builtin "list.sort") [.ref D]) Q E s := by
  obtain ⟨pre, post, e0, hgg, x1, x2⟩ := U.split
  have hSD : ∀ v ∈ l, ∀ h' (o : Obj), News h₀ L h' (g o) → ∃ t t' n, h'.get? (P v) = some (pairObj (e v) t (v : Int) t' n) := by
    intro v hv h' o N'
    obtain ⟨t, t', k, hm⟩ := hS v hv
    have hne : (P v, pairObj (e v) t (v : Int) t' k) ∈ pre ++ (D, o) :: post ∨ P v = D := by
      rw [e0] at hm
      rcases List.mem_append.mp hm with q | q
      · exact .inl (List.mem_append_left _ q)
      · rcases List.mem_cons.mp q with q | q
        · exact .inr (congrArg Prod.fst q)
        · exact .inl (List.mem_append_right _ (List.mem_cons_of_mem _ q))
    rcases hne with q | q
    · rw [← hgg] at q
      exact ⟨t, t', k, (N' _ q).1⟩
    · exfalso
      have a := (N _ hm).1
      have b := (N (D, listOf (refsOf P l) n) (by rw [e0]; exact List.mem_append_right _ List.mem_cons_self)).1
      rw [q, b] at a
      have a := Option.some.inj a
      simp only [Obj.mk.injEq, true_and, Data.seq.injEq] at a
      have a1 := congrArg (fun x : Array Value => x[0]?) a.1.1
      simp only [List.getElem?_toArray, List.getElem?_map] at a1
      cases hl0 : l[0]? with
      | none => rw [hl0] at a1; simp at a1
      | some z => rw [hl0] at a1; simp at a1
  by_cases h2 : l.length < 2
  · refine sort_few F N U (by simpa using h2) fun c h' F' N' => h l c h' (.refl _) ?_ F' N'
    match l, h2 with
    | [], _ => exact List.Pairwise.nil
    | [_], _ => exact List.pairwise_singleton _ _
    | _ :: _ :: _, h2 => simp only [List.length_cons] at h2; omega
  · have hvs : (refsOf P l).toList = l.map fun v => Value.ref (P v) := rfl
    refine kas_lsort (T := .type "list") F N U hvs (by rw [List.length_map]; omega) (by rw [List.length_map]; omega) (fun e1 h' F' N' v hv => ?_) (by decide +kernel) fun e1 h' F' N' => ?_
    · obtain ⟨u, hu', rfl⟩ := List.mem_map.mp hv
      obtain ⟨t, t', k, ho⟩ := hSD u hu' _ _ N'
      exact (Looks.ld ho).andThen .now
    · let q : Nat → Nat → Bool := fun i j => decide (stubLt e (l.getD i 0) (l.getD j 0))
      have hg : ∀ i (hi : i < l.length), l.getD i 0 = l[i] := fun i hi => by simp [hi]
      have hdist : ∀ i j, i < l.length → j < l.length → i ≠ j → l.getD i 0 ≠ l.getD j 0 := fun i j hi hj ne e' => by
        rw [hg i hi, hg j hj] at e'
        exact ne (nodup_at hd hi hj e')
      obtain ⟨p, hrun, hperm, hsort⟩ := sort_runs hl q (fun i => decide_eq_false (by unfold stubLt; omega)) (fun i j k h1 h2 => decide_eq_true (stubLt_tr (of_decide_eq_true h1) (of_decide_eq_true h2)))
        (fun i j hi hj ne => by
          have := hdist i j hi hj ne
          have : stubLt e (l.getD i 0) (l.getD j 0) ∨ stubLt e (l.getD j 0) (l.getD i 0) := by
            unfold stubLt; omega
          rcases this with h | h
          · exact .inl (decide_eq_true h)
          · exact .inr (decide_eq_true h))
      have hlen : (l.map fun v => Value.ref (P v)).length = l.length := List.length_map _
      rw [hlen]
      refine kasWp_run (n := l.length) (q := q) (fun i j hi hj C hC => ?_) ?_ _ hrun
      · have e1 : (l.map fun v => Value.ref (P v)).getD i Value.none = .ref (P (l.getD i 0)) := by simp [hi]
        have e2 : (l.map fun v => Value.ref (P v)).getD j Value.none = .ref (P (l.getD j 0)) := by simp [hj]
        have m1 : l.getD i 0 ∈ l := by rw [hg i hi]; exact List.getElem_mem _
        have m2 : l.getD j 0 ∈ l := by rw [hg j hj]; exact List.getElem_mem _
        obtain ⟨t1, t1', k1, o1⟩ := hSD _ m1 h' _ N'
        obtain ⟨t2, t2', k2, o2⟩ := hSD _ m2 h' _ N'
        unfold kas_ask
        rw [e1, e2]
        refine pair_lt hu o1 o2 ?_
        have : decide (e (l.getD i 0) < e (l.getD j 0) ∨ (e (l.getD i 0) = e (l.getD j 0) ∧ ((l.getD i 0 : Nat) : Int) < ((l.getD j 0 : Nat) : Int))) = q i j := by
          show _ = decide (stubLt _ _ _)
          unfold stubLt
          simp only [Int.ofNat_lt]
        rw [this]
        exact hC
      · have N2 := N'
        rw [hgg] at N2
        refine KasFin.intro F' N2 (updF_back x1 x2) fun h2 c F2 N2 => ?_
        have hpl : p.toList.map (fun i => (l.map fun v => Value.ref (P v)).getD i Value.none) = (p.toList.map fun i => l.getD i 0).map fun v => Value.ref (P v) := by
          rw [List.map_map]
          refine List.map_congr_left fun i hi => ?_
          have hi : i < l.length := List.mem_range.mp (hperm.mem_iff.mp hi)
          simp [hi]
        rw [hpl] at N2
        refine h (p.toList.map fun i => l.getD i 0) c h2 ?_ ?_ F2 (by rw [hgg]; exact N2)
        · refine (hperm.map fun i => l.getD i 0).trans ?_
          rw [range_getD]
        · rw [List.pairwise_map]
          exact hsort.imp fun h => of_decide_eq_true h
end
end Mine
end
section
set_option maxRecDepth 100000
namespace Mine
open PySem PySem.W PySem.Calls PyProof.Rows PySem.Spec PyProof.V PySem.MeetsSeq
section
variable {prog : Program} {w : World} {A : Around} {E : Value → Shared → Prop} {s : Shared} {h₀ : Heap} {L : Addr} {m : Str → Option Value} {news : List (Addr × Obj)}

theorem ints2 (a i : Int) (ta ti : Tok) : IntsAre [Value.int a ta, .int i ti] [a, i] := .cons _ _ (.cons _ _ .nil)

theorem eq_pairs {x y : Addr} {a b i j : Int} {ta tb ti tj : Tok} {n k : Nat} {Q : Bool → Shared → Prop} (hu : A.units + 64 < cLine) (hx : s.heap.get? x = some (pairObj a ta i ti n)) (hy : s.heap.get? y = some (pairObj b tb j tj k)) (hij : i ≠ j)
    (h : Q false s) : wpAny (model prog w) A (eqBool (.ref x) (.ref y)) Q E s := by
  have hne : x ≠ y := by
    intro e
    subst e
    rw [hx] at hy
    have hy := Option.some.inj hy
    simp only [Obj.mk.injEq, true_and, Data.seq.injEq, Array.mk.injEq, List.cons.injEq, Value.int.injEq, and_true] at hy
    exact hij hy.1.2.1
  unfold eqBool
  refine wpAny_holding ?_
  have e1 : ((Value.ref x) == (Value.ref y)) = false := by
    simp [hne]
  simp only [e1, Bool.false_eq_true, if_false]
  refine wpAny_bind ?_
  refine eq_intsK (vs := [.int a ta, .int i ti]) (us := [.int b tb, .int j tj]) ⟨_, hx, rfl, _, rfl⟩ (ints2 _ _ _ _) ⟨_, hy, rfl, _, rfl⟩ (ints2 _ _ _ _) hu ?_
  rw [decide_eq_false (by simp; exact fun _ => hij)]
  show wpAny _ _ (truthy (Value.bool false)) _ _ _
  exact wpAny_truthy_bool h

theorem eq_self {x : Addr} {Q : Bool → Shared → Prop} (h : Q true s) : wpAny (model prog w) A (eqBool (.ref x) (.ref x)) Q E s := by
  unfold eqBool
  refine wpAny_holding ?_
  simp only [beq_self_eq_true, if_true]
  exact wpAny_bind (wpAny_rule (wpAny_pure h))

theorem remL {D : Addr} {items : Array Value} {n : Nat} {x : Value} {e : Nat → Bool} {R : Result → Shared → Prop} (hl : s.heap.get? D = some (listOf items n))
    (he : ∀ i (hi : i < items.size) (E : Value → Shared → Prop) (Q : Bool → Shared → Prop), Q (e i) s → wpAny (model prog w) A.in1 (eqBool items[i] x) Q E s) {j : Nat} (hj : j < items.size) (hit : e j = true) (hno : ∀ i, i < j → e i = false) (hs1 : items.size ≤ sizeLine)
    (h : R (.ok (.ret .none)) { s with heap := s.heap.update D (Obj.mapSeq fun xs => xs.eraseIdxIfInBounds j) }) :
    ∀ k i, j - i = k → i ≤ j → codeAny (model prog w) A (.builtin "list.remove.loop" ⟨[.ref D, x, rawInt (i : Nat)], []⟩) R s := by
  intro k
  induction k with
  | zero =>
    intro i hk hij
    have hij' : i = j := by omega
    subst hij'
    refine codeAny_builtin entry_remove_loop ?_
    rw [Around.under_plainId plain_remove_loop _]
    show wpAny _ _ (Builtin.List.listItems (.ref D) >>= _) _ _ _
    refine wpAny_bind (listItems_at hl rfl ?_)
    have hi : items[((i : Nat) : Int).toNat]? = some items[i] := by simp [hj]
    rw [hi]
    refine wpAny_bind (he i hj _ _ ?_)
    rw [hit]
    simp only [if_true]
    exact wpAny_bind (listUpdate_at hl rfl (wpAny_pure h) hs1 (Nat.le_trans (size_erased items _) (Nat.le_succ_of_le hs1)))
  | succ k ih =>
    intro i hk hij
    have hlt : i < items.size := by omega
    refine codeAny_builtin entry_remove_loop ?_
    rw [Around.under_plainId plain_remove_loop _]
    show wpAny _ _ (Builtin.List.listItems (.ref D) >>= _) _ _ _
    refine wpAny_bind (listItems_at hl rfl ?_)
    have hi : items[((i : Nat) : Int).toNat]? = some items[i] := by simp [hlt]
    have hc : ((i : Int) + 1) = ((i + 1 : Nat) : Int) := by push_cast; rfl
    rw [hi]
    refine wpAny_bind (he i hlt _ _ ?_)
    rw [hno i (by omega)]
    simp only [Bool.false_eq_true, if_false]
    rw [hc]
    exact wpAny_pure ⟨plainId_quiet plain_remove_loop _, ih (i + 1) (by omega) (by omega)⟩

theorem remove_at {D : Addr} {items : Array Value} {n : Nat} {x : Value} {e : Nat → Bool} {g : Obj → List (Addr × Obj)} {Q : Value → Shared → Prop} (F : Fr h₀ L s.heap m) (N : News h₀ L s.heap news) (U : UpdF D (listOf items n) news g)
    (he : ∀ i (hi : i < items.size) (E : Value → Shared → Prop) (Q : Bool → Shared → Prop), Q (e i) s → wpAny (model prog w) A.in1 (eqBool items[i] x) Q E s) {j : Nat} (hj : j < items.size) (hit : e j = true) (hno : ∀ i, i < j → e i = false) (hs1 : items.size ≤ sizeLine)
    (h : ∀ h' c, Fr h₀ L h' m → News h₀ L h' (g (listOf (items.eraseIdxIfInBounds j) c)) → Q .none { s with heap := h' }) :
    wpAny (model prog w) A (call (.builtin "list.remove") [.ref D, x]) Q E s := by
  obtain ⟨pre, post, e0, hg, x1, x2⟩ := U.split
  rw [e0] at N
  have z := N (D, listOf items n) (List.mem_append_right _ (.head _))
  refine wpAny_call (codeAny_call_builtin PySem.F.slot_list_remove.plain PySem.F.entry_list_remove (PySem.F.slot_list_remove.check _ _ _ _ _ _ _ _ ⟨_, z.1, rfl⟩ (PySem.F.args_list_remove_2 _ _) ?_))
  show wpAny _ _ (again (.builtin "list.remove.loop" ⟨[.ref D, x, rawInt (0 : Nat)], []⟩)) _ _ _
  refine wpAny_pure ⟨plainId_quiet plain_remove_loop _, remL z.1 he hj hit hno hs1 ?_ j 0 (by omega) (by omega)⟩
  have s1 := Heap.SameBut.update s.heap D (Obj.mapSeq fun xs => xs.eraseIdxIfInBounds j)
  obtain ⟨c, hc⟩ : ∃ c, (s.heap.update D (Obj.mapSeq fun xs => xs.eraseIdxIfInBounds j)).get? D = some (listOf (items.eraseIdxIfInBounds j) c) := ⟨_, get?_update_seq z.1 fun xs => xs.eraseIdxIfInBounds j⟩
  refine h _ c (kas_fr F s1 z.2.1 z.2.2) ?_
  rw [hg]
  exact news_set N x1 x2 s1 hc

theorem eraseIdx_mapN {α β : Type} (f : α → β) : ∀ (l : List α) (i : Nat), (l.map f).eraseIdx i = (l.eraseIdx i).map f
  | [], _ => by simp
  | _ :: _, 0 => rfl
  | _ :: l, i + 1 => by simp [eraseIdx_mapN f l i]
theorem eraseIdx_refs (P : Nat → Nat) : ∀ (l : List Nat) (v : Nat), v ∈ l → (refsOf P l).eraseIdxIfInBounds (l.idxOf v) = refsOf P (l.erase v) := by
  intro l v hv
  have hlt : l.idxOf v < l.length := List.idxOf_lt_length_of_mem hv
  apply Array.toList_inj.mp
  rw [Array.toList_eraseIdxIfInBounds]
  show (l.map fun v => Value.ref (P v)).eraseIdx (l.idxOf v) = (l.erase v).map _
  rw [List.erase_eq_eraseIdx_of_idxOf rfl, eraseIdx_mapN]

theorem remove_stub {D : Addr} {P : Nat → Nat} {e : Nat → Int} {l : List Nat} {n v : Nat} {g : Obj → List (Addr × Obj)} {Q : Value → Shared → Prop} (hu : A.in1.units + 64 < cLine) (F : Fr h₀ L s.heap m) (N : News h₀ L s.heap news) (U : UpdF D (listOf (refsOf P l) n) news g)
    (hl : l.length ≤ 60) (hS : Stubs news P e l) (hv : v ∈ l)
    (h : ∀ h' c, Fr h₀ L h' m → News h₀ L h' (g (listOf (refsOf P (l.erase v)) c)) → Q .none { s with heap := h' }) :
    wpAny (model prog w) A (call (.builtin "list.remove") [.ref D, .ref (P v)]) Q E s := by
  have hlt : l.idxOf v < l.length := List.idxOf_lt_length_of_mem hv
  have hsz : (refsOf P l).size = l.length := by simp
  have hat : ∀ i (hi : i < (refsOf P l).size), (refsOf P l)[i] = .ref (P (l[i]'(by rw [← hsz]; exact hi))) := fun i hi => by simp
  obtain ⟨tv, tv', kv, mv⟩ := hS v hv
  refine remove_at (e := fun i => decide (l[i]? = some v)) F N U (fun i hi E Q hq => ?_) (j := l.idxOf v) (by rw [hsz]; exact hlt) ?_ ?_ (by rw [hsz, sizeLine_eq]; omega) (fun h' c F' N' => ?_)
  · have hi' : i < l.length := by rw [← hsz]; exact hi
    rw [hat i hi]
    by_cases q : l[i] = v
    · have : decide (l[i]? = some v) = true := by simp [hi', q]
      rw [this] at hq
      rw [q]
      exact eq_self hq
    · have : decide (l[i]? = some v) = false := by simp [hi', q]
      rw [this] at hq
      obtain ⟨t, t', k, mi⟩ := hS l[i] (List.getElem_mem _)
      exact eq_pairs hu (N _ mi).1 (N _ mv).1 (by omega) hq
  · simp [List.getElem?_eq_getElem hlt]
  · intro i hi
    refine decide_eq_false fun q => ?_
    have hi' : i < l.length := by omega
    rw [List.getElem?_eq_getElem hi'] at q
    have z := List.not_of_lt_findIdx (p := fun y => y == v) (xs := l) (i := i) hi
    have q' : l[i] = v := Option.some.inj q
    simp [q'] at z
  · rw [eraseIdx_refs P l v hv] at N'
    exact h h' c F' N'
end
end Mine
end
section
set_option maxRecDepth 100000
namespace Mine
open PySem PySem.W PySem.Calls PyProof.Rows PySem.Spec PyProof.V PySem.MeetsSeq
section
variable {prog : Program} {w : World} {A : Around} {E : Value → Shared → Prop} {s : Shared} {h₀ : Heap} {L : Addr} {m : Str → Option Value} {news : List (Addr × Obj)}

theorem pop_stub {D : Addr} {P : Nat → Nat} {l : List Nat} {n v : Nat} {g : Obj → List (Addr × Obj)} {Q : Value → Shared → Prop} (F : Fr h₀ L s.heap m) (N : News h₀ L s.heap news) (U : UpdF D (listOf (refsOf P (l ++ [v])) n) news g)
    (hl : l.length ≤ 60) (h : ∀ h' c, Fr h₀ L h' m → News h₀ L h' (g (listOf (refsOf P l) c)) → Q (.ref (P v)) { s with heap := h' }) :
    wpAny (model prog w) A (call (.builtin "list.pop") [.ref D]) Q E s := by
  obtain ⟨pre, post, e0, hg, x1, x2⟩ := U.split
  rw [e0] at N
  have z := N (D, listOf (refsOf P (l ++ [v])) n) (List.mem_append_right _ (.head _))
  have hsz : (refsOf P (l ++ [v])).size = l.length + 1 := by simp
  have hy : (refsOf P (l ++ [v]))[(refsOf P (l ++ [v])).size - 1]? = some (.ref (P v)) := by rw [hsz]; simp
  have s1 := Heap.SameBut.update s.heap D (Obj.mapSeq fun xs => xs.eraseIdxIfInBounds ((refsOf P (l ++ [v])).size - 1))
  obtain ⟨c, hc⟩ : ∃ c, (s.heap.update D (Obj.mapSeq fun xs => xs.eraseIdxIfInBounds ((refsOf P (l ++ [v])).size - 1))).get? D = some (listOf ((refsOf P (l ++ [v])).eraseIdxIfInBounds ((refsOf P (l ++ [v])).size - 1)) c) := ⟨_, get?_update_seq z.1 fun xs => xs.eraseIdxIfInBounds ((refsOf P (l ++ [v])).size - 1)⟩
  refine call_meets PySem.F.slot_list_pop ⟨_, z.1, rfl⟩ PySem.F.entry_list_pop (PySem.F.args_list_pop_1 _) (PySem.MeetsSeq.list_pop_last D _ n _ hy (by rw [hsz, sizeLine_eq]; omega)) ⟨z.1, h _ c (kas_fr F s1 z.2.1 z.2.2) ?_⟩
  rw [hg]
  refine news_set N x1 x2 s1 ?_
  rw [hc]
  have : (refsOf P (l ++ [v])).eraseIdxIfInBounds ((refsOf P (l ++ [v])).size - 1) = refsOf P l := by
    rw [hsz]
    have hk : refsOf P (l ++ [v]) = (l.map (fun v => Value.ref (P v)) ++ Value.ref (P v) :: []).toArray := by simp
    have e2 := kl_erase (l.map (fun v => Value.ref (P v))) [] (Value.ref (P v))
    rw [List.length_map] at e2
    rw [hk, Nat.add_sub_cancel, e2, List.append_nil]
  rw [this]
end

theorem pick_upto (P : Nat → Nat) (l : List Nat) (d : Nat) : slicePick (refsOf P l) (some 0) (some (d : Int)) none = refsOf P (l.take d) := by
  rw [slicePick_plain]
  simp only [Option.elim]
  have e0 : clipAt (refsOf P l).size 0 = 0 := by rw [show (0 : Int) = ((0 : Nat) : Int) from rfl, clipAt_nat]; simp
  rw [e0, clipAt_nat]
  apply Array.toList_inj.mp
  simp only [List.drop_zero, Nat.sub_zero, List.size_toArray, List.length_map]
  rw [← List.map_take]
  congr 1
  rw [List.take_eq_take_iff]
  simp
theorem pick_last (P : Nat → Nat) (l : List Nat) {k : Int} {d : Nat} (hk : k = -(d : Int)) (hd : 1 ≤ d) : slicePick (refsOf P l) (some k) none none = refsOf P (l.drop (l.length - d)) := by
  rw [hk, slicePick_last _ _ hd]
  apply Array.toList_inj.mp
  simp only [List.size_toArray, List.length_map]
  rw [← List.map_drop]

/-- the stubs of a maker in a ledger -/
structure TI (S S0 : List (Addr × Obj)) (LA LB : Nat) (P : Nat → Nat) (as bs : List Nat) (e : Nat → Int) (n : Nat) : Prop where
  rest : ∀ p ∈ S0, p ∈ S
  sa : ∃ c, (LA, listOf (refsOf P as) c) ∈ S
  sb : ∃ c, (LB, listOf (refsOf P bs) c) ∈ S
  pr : ∀ v, v < n → ∃ t t' k, (P v, pairObj (e v) t (v : Int) t' k) ∈ S
  offA : LA ≠ LB
  offP : ∀ v, v < n → P v ≠ LA ∧ P v ≠ LB
  inj : ∀ u v, u < n → v < n → u ≠ v → P u ≠ P v
  off0 : ∀ p ∈ S0, p.1 ≠ LA ∧ p.1 ≠ LB ∧ ∀ v, v < n → p.1 ≠ P v
section
variable {S S' S0 : List (Addr × Obj)} {LA LB : Nat} {P : Nat → Nat} {as as' bs bs' : List Nat} {e : Nat → Int} {n : Nat}
theorem TI.setA (ti : TI S S0 LA LB P as bs e n) {c : Nat} (hk : ∀ p ∈ S, p.1 ≠ LA → p ∈ S') (hm : (LA, listOf (refsOf P as') c) ∈ S') : TI S' S0 LA LB P as' bs e n := by
  obtain ⟨cb, mb⟩ := ti.sb
  exact ⟨fun p hp => hk p (ti.rest p hp) (ti.off0 p hp).1, ⟨_, hm⟩, ⟨cb, hk _ mb ti.offA.symm⟩, fun v hv => by
    obtain ⟨t, t', k, h⟩ := ti.pr v hv
    exact ⟨t, t', k, hk _ h (ti.offP v hv).1⟩, ti.offA, ti.offP, ti.inj, ti.off0⟩
theorem TI.setB (ti : TI S S0 LA LB P as bs e n) {c : Nat} (hk : ∀ p ∈ S, p.1 ≠ LB → p ∈ S') (hm : (LB, listOf (refsOf P bs') c) ∈ S') : TI S' S0 LA LB P as bs' e n := by
  obtain ⟨ca, ma⟩ := ti.sa
  exact ⟨fun p hp => hk p (ti.rest p hp) (ti.off0 p hp).2.1, ⟨ca, hk _ ma ti.offA⟩, ⟨_, hm⟩, fun v hv => by
    obtain ⟨t, t', k, h⟩ := ti.pr v hv
    exact ⟨t, t', k, hk _ h (ti.offP v hv).2⟩, ti.offA, ti.offP, ti.inj, ti.off0⟩
theorem TI.setP (ti : TI S S0 LA LB P as bs e n) {v : Nat} {b : Int} {t t' : Tok} {k : Nat} (hv : v < n) (hk : ∀ p ∈ S, p.1 ≠ P v → p ∈ S') (hm : (P v, pairObj b t (v : Int) t' k) ∈ S') :
    TI S' S0 LA LB P as bs (fun u => if u = v then b else e u) n := by
  obtain ⟨ca, ma⟩ := ti.sa
  obtain ⟨cb, mb⟩ := ti.sb
  refine ⟨fun p hp => hk p (ti.rest p hp) ((ti.off0 p hp).2.2 v hv), ⟨ca, hk _ ma (ti.offP v hv).1.symm⟩, ⟨cb, hk _ mb (ti.offP v hv).2.symm⟩, fun u hu => ?_, ti.offA, ti.offP, ti.inj, ti.off0⟩
  by_cases q : u = v
  · subst q
    exact ⟨t, t', k, by simpa using hm⟩
  · obtain ⟨t, t', k, h⟩ := ti.pr u hu
    exact ⟨t, t', k, by simpa [q] using hk _ h (ti.inj u v hu hv q)⟩
theorem TI.grow (ti : TI S S0 LA LB P as bs e n) (hk : ∀ p ∈ S, p ∈ S') : TI S' S0 LA LB P as bs e n := by
  obtain ⟨ca, ma⟩ := ti.sa
  obtain ⟨cb, mb⟩ := ti.sb
  exact ⟨fun p hp => hk p (ti.rest p hp), ⟨ca, hk _ ma⟩, ⟨cb, hk _ mb⟩, fun v hv => by
    obtain ⟨t, t', k, h⟩ := ti.pr v hv
    exact ⟨t, t', k, hk _ h⟩, ti.offA, ti.offP, ti.inj, ti.off0⟩
theorem TI.stubs (ti : TI S S0 LA LB P as bs e n) {l : List Nat} (hl : ∀ v ∈ l, v < n) : Stubs S P e l := fun v hv => ti.pr v (hl v hv)
/-- entries of a ledger brought to its front -/
theorem front_of {h₀ h : Heap} {L : Addr} {Y es : List (Addr × Obj)} (N : News h₀ L h Y) (hes : ∀ p ∈ es, p ∈ Y) : News h₀ L h (es ++ rms Y (es.map (·.1))) := News.perm N fun p hp => by
  rcases List.mem_append.mp hp with q | q
  · exact hes p q
  · exact rms_sub p q
end
end Mine
end
section
set_option maxRecDepth 100000
namespace Mine
open PySem PySem.W PySem.Calls PyProof.Rows PySem.Spec PyProof.V PyProof.Rows.LCg
section
variable {prog : Program} {w : World} {A : Around} {E : Value → Shared → Prop} {s : Shared} {h₀ : Heap} {L : Addr} {m : Str → Option Value} {env : Env} {elt : Expr} {x : Str} {scope : Scope} {cl : List (Str × Addr)} {S : List (Addr × Obj) → Prop} {P : Nat → Value → Prop} {Fin : List Value → List (Addr × Obj) → Prop} {news : List (Addr × Obj)}
/-- a list comprehension's turns by an invariant -/
theorem comp_loop {n : Nat} (J : Nat → List Value → List (Addr × Obj) → Prop) (h0 : J 0 [] news)
    (turn : ∀ i ys nw, i < n → J i ys nw → ∀ v I oI C oC D m₂ h tk (E' : Value → Shared → Prop), P i v → NsObj oC m₂ → m₂ x = some v → Fr h₀ L h m → News h₀ L h ((I, oI) :: (C, oC) :: (D, lst ys) :: nw) → Off3 I C D nw → ((@Ne Nat I C) ∧ (@Ne Nat I D) ∧ (@Ne Nat C D)) →
      wpAny (model prog w) A (eval elt (compEnvC scope cl C env)) (CompEnd h₀ L m { s with heap := h, toks := tk } I oI C oC D (lst ys) S (fun y news' => J (i + 1) (ys ++ [y]) news')) E' { s with heap := h, toks := tk })
    (fin : ∀ ys nw, J n ys nw → Fin ys nw) : CompRest prog w A h₀ L m env elt x scope cl s S P Fin n 0 [] news := by
  have key : ∀ k i ys nw, i + k = n → J i ys nw → CompRest prog w A h₀ L m env elt x scope cl s S P Fin k i ys nw := by
    intro k
    induction k with
    | zero =>
      intro i ys nw e hJ
      have : i = n := by omega
      subst this
      exact fin ys nw hJ
    | succ k ih =>
      intro i ys nw e hJ
      refine CompRest.succ fun v I oI C oC D m₂ h tk E' a1 a2 a3 a4 a5 a6 a7 => ?_
      refine wpAny_mono (turn i ys nw (by omega) hJ v I oI C oC D m₂ h tk E' a1 a2 a3 a4 a5 a6 a7) (fun y s' hy => ?_) fun _ _ z => z
      obtain ⟨h', tk', news', rfl, b1, b2, b3, b4, b5⟩ := hy
      exact ⟨h', tk', news', rfl, b1, b2, b3, b4, ih (i + 1) _ _ (by omega) b5⟩
  exact key n 0 [] news (by omega) h0

/-- stubs laid by a comprehension: node a0 + j with degree dg j -/
structure LayJ (base : List (Addr × Obj)) (a0 : Nat) (dg : Nat → Int) (i : Nat) (P : Nat → Nat) (nw : List (Addr × Obj)) : Prop where
  keep : ∀ p ∈ base, p ∈ nw
  pr : ∀ j, j < i → ∃ t t' k, (P j, pairObj (dg j) t ((a0 + j : Nat) : Int) t' k) ∈ nw
  off : ∀ p ∈ base, ∀ j, j < i → p.1 ≠ P j
  inj : ∀ j k, j < i → k < i → j ≠ k → P j ≠ P k
theorem LayJ.zero {base : List (Addr × Obj)} {a0 : Nat} {dg : Nat → Int} {P : Nat → Nat} : LayJ base a0 dg 0 P base :=
  ⟨fun _ h => h, fun j h => absurd h (Nat.not_lt_zero _), fun _ _ j h => absurd h (Nat.not_lt_zero _), fun j _ h => absurd h (Nat.not_lt_zero _)⟩
theorem LayJ.succ {base : List (Addr × Obj)} {a0 : Nat} {dg : Nat → Int} {i : Nat} {P : Nat → Nat} {nw : List (Addr × Obj)} (J : LayJ base a0 dg i P nw) {D : Nat} {t t' : Tok} {k : Nat} (hD : ∀ p ∈ nw, @LT.lt Nat _ p.1 D) {z : Int} (hz : z = ((a0 + i : Nat) : Int)) {y : Int} (hy : y = dg i) :
    LayJ base a0 dg (i + 1) (fun j => if j = i then D else P j) ((D, pairObj y t z t' k) :: nw) := by
  subst hz hy
  constructor
  · exact fun p hp => List.mem_cons_of_mem _ (J.keep p hp)
  · intro j hj
    by_cases q : j = i
    · subst q; exact ⟨t, t', k, by simp⟩
    · obtain ⟨t, t', k, h⟩ := J.pr j (by omega)
      exact ⟨t, t', k, by simpa [q] using Or.inr h⟩
  · intro p hp j hj
    by_cases q : j = i
    · simp only [q, if_true]; exact Nat.ne_of_lt (hD p (J.keep p hp))
    · simp only [q, if_false]; exact J.off p hp j (by omega)
  · intro j l hj hl ne
    by_cases q : j = i
    · have ql : l ≠ i := fun e => ne (q.trans e.symm)
      obtain ⟨_, _, _, h⟩ := J.pr l (by omega)
      simp only [q, ql, if_true, if_false]
      exact Nat.ne_of_gt (hD _ h)
    · obtain ⟨_, _, _, h⟩ := J.pr j (by omega)
      by_cases ql : l = i
      · simp only [q, ql, if_true, if_false]
        exact Nat.ne_of_lt (hD _ h)
      · simp only [q, ql, if_false]
        exact J.inj j l (by omega) (by omega) ne
def refs (P : Nat → Nat) (i : Nat) : List Value := (List.range i).map fun j => Value.ref (P j)
theorem refs_succ (P : Nat → Nat) (i D : Nat) : refs P i ++ [Value.ref D] = refs (fun j => if j = i then D else P j) (i + 1) := by
  unfold refs
  rw [List.range_succ, List.map_append]
  congr 1
  · exact List.map_congr_left fun j hj => by simp [Nat.ne_of_lt (List.mem_range.mp hj)]
  · simp
end
end Mine
end
section
set_option maxRecDepth 100000
namespace Mine
open PySem PySem.W PySem.Calls PyProof.Rows PySem.Spec PyProof.V PyProof.Rows.LCg
section
variable {h₀ h' : Heap} {L : Addr} {m : Str → Option Value} {base nw : List (Addr × Obj)} {a0 : Nat} {dg : Nat → Int} {i : Nat} {P : Nat → Nat}
theorem lay_step {s₁ : Shared} {I C D D' tk : Nat} {oI oC : Obj} {y z : Int} {t t' : Tok} {k : Nat} (F : Fr h₀ L h' m) (N2 : News h₀ L s₁.heap ((I, oI) :: (C, oC) :: (D, lst (refs P i)) :: nw))
    (N : News h₀ L h' ((D', pairObj y t z t' k) :: (I, oI) :: (C, oC) :: (D, lst (refs P i)) :: nw)) (hD' : D' = s₁.heap.objs.size) (off : Off3 I C D nw) (J : LayJ base a0 dg i P nw) (hz : z = ((a0 + i : Nat) : Int)) (hy : y = dg i) :
    CompEnd h₀ L m s₁ I oI C oC D (lst (refs P i)) (fun _ => True) (fun y news' => ∃ P₁, refs P i ++ [y] = refs P₁ (i + 1) ∧ LayJ base a0 dg (i + 1) P₁ news') (.ref D') { s₁ with heap := h', toks := tk } := by
  have lt9 : ∀ p ∈ (I, oI) :: (C, oC) :: (D, lst (refs P i)) :: nw, @LT.lt Nat _ p.1 D' := fun p hp => hD' ▸ Heap.lt_size (N2 p hp).1
  have l1 : @LT.lt Nat _ I D' := lt9 (I, oI) (by simp)
  have l2 : @LT.lt Nat _ C D' := lt9 (C, oC) (by simp)
  have l3 : @LT.lt Nat _ D D' := lt9 (D, lst (refs P i)) (by simp)
  refine CompEnd.intro F N ((D', pairObj y t z t' k) :: nw) (fun p hp => ?_) ?_ trivial ⟨_, refs_succ P i D', J.succ (fun p hp => lt9 p (by simp [hp])) hz hy⟩
  · simp only [List.mem_cons] at hp ⊢
    rcases hp with h | h | h | h | h <;> simp [h]
  · exact ⟨⟨Nat.ne_of_gt l1, Nat.ne_of_gt l2, Nat.ne_of_gt l3⟩, off⟩

theorem off1_all {D : Addr} : ∀ {l : List (Addr × Obj)}, Off1 D l → ∀ p ∈ l, p.1 ≠ D
  | [], _, _, h => nomatch h
  | _ :: _, x, p, h => by
    rcases List.mem_cons.mp h with rfl | h
    · exact x.1
    · exact off1_all x.2 p h

/-- both lists of stubs are laid -/
theorem stubs_laid {S0 G1 nw1 nw2 base1 base2 : List (Addr × Obj)} {LA LB na nb : Nat} {P0 P1 : Nat → Nat} {dgA dgB : Nat → Int} (hb1 : base1 = S0 ++ G1) (hb2 : base2 = (LA, lst (refs P0 na)) :: nw1)
    (J1 : LayJ base1 0 dgA na P0 nw1) (o1 : Off1 LA nw1) (J2 : LayJ base2 na dgB nb P1 nw2) (o2 : Off1 LB nw2) (ap : Apart S0 G1) :
    ∃ S, (∀ p ∈ S ++ G1, p ∈ (LB, lst (refs P1 nb)) :: nw2) ∧ Apart S G1 ∧
      TI S S0 LA LB (fun v => if v < na then P0 v else P1 (v - na)) (List.range na) ((List.range nb).map fun v => na + v) (fun v => if v < na then dgA v else dgB (v - na)) (na + nb) := by
  subst hb1 hb2
  have k1 : ∀ p ∈ S0 ++ G1, p ∈ nw2 := fun p hp => J2.keep p (List.mem_cons_of_mem _ (J1.keep p hp))
  have f1 := off1_all o1
  have f2 := off1_all o2
  have mA : (LA, lst (refs P0 na)) ∈ nw2 := J2.keep _ List.mem_cons_self
  have hAB : @Ne Nat LA LB := f2 _ mA
  have offA : ∀ p ∈ S0 ++ G1, p.1 ≠ LA := fun p hp => f1 p (J1.keep p hp)
  have offB : ∀ p ∈ S0 ++ G1, p.1 ≠ LB := fun p hp => f2 p (k1 p hp)
  have mP0 : ∀ j, j < na → ∃ t t' k, (P0 j, pairObj (dgA j) t (j : Int) t' k) ∈ nw1 := fun j hj => by
    obtain ⟨t, t', k, h⟩ := J1.pr j hj
    exact ⟨t, t', k, by simpa using h⟩
  refine ⟨rms ((LB, lst (refs P1 nb)) :: nw2) (G1.map (·.1)), fun p hp => ?_, fun p hp q hq => ?_, ?_⟩
  · rcases List.mem_append.mp hp with h | h
    · exact rms_sub p h
    · exact List.mem_cons_of_mem _ (k1 p (List.mem_append_right _ h))
  · exact rms_ne (List.mem_map_of_mem hq) p hp
  have inS : ∀ {p : Addr × Obj}, p ∈ (LB, lst (refs P1 nb)) :: nw2 → (∀ q ∈ G1, q.1 ≠ p.1) → p ∈ rms ((LB, lst (refs P1 nb)) :: nw2) (G1.map (·.1)) := fun hp h => mem_rms hp fun e => by
    obtain ⟨q, hq, e⟩ := List.mem_map.mp e
    exact h q hq e
  constructor
  · intro p hp
    exact inS (List.mem_cons_of_mem _ (k1 p (List.mem_append_left _ hp))) fun q hq e => ap p hp q hq e.symm
  · refine ⟨na, inS (List.mem_cons_of_mem _ ?_) fun q hq => offA q (List.mem_append_right _ hq)⟩
    have : (lst (refs P0 na)) = listOf (refsOf (fun v => if v < na then P0 v else P1 (v - na)) (List.range na)) na := by
      unfold refs
      show listOf _ _ = listOf _ _
      rw [List.length_map, List.length_range]
      congr 2
      exact List.map_congr_left fun v hv => by simp [List.mem_range.mp hv]
    rw [← this]
    exact mA
  · refine ⟨nb, inS ?_ fun q hq => offB q (List.mem_append_right _ hq)⟩
    have : (lst (refs P1 nb)) = listOf (refsOf (fun v => if v < na then P0 v else P1 (v - na)) ((List.range nb).map fun v => na + v)) nb := by
      unfold refs
      show listOf _ _ = listOf _ _
      rw [List.length_map, List.length_range]
      show _ = listOf ((List.map (fun v => na + v) (List.range nb)).map _).toArray nb
      rw [List.map_map]
      congr 2
      exact List.map_congr_left fun v _ => by simp [show ¬ (na + v < na) by omega]
    rw [← this]
    exact List.mem_cons_self
  · intro v hv
    by_cases q : v < na
    · obtain ⟨t, t', k, h⟩ := mP0 v q
      refine ⟨t, t', k, ?_⟩
      simp only [q, if_true]
      exact inS (List.mem_cons_of_mem _ (J2.keep _ (List.mem_cons_of_mem _ h))) fun r hr => J1.off r (List.mem_append_right _ hr) v q
    · obtain ⟨t, t', k, h⟩ := J2.pr (v - na) (by omega)
      refine ⟨t, t', k, ?_⟩
      simp only [q, if_false]
      have e : na + (v - na) = v := by omega
      rw [e] at h
      exact inS (List.mem_cons_of_mem _ h) fun r hr => J2.off r (List.mem_cons_of_mem _ (J1.keep r (List.mem_append_right _ hr))) (v - na) (by omega)
  · exact hAB
  · intro v hv
    by_cases q : v < na
    · obtain ⟨t, t', k, h⟩ := mP0 v q
      simp only [q, if_true]
      exact ⟨f1 _ h, f2 _ (J2.keep _ (List.mem_cons_of_mem _ h))⟩
    · obtain ⟨t, t', k, h⟩ := J2.pr (v - na) (by omega)
      simp only [q, if_false]
      exact ⟨fun e => J2.off (LA, lst (refs P0 na)) List.mem_cons_self (v - na) (by omega) e.symm, f2 _ h⟩
  · intro u v hu hv ne
    by_cases q : u < na <;> by_cases q' : v < na <;> simp only [q, q', if_true, if_false]
    · exact J1.inj u v q q' ne
    · obtain ⟨t, t', k, h⟩ := mP0 u q
      exact J2.off _ (List.mem_cons_of_mem _ h) (v - na) (by omega)
    · obtain ⟨t, t', k, h⟩ := mP0 v q'
      exact (J2.off _ (List.mem_cons_of_mem _ h) (u - na) (by omega)).symm
    · exact J2.inj _ _ (by omega) (by omega) (by omega)
  · intro p hp
    refine ⟨offA p (List.mem_append_left _ hp), offB p (List.mem_append_left _ hp), fun v hv => ?_⟩
    by_cases q : v < na
    · simp only [q, if_true]; exact J1.off p (List.mem_append_left _ hp) v q
    · simp only [q, if_false]; exact J2.off p (List.mem_cons_of_mem _ (J1.keep p (List.mem_append_left _ hp))) (v - na) (by omega)
end
end Mine
end
section
set_option maxRecDepth 100000
namespace Mine
open PySem PySem.W PySem.Calls PyProof.Rows PySem.Spec PyProof.V PyProof.Rows.LCg

/-- the neighbours' keys, in order -/
def AdjOf (Ad : Nat → List (Int × Value)) (N : Nat → List Nat) (n : Nat) : Prop := ∀ v, v < n → (Ad v).map (·.1) = (N v).map fun k : Nat => (k : Int)
/-- every edge has its own dict, empty -/
def EdgeOk (prog : Program) (w : World) (G : List (Addr × Obj)) (x d ag an aa : Nat) (f : Nat → Nat) (n : Nat) (Ad : Nat → List (Int × Value)) : Prop :=
  ∀ v, v < n → ∀ q ∈ Ad v, ∃ (c : Nat) (o : Obj), q.2 = .ref c ∧ (c, o) ∈ G ∧ o.IsDictOf (PySem.strKind prog w) [] ∧ c ∉ [x, d, ag, an, aa] ∧ ∀ i, i < 2 * n → c ≠ f i
def ins (l : List Nat) (v : Nat) : List Nat := if v ∈ l then l else l ++ [v]
def stepN (N : Nat → List Nat) (u v : Nat) : Nat → List Nat := fun k => if k = u then ins (N u) v else if k = v then ins (N v) u else N k
structure St where
  bs : List Nat
  e : Nat → Int
  N : Nat → List Nat
def St.step (u : Nat) (s : St) (v : Nat) : St :=
  { bs := if s.e v - 1 = 0 then s.bs.erase v else s.bs, e := fun k => if k = v then s.e v - 1 else s.e k, N := stepN s.N u v }
/-- what a state keeps -/
structure St.Ok (n na : Nat) (s : St) : Prop where
  inb : ∀ v, na ≤ v → v < n → (v ∈ s.bs ↔ 1 ≤ s.e v)
  bnd : s.bs.Nodup
  bin : ∀ v ∈ s.bs, na ≤ v ∧ v < n
  nnd : ∀ v, (s.N v).Nodup
  nin : ∀ v, ∀ k ∈ s.N v, k < n
theorem ins_nodup {l : List Nat} (h : l.Nodup) (v : Nat) : (ins l v).Nodup := by
  unfold ins
  split
  · exact h
  · rename_i q
    rw [List.nodup_append]
    exact ⟨h, by simp, fun a ha b hb e => q (by rw [← List.mem_singleton.mp hb, ← e]; exact ha)⟩
theorem mem_ins {l : List Nat} {v k : Nat} : k ∈ ins l v ↔ k ∈ l ∨ k = v := by
  unfold ins
  split
  · rename_i q
    exact ⟨.inl, fun h => h.elim id fun e => e ▸ q⟩
  · simp
theorem ins_len {l : List Nat} {v : Nat} : (ins l v).length ≤ l.length + 1 ∧ l.length ≤ (ins l v).length := by
  unfold ins; split <;> simp
theorem nodup_len : ∀ {n : Nat} {l : List Nat}, l.Nodup → (∀ k ∈ l, k < n) → l.length ≤ n
  | 0, l, _, hn => by
    cases l with
    | nil => simp
    | cons a l => exact absurd (hn a List.mem_cons_self) (Nat.not_lt_zero _)
  | n + 1, l, h, hn => by
    have a := nodup_len (n := n) (l := l.erase n) (h.erase n) fun k hk => by
      have := hn k (List.mem_of_mem_erase hk)
      have q : k ≠ n := fun e => (List.Nodup.not_mem_erase h) (e ▸ hk)
      omega
    by_cases q : n ∈ l
    · rw [List.length_erase_of_mem q] at a; omega
    · rw [List.erase_of_not_mem q] at a; omega
theorem St.Ok.step {n na u : Nat} {s : St} (ok : s.Ok n na) (hu : u < n) {v : Nat} (hv : na ≤ v ∧ v < n) : (s.step u v).Ok n na := by
  constructor
  · intro k hk hkn
    show (k ∈ if s.e v - 1 = 0 then s.bs.erase v else s.bs) ↔ 1 ≤ (if k = v then s.e v - 1 else s.e k)
    have a := ok.inb k hk hkn
    by_cases q : k = v
    · subst q
      simp only [if_true]
      split
      · rename_i z
        constructor
        · intro h; exact absurd h (List.Nodup.not_mem_erase ok.bnd)
        · intro h; omega
      · rename_i z
        rw [a]; omega
    · simp only [q, if_false]
      split
      · rw [List.mem_erase_of_ne q, a]
      · exact a
  · show (if s.e v - 1 = 0 then s.bs.erase v else s.bs).Nodup
    split
    · exact ok.bnd.erase v
    · exact ok.bnd
  · intro k hk
    have hk : k ∈ (if s.e v - 1 = 0 then s.bs.erase v else s.bs) := hk
    split at hk
    · exact ok.bin k (List.mem_of_mem_erase hk)
    · exact ok.bin k hk
  · intro k
    show (stepN s.N u v k).Nodup
    unfold stepN
    split
    · exact ins_nodup (ok.nnd u) v
    · split
      · exact ins_nodup (ok.nnd v) u
      · exact ok.nnd k
  · intro k j hj
    have hj : j ∈ stepN s.N u v k := hj
    unfold stepN at hj
    split at hj
    · rcases mem_ins.mp hj with h | h
      · exact ok.nin u j h
      · omega
    · split at hj
      · rcases mem_ins.mp hj with h | h
        · exact ok.nin v j h
        · omega
      · exact ok.nin k j hj
theorem St.Ok.fold {n na u : Nat} (hu : u < n) (D : List Nat) : ∀ (s : St), s.Ok n na → (∀ v ∈ D, na ≤ v ∧ v < n) → (D.foldl (St.step u) s).Ok n na := by
  induction D with
  | nil => intro s ok _; exact ok
  | cons v D ih => intro s ok h; exact ih (s.step u v) (ok.step hu (h v List.mem_cons_self)) fun k hk => h k (List.mem_cons_of_mem _ hk)
theorem keys_stored {l : List (Int × Value)} {N : List Nat} (h : l.map (·.1) = N.map fun k : Nat => (k : Int)) (v : Nat) (y : Value) : (stored l (v : Int) y).map (·.1) = (ins N v).map fun k : Nat => (k : Int) := by
  have hany : (l.any fun kv => kv.1 = (v : Int)) = decide (v ∈ N) := by
    have e1 : (l.any fun kv => kv.1 = (v : Int)) = ((l.map (·.1)).any fun k => decide (k = (v : Int))) := by rw [List.any_map]; rfl
    rw [e1, h, List.any_map]
    by_cases q : v ∈ N
    · rw [decide_eq_true q, List.any_eq_true]
      exact ⟨v, q, by simp⟩
    · rw [decide_eq_false q, Bool.eq_false_iff]
      intro z
      obtain ⟨k, hk, e⟩ := List.any_eq_true.mp z
      have e2 : (k : Int) = (v : Int) := by simpa using e
      have : k = v := by omega
      exact q (this ▸ hk)
  unfold ins
  by_cases q : v ∈ N
  · rw [if_pos q]
    unfold stored
    rw [hany, decide_eq_true q]
    simp only [if_true, List.map_map]
    rw [← h]
    refine List.map_congr_left fun p hp => ?_
    simp only [Function.comp_apply]
    split <;> rfl
  · rw [if_neg q]
    unfold stored
    rw [hany, decide_eq_false q]
    simp only [Bool.false_eq_true, if_false, List.map_append, List.map_cons, List.map_nil, h]
theorem AdjOf.len {Ad : Nat → List (Int × Value)} {N : Nat → List Nat} {n v : Nat} (h : AdjOf Ad N n) (hv : v < n) : (Ad v).length = (N v).length := by
  have := congrArg List.length (h v hv)
  simpa using this
theorem AdjOf.step {Ad : Nat → List (Int × Value)} {N : Nat → List Nat} {n u v : Nat} (h : AdjOf Ad N n) (hu : u < n) (hv : v < n) (y : Value) :
    AdjOf (fun k => if k = u then stored (Ad u) (v : Int) y else if k = v then stored (Ad v) (u : Int) y else Ad k) (stepN N u v) n := by
  intro k hk
  show ((if k = u then stored (Ad u) (v : Int) y else if k = v then stored (Ad v) (u : Int) y else Ad k)).map (·.1) = (stepN N u v k).map _
  unfold stepN
  split
  · exact keys_stored (h u hu) v y
  · split
    · exact keys_stored (h v hv) u y
    · exact h k hk
end Mine
end
section
set_option maxRecDepth 100000
namespace Mine
open PySem PySem.W PySem.Calls PyProof.Rows PySem.Spec PyProof.V
theorem mem_stored {l : List (Int × Value)} {k : Int} {y : Value} {q : Int × Value} (h : q ∈ stored l k y) : q ∈ l ∨ q = (k, y) := by
  unfold stored at h
  split at h
  · obtain ⟨p, hp, e⟩ := List.mem_map.mp h
    split at e
    · rename_i z; right; rw [← e, ← z]
    · left; rw [← e]; exact hp
  · rcases List.mem_append.mp h with h | h
    · exact .inl h
    · exact .inr (List.mem_singleton.mp h)
theorem flat_nil_inv {kvs : List (Str × Value)} (h : PyProof.V.FlatPairs PyData.str kvs []) : kvs = [] := by
  cases h; rfl
section
variable {prog : Program} {w : World} {S G : List (Addr × Obj)} {x d ag an aa : Nat} {es : List DictEntry} {ne : Nat} {f : Nat → Nat} {n : Nat} {A : Nat → List (Int × Value)} {B : Nat → List (Str × Value)} {gk : List (Str × Value)}
theorem edge_end2 {h₀ h' : Heap} {L : Addr} {u v c : Nat} {oc ou ov on oa : Obj} {R' : List (Addr × Obj)}
    (gi : GI prog w G x d ag an aa es ne f n A B gk) (hu : u < n) (hv : v < n) (huv : u ≠ v) (ap : Apart S G) (NG : Uniq G) (ma : (aa, oa) ∈ G) (mn : (an, on) ∈ G) (eo : EdgeOk prog w G x d ag an aa f n A)
    (hc1 : c ∉ [x, d, ag, an, aa]) (hc2 : ∀ i, i < 2 * n → c ≠ f i) (hcS : ∀ p ∈ S, p.1 ≠ c)
    (hR : ∀ p ∈ S ++ rms G [c, f (2 * u), f (2 * v), aa, an, x, d], p ∈ R')
    (N : News h₀ L h' ((c, oc) :: (f (2 * u), ou) :: (f (2 * v), ov) :: (aa, oa) :: (an, on) :: (x, instObj 617 d) :: (d, dictS es ne) :: R')) (bc : oc.IsDictOf (PySem.strKind prog w) [])
    (bu : ou.IsDictOf (PySem.intKind prog w) (stored (A u) (v : Int) (.ref c))) (bv : ov.IsDictOf (PySem.intKind prog w) (stored (A v) (u : Int) (.ref c))) :
    ∃ G', News h₀ L h' (S ++ G') ∧ Apart S G' ∧ GI prog w G' x d ag an aa es ne f n (fun k => if k = u then stored (A u) (v : Int) (.ref c) else if k = v then stored (A v) (u : Int) (.ref c) else A k) B gk ∧
      EdgeOk prog w G' x d ag an aa f n (fun k => if k = u then stored (A u) (v : Int) (.ref c) else if k = v then stored (A v) (u : Int) (.ref c) else A k) := by
  obtain ⟨o0, m0, _⟩ := gi.adv u hu
  obtain ⟨o1, m1, _⟩ := gi.adv v hv
  simp only [List.mem_cons, List.not_mem_nil, or_false, not_or] at hc1
  refine ⟨(c, oc) :: (f (2 * u), ou) :: (f (2 * v), ov) :: (aa, oa) :: (an, on) :: (x, instObj 617 d) :: (d, dictS es ne) :: rms G [c, f (2 * u), f (2 * v), aa, an, x, d], ?_, ?_, ?_, ?_⟩
  · refine News.perm N fun p hp => ?_
    rcases List.mem_append.mp hp with h | h
    · simp [hR p (List.mem_append_left _ h)]
    · simp only [List.mem_cons] at h ⊢
      rcases h with h | h | h | h | h | h | h | h
      · simp [h]
      · simp [h]
      · simp [h]
      · simp [h]
      · simp [h]
      · simp [h]
      · simp [h]
      · simp [hR p (List.mem_append_right _ h)]
  · intro p hp q hq
    have old : ∀ q ∈ G, p.1 ≠ q.1 := fun q hq => ap p hp q hq
    simp only [List.mem_cons] at hq
    rcases hq with h | h | h | h | h | h | h | h
    · rw [h]; exact hcS p hp
    · rw [h]; exact (old _ m0 : p.1 ≠ f (2 * u))
    · rw [h]; exact (old _ m1 : p.1 ≠ f (2 * v))
    · rw [h]; exact old _ ma
    · rw [h]; exact old _ mn
    · rw [h]; exact old _ gi.inst
    · rw [h]; exact old _ gi.dict
    · exact old q (rms_sub q h)
  · -- the entry at c is in no graph's place
    have gi' : GI prog w ((c, oc) :: rms G [c]) x d ag an aa es ne f n A B gk := by
      have keep : ∀ {p : Addr × Obj}, p ∈ G → p.1 ≠ c → p ∈ (c, oc) :: rms G [c] := fun hp h => List.mem_cons_of_mem _ (mem_rms hp (by simpa using h))
      constructor
      · exact keep gi.inst (fun e => hc1.1 e.symm)
      · exact keep gi.dict (fun e => hc1.2.1 e.symm)
      · obtain ⟨o, h, z⟩ := gi.gr; exact ⟨o, keep h (fun e => hc1.2.2.1 e.symm), z⟩
      · obtain ⟨o, h, z⟩ := gi.nod; exact ⟨o, keep h (fun e => hc1.2.2.2.1 e.symm), z⟩
      · obtain ⟨o, h, z⟩ := gi.adj; exact ⟨o, keep h (fun e => hc1.2.2.2.2 e.symm), z⟩
      · intro v hv; obtain ⟨o, h, z⟩ := gi.adv v hv; exact ⟨o, keep h (fun e => hc2 (2 * v) (by omega) e.symm), z⟩
      · intro v hv; obtain ⟨o, h, z⟩ := gi.ndv v hv; exact ⟨o, keep h (fun e => hc2 (2 * v + 1) (by omega) e.symm), z⟩
      · exact gi.inj
      · exact gi.off
      · exact gi.dis
      · exact gi.low
      · exact gi.lowf
    refine GI.edge gi' hu hv huv (fun p hp q1 q2 => ?_) (by simp) (by simp) bu bv
    rcases List.mem_cons.mp hp with e | hp
    · rw [e]; exact List.mem_cons_self
    have hpc : p.1 ≠ c := rms_ne (as := [c]) (a := c) (by simp) p hp
    have hp := rms_sub p hp
    by_cases q : p.1 ∈ [c, f (2 * u), f (2 * v), aa, an, x, d]
    · simp only [List.mem_cons, List.not_mem_nil, or_false] at q
      rcases q with q | q | q | q | q | q | q
      · exact absurd q hpc
      · exact absurd q q1
      · exact absurd q q2
      · rw [NG hp ma q]; simp
      · rw [NG hp mn q]; simp
      · rw [NG hp gi.inst q]; simp
      · rw [NG hp gi.dict q]; simp
    · simp [mem_rms hp q]
  · have old : ∀ k, k < n → ∀ q ∈ A k, ∃ (c' : Nat) (o : Obj), q.2 = .ref c' ∧ (c', o) ∈ (c, oc) :: (f (2 * u), ou) :: (f (2 * v), ov) :: (aa, oa) :: (an, on) :: (x, instObj 617 d) :: (d, dictS es ne) :: rms G [c, f (2 * u), f (2 * v), aa, an, x, d] ∧ o.IsDictOf (PySem.strKind prog w) [] ∧ c' ∉ [x, d, ag, an, aa] ∧ ∀ i, i < 2 * n → c' ≠ f i := by
      intro k hk q hq
      obtain ⟨c', o, e, hm, hd, h1, h2⟩ := eo k hk q hq
      by_cases z : c' = c
      · subst z
        exact ⟨c', oc, e, List.mem_cons_self, bc, h1, h2⟩
      · refine ⟨c', o, e, ?_, hd, h1, h2⟩
        have h1' := h1
        simp only [List.mem_cons, List.not_mem_nil, or_false, not_or] at h1'
        have : (c', o) ∈ rms G [c, f (2 * u), f (2 * v), aa, an, x, d] := mem_rms hm (by
          simp only [List.mem_cons, List.not_mem_nil, or_false, not_or]
          exact ⟨z, h2 (2 * u) (by omega), h2 (2 * v) (by omega), h1'.2.2.2.2, h1'.2.2.2.1, h1'.1, h1'.2.1⟩)
        simp [this]
    have new : ∃ (c' : Nat) (o : Obj), (Value.ref c) = .ref c' ∧ (c', o) ∈ (c, oc) :: (f (2 * u), ou) :: (f (2 * v), ov) :: (aa, oa) :: (an, on) :: (x, instObj 617 d) :: (d, dictS es ne) :: rms G [c, f (2 * u), f (2 * v), aa, an, x, d] ∧ o.IsDictOf (PySem.strKind prog w) [] ∧ c' ∉ [x, d, ag, an, aa] ∧ ∀ i, i < 2 * n → c' ≠ f i :=
      ⟨c, oc, rfl, List.mem_cons_self, bc, by simp only [List.mem_cons, List.not_mem_nil, or_false, not_or]; exact hc1, hc2⟩
    intro k hk q hq
    have hq : q ∈ (if k = u then stored (A u) (v : Int) (.ref c) else if k = v then stored (A v) (u : Int) (.ref c) else A k) := hq
    split at hq
    · rcases mem_stored hq with h | h
      · exact old u hu q h
      · rw [h]; exact new
    · split at hq
      · rcases mem_stored hq with h | h
        · exact old v hv q h
        · rw [h]; exact new
      · exact old k hk q hq
theorem edge_new_end {h₀ h' : Heap} {L : Addr} {u v c c1 c2 : Nat} {oc ou ov on oa o1 o2 : Obj} {R : List (Addr × Obj)}
    (gi : GI prog w G x d ag an aa es ne f n A B gk) (hun : u < n) (hvn : v < n) (huv : u ≠ v) (ap : Apart S G) (hU : Uniq G) (ma : (aa, oa) ∈ G) (mn : (an, on) ∈ G) (eo : EdgeOk prog w G x d ag an aa f n A)
    (hR : R = S ++ rms G [f (2 * u), f (2 * v), aa, an, x, d]) (ld : c1 < c ∧ c2 < c ∧ f (2 * u) < c ∧ f (2 * v) < c ∧ aa < c ∧ an < c ∧ x < c ∧ d < c ∧ AllLt c R)
    (kN : News h₀ L h' ((c, oc) :: (c1, o1) :: (c2, o2) :: (f (2 * u), ou) :: (f (2 * v), ov) :: (aa, oa) :: (an, on) :: (x, instObj 617 d) :: (d, dictS es ne) :: R)) (bc1 : oc.IsDictOf (PySem.strKind prog w) [])
    (bu1 : ou.IsDictOf (PySem.intKind prog w) (stored (A u) (v : Int) (.ref c))) (bv1 : ov.IsDictOf (PySem.intKind prog w) (stored (A v) (u : Int) (.ref c))) :
    ∃ G', News h₀ L h' (S ++ G') ∧ Apart S G' ∧ GI prog w G' x d ag an aa es ne f n (fun k => if k = u then stored (A u) (v : Int) (.ref c) else if k = v then stored (A v) (u : Int) (.ref c) else A k) B gk ∧
      EdgeOk prog w G' x d ag an aa f n (fun k => if k = u then stored (A u) (v : Int) (.ref c) else if k = v then stored (A v) (u : Int) (.ref c) else A k) := by
  obtain ⟨_, _, lu9, lv9, la9, ln9, lx9, ld9, lR9⟩ := ld
  have lRa := allLt_all lR9
  rw [hR] at lRa kN
  have inR : ∀ p ∈ G, p.1 ∉ [f (2 * u), f (2 * v), aa, an, x, d] → @LT.lt Nat _ p.1 c := fun p hp q => lRa p (List.mem_append_right _ (mem_rms hp q))
  have lG : ∀ p ∈ G, @LT.lt Nat _ p.1 c := fun p hp => by
    by_cases q : p.1 ∈ [f (2 * u), f (2 * v), aa, an, x, d]
    · simp only [List.mem_cons, List.not_mem_nil, or_false] at q
      rcases q with q | q | q | q | q | q <;> rw [q] <;> assumption
    · exact inR p hp q
  have hc1 : c ∉ [x, d, ag, an, aa] := by
    obtain ⟨og, mg9, _⟩ := gi.gr
    have lag : @LT.lt Nat _ ag c := lG _ mg9
    intro hm
    simp only [List.mem_cons, List.not_mem_nil, or_false] at hm
    rcases hm with e | e | e | e | e
    · exact absurd lx9 (by rw [e]; exact Nat.lt_irrefl _)
    · exact absurd ld9 (by rw [e]; exact Nat.lt_irrefl _)
    · exact absurd lag (by rw [e]; exact Nat.lt_irrefl _)
    · exact absurd ln9 (by rw [e]; exact Nat.lt_irrefl _)
    · exact absurd la9 (by rw [e]; exact Nat.lt_irrefl _)
  have hc2 : ∀ i, i < 2 * n → c ≠ f i := by
    intro i hi e
    rcases Nat.mod_two_eq_zero_or_one i with h0 | h0
    · obtain ⟨o, hm, _⟩ := gi.adv (i / 2) (by omega)
      have := lG _ hm
      rw [show 2 * (i / 2) = i by omega] at this
      exact absurd this (by rw [e]; exact Nat.lt_irrefl _)
    · obtain ⟨o, hm, _⟩ := gi.ndv (i / 2) (by omega)
      have := lG _ hm
      rw [show 2 * (i / 2) + 1 = i by omega] at this
      exact absurd this (by rw [e]; exact Nat.lt_irrefl _)
  exact edge_end2 (c := c) (R' := S ++ rms G [f (2 * u), f (2 * v), aa, an, x, d]) gi hun hvn huv ap hU ma mn eo hc1 hc2 (fun p hp => Nat.ne_of_lt (lRa p (List.mem_append_left _ hp))) (fun p hp => by
      rcases List.mem_append.mp hp with h | h
      · exact List.mem_append_left _ h
      · refine List.mem_append_right _ (mem_rms (rms_sub p h) fun q => ?_)
        exact rms_ne (a := p.1) (List.mem_cons_of_mem _ q) p h rfl) (News.perm kN (fun p hp => by
      rcases List.mem_cons.mp hp with h | h
      · exact List.mem_cons.mpr (.inl h)
      · exact List.mem_cons_of_mem _ (List.mem_cons_of_mem _ (List.mem_cons_of_mem _ h)))) bc1 bu1 bv1
end
end Mine
end
section
set_option maxRecDepth 100000
namespace Mine
open PySem PySem.W PySem.Spec PySem.Calls PyProof.Rows

section
variable {prog : Program} {w : World} {A : Around} {E : Value → Shared → Prop} {s : Shared} {env : Env} {L : Addr} {h₀ : Heap} {m mg : Str → Option Value}
  {x : Str} {C : Addr} {B newId initId : String} {bm : List Value} {np cpos pos : Pos} {Q : Flow → Shared → Prop}

theorem ld_ownC {M : Model} {x : Str} {pos : Pos} {C : Addr} {bm : List Value} {newId : String} {Q : Value → Shared → Prop} (F : Fr h₀ L s.heap m) (hg : h₀.Ns mainGlobals mg) (O : OwnCls x C bm newId mg h₀) (h : Q (.ref C) s)
    (hk : env.scope.kind = .function) (hx : env.kindOf x = some .globalImplicit) (hd : (x == ("__debug__" : Str)) = false) (hgl : env.globals = mainGlobals) :
    wpAny M A (eval (.Name x pos) env) Q E s :=
  Calls.Name_function_global hk hx (Calls.loadGlobal_global (env := env) (hgl ▸ hg.keeps F.keep) O.bound h) hd

theorem Raise_ownC {e₀ : Expr} {rest : List Expr} (F : Fr h₀ L s.heap m) (hg : h₀.Ns mainGlobals mg) (O : OwnCls x C bm newId mg h₀) (FB : ExcBaseFacts B newId initId bm) (hh : A.handled = none)
    (he : starEach (e₀ :: rest) env = (false, eval e₀ env) :: starEach rest env)
    (hplain : (backTo cpos (starEach rest env)).any (·.1) = false)
    (hk : env.scope.kind = .function) (hx : env.kindOf x = some .globalImplicit) (hd : (x == ("__debug__" : Str)) = false) (hgl : env.globals = mainGlobals)
    (h : wpAny (model prog w) A (spliced (backTo cpos (starEach (e₀ :: rest) env))) (fun vs s₂ => vs.length ≤ sizeLine ∧ (∀ b o, h₀.get? b = some o → s₂.heap.get? b = some o) ∧
      ∀ h' e, Heap.MadeExcOf s₂.heap h' e (.ref C) vs → E (.ref e) { s₂ with heap := h' }) E s) :
    wpAny (model prog w) A (exec (.Raise (some (.Call (.Name x np) (e₀ :: rest) [] cpos)) none pos) env) Q E s := by
  obtain ⟨tl, N, nm, q, bs, hdct, sn, sub, ab, col, dd, k0, k1, k2, k3, k5, mN, hC, hN, hni, T⟩ := O.obj
  refine wpAny_Raise_call_subT (C := C) (nm := nm) (q := q) (N := N) (bs := bs) (bm := tl) (hdct := hdct) (sn := sn) (sub := sub) (ab := ab) (col := col) (dd := dd) (k0 := k0) (k1 := k1) (k2 := k2) (k3 := k3) (k5 := k5)
    FB (mN := mN) (T.hasType FB.hasBase) hh (by rw [he]; show (false || (backTo cpos (starEach rest env)).any (·.1)) = false; rw [hplain]; rfl) hni (ld_ownC F hg O ⟨rfl, ?_⟩ hk hx hd hgl)
  rw [he] at h ⊢
  exact Calls.evalArgs_plain (wpAny_mono h (fun vs s₂ h₂ => ⟨rfl, h₂.1, h₂.2.1 _ _ hC, hN.keeps h₂.2.1, T.keeps h₂.2.1, h₂.2.2⟩) fun _ _ y => y)
end

section
variable {M : Model} {A : Around} {E : Value → Shared → Prop} {s' : Shared} {base g g₂ h : Heap} {outer : List Env} {L a e t : Addr} {m : Str → Option Value} {env : Env} {Q : Unit → Shared → Prop} {news : List (Addr × Obj)}
theorem Below_pushC (K : Below A base outer g) (F : Fr g L h m) (hf : env.frame = some L) (hk : env.scope.kind ≠ .module) : Below (A.deeper env) base (env :: outer) h := by
  have hnew : base.get? L = none := by
    cases hq : base.get? L with
    | none => rfl
    | some o => exact absurd (Nat.lt_of_lt_of_le (Heap.lt_size (K.stays L o hq)) F.above) (Nat.lt_irrefl _)
  refine ⟨Around.frames_deeper K.stack, fun b o e => F.keep b o (K.stays b o e), ?_⟩
  exact .cons hk hf F.ns hnew (K.frames.of_keeps fun b o e _ => ⟨o, F.keep b o e, rfl⟩)
theorem leave_raiseC {cls : Value} {vs : List Value} (K : Below A base outer g) (hx : Heap.MadeExcOf h s'.heap e cls vs) (F : Fr g L h m) (N : News g L h news) (hf : env.frame = some L) (hk : env.scope.kind ≠ .module)
    (hQ : ∀ h' t, RaisedS base g outer e cls t vs news h' → g.UpToSlots h' → Q () { s' with heap := h' }) :
    wpAny M (A.deeper env) (leaving env (.ref e)) Q E s' := by
  have K' := Below_pushC (env := env) K F hf hk
  have hin : ∀ en ∈ (env :: outer), ∀ b, en.frame = some b → b ∈ (env :: outer).filterMap (·.frame) := fun en he b hb => List.mem_filterMap.mpr ⟨en, he, hb⟩
  have st : base.StaysIn (hideAll h ((env :: outer).filterMap (·.frame))) := fun b o q => hideAll_get _ (K'.stays b o q) fun hm => by
    rw [(K'.frames.mem hm).1] at q; cases q
  have split : ∀ b, b ∈ (env :: outer).filterMap (·.frame) → b = L ∨ b ∈ outer.filterMap (·.frame) := fun b hm => by
    obtain ⟨en, he, hf'⟩ := List.mem_filterMap.mp hm
    rcases List.mem_cons.mp he with rfl | he
    · exact .inl (Option.some.inj (hf'.symm.trans hf))
    · exact .inr (List.mem_filterMap.mpr ⟨en, he, hf'⟩)
  have sg : ∀ b o, g.get? b = some o → b ∉ outer.filterMap (·.frame) → (hideAll h ((env :: outer).filterMap (·.frame))).get? b = some o := fun b o q nm => hideAll_get _ (F.keep b o q) fun hm => by
    rcases split b hm with z | z
    · rw [z, kts_self F] at q
      cases q
    · exact nm z
  have hl : ∀ q ∈ news, (hideAll h ((env :: outer).filterMap (·.frame))).get? q.1 = some q.2 ∧ g.get? q.1 = none ∧ base.get? q.1 = none := fun q hq => by
    refine ⟨hideAll_get _ (N q hq).1 fun hm => ?_, (N q hq).2.2, fresh_of_stays K.stays (N q hq).2.2⟩
    rcases split _ hm with z | z
    · exact (N q hq).2.1 z
    · obtain ⟨o, ho, _⟩ := (K.frames.mem z).2
      rw [(N q hq).2.2] at ho; cases ho
  exact wpAny_leaves_madeW K'.stack hf (fun b o q => of_hideAll _ q) (funFrames_hide K'.frames hin) hx fun h' t x1 x2 x3 x4 =>
    hQ h' t ⟨⟨_, st, sg, hl, x1, x3⟩, x2⟩ (((Heap.UpToSlots.of_keeps F.keep).trans (Heap.UpToSlots.of_keeps hx.keeps)).trans x4)
end
end Mine
end
section
set_option maxRecDepth 100000
namespace Mine
open PySem PySem.W PySem.Spec PySem.Calls PyProof.Rows

section
variable {prog : Program} {w : World} {A : Around} {E : Value → Shared → Prop} {s : Shared} {name : Str} {scope : Scope} {L f : Addr} {cd : Value} {h₀ : Heap} {m : Str → Option Value}
theorem text_len {a : Int} (h : a.natAbs.log2 < 1920) : (Str.ofString (toString a)).length ≤ 1921 := by
  have e := int_text_length_le (k := 1920) (by decide) h
  rw [PySem.ofString_length]; omega
/-- the refusal's text: two short ints in a written text -/
theorem fstr2 {c1 c2 xa xb : Str} {k1 k2 : Nat} {p1 p2 p3 p4 p5 p6 p7 : Pos} {a b : Int} {ta tb : Tok} {Q : Value → Shared → Prop} (F : Fr h₀ L s.heap m) (ha : m xa = some (.int a ta)) (hb : m xb = some (.int b tb))
    (la : a.natAbs.log2 < 1920) (lb : b.natAbs.log2 < 1920) (l1 : c1.length ≤ 1000) (l2 : c2.length ≤ 1000)
    (hk : scope.kind = .function) (hxa : (envOfC name scope L f cd).kindOf xa = some .local) (hxb : (envOfC name scope L f cd).kindOf xb = some .local) (da : (xa == ("__debug__" : Str)) = false) (db : (xb == ("__debug__" : Str)) = false)
    (h : ∀ x t tk, Q (.str x t) { s with toks := tk }) :
    wpAny (model prog w) A (eval (.JoinedStr [.Constant (.str c1) k1 p1, .FormattedValue (.Name xa p2) (-1) none p3, .Constant (.str c2) k2 p4, .FormattedValue (.Name xb p5) (-1) none p6] p7) (envOfC name scope L f cd)) Q E s := by
  have ea := text_len la
  have eb := text_len lb
  refine JoinedStr_many ?_
  refine joinParts_cons (Calls.Constant_str ⟨?_, ?_⟩)
  · rw [strLen_append, sizeLine_eq]; show 0 + _ ≤ _; omega
  refine joinParts_cons (FormattedValue_plain (ldLoc F ha (formatField_int_small la ⟨?_, ?_⟩) hk hxa da))
  · rw [strLen_append, strLen_append, sizeLine_eq]; show 0 + _ + _ ≤ _; omega
  show wpAny _ _ (joinParts _ (_ :: _ :: [])) _ _ _
  refine joinParts_cons (Calls.Constant_str ⟨?_, ?_⟩)
  · rw [strLen_append, strLen_append, strLen_append, sizeLine_eq]; show 0 + _ + _ + _ ≤ _; omega
  refine joinParts_cons (FormattedValue_plain (ldLoc (m := m) F hb (formatField_int_small lb ⟨?_, ?_⟩) hk hxb db))
  · rw [strLen_append, strLen_append, strLen_append, strLen_append, sizeLine_eq]; show 0 + _ + _ + _ + _ ≤ _; omega
  refine joinParts_nil (h _ _ _) ?_
  rw [strLen_append, strLen_append, strLen_append, strLen_append, sizeLine_eq]; show 0 + _ + _ + _ + _ ≤ _; omega
end
end Mine
end
section
set_option maxRecDepth 100000
namespace Mine
open PySem PySem.W PySem.Spec PySem.Calls PyProof.Rows
theorem sumQ {prog : Program} {w : World} {A : Around} {E : Value → Shared → Prop} {s : Shared} {h₀ : Heap} {L : Addr} {m : Str → Option Value} {news : List (Addr × Obj)} {l : Addr} {vs : List Value} {ns : List Int} {q : Int} {Q : Value → Shared → Prop} (hh : A.handled = none) (F : Fr h₀ L s.heap m) (N : News h₀ L s.heap news) (hl : s.heap.IsList l vs.toArray) (hi : IntsAre vs ns) (hq : ns.sum = q)
    (h : ∀ h' tk t', Fr h₀ L h' m → News h₀ L h' news → Q (.int q t') { s with heap := h', toks := tk }) :
    wpAny (model prog w) A (call (.builtin "sum") [.ref l]) Q E s := by
  subst hq
  exact sumK hh F N hl hi h
theorem cells_ne {a b c e : Nat} {o1 o2 o3 : Obj} {news : List (Addr × Obj)} (h1 : @Ne Nat a e) (h2 : @Ne Nat b e) (h3 : @Ne Nat c e) (h : ∀ p ∈ news, p.1 ≠ e) : ∀ p ∈ (a, o1) :: (b, o2) :: (c, o3) :: news, p.1 ≠ e := by
  intro p hp
  rcases List.mem_cons.mp hp with rfl | hp
  · exact h1
  rcases List.mem_cons.mp hp with rfl | hp
  · exact h2
  rcases List.mem_cons.mp hp with rfl | hp
  · exact h3
  exact h p hp
theorem small_sum {l : List Int} {q : Int} (h : l.sum = q) (hl : l.length ≤ 6) (hb : ∀ y ∈ l, 0 ≤ y ∧ y ≤ 8) : q.natAbs.log2 < 1920 := by
  have key : ∀ l : List Int, (∀ y ∈ l, 0 ≤ y ∧ y ≤ 8) → 0 ≤ l.sum ∧ l.sum ≤ 8 * (l.length : Int) := by
    intro l
    induction l with
    | nil => intro _; simp
    | cons y l ih =>
      intro hb
      have := hb y List.mem_cons_self
      have := ih fun z hz => hb z (List.mem_cons_of_mem _ hz)
      rw [List.sum_cons, List.length_cons]
      omega
  have k := key l hb
  rw [h] at k
  have n : q.natAbs < 2 ^ 6 := by omega
  by_cases z : q.natAbs = 0
  · rw [z]; decide
  · exact Nat.lt_trans ((Nat.log2_lt z).mpr n) (by decide)
end Mine
end
section
set_option maxRecDepth 100000
namespace Mine
open PySem PySem.W PySem.Spec PySem.Calls PyProof.Rows
section
variable {prog : Program} {w : World} {A A₀ : Around} {E : Value → Shared → Prop} {s : Shared} {K : Frag} {C L : Addr} {h₀ base : Heap} {m mg mb : Str → Option Value} {news : List (Addr × Obj)} {p : Program} {loose : List Str} {mean : ExcName → Option Value} {Q : Value → Shared → Prop}

theorem back_S0 {g : Heap} {R : Result → Shared → Prop} {v : Value} {s' : Shared} (FG : Fr h₀ L g m) (hl : LeaveS0 [L] h₀ L m g R v s') : R (.ok (.ret v)) s' := by
  obtain ⟨g', L', m', news', T', F', N', k⟩ := hl
  have nL : h₀.get? L = none := kts_self FG
  obtain ⟨o, es, ep, hL, hd, r⟩ := FG.ns
  obtain ⟨sl, hs⟩ := T'.up hL
  refine k ⟨⟨{ o with slots := sl }, es, ep, F'.keep _ _ hs, hd, r⟩, fun b o' e => ?_, FG.above⟩ fun p hp => ⟨(N' p hp).1, fun q => ?_, ?_⟩
  · refine F'.keep b o' (T'.other b o' (FG.keep b o' e) fun q => ?_)
    rw [List.mem_singleton.mp q, nL] at e
    cases e
  · have := (N' p hp).2.2
    rw [q, hs] at this
    cases this
  · cases q : h₀.get? p.1 with
    | none => rfl
    | some o' =>
      obtain ⟨sl', hs'⟩ := T'.up (FG.keep _ _ q)
      have := (N' p hp).2.2
      rw [hs'] at this
      cases this

/-- a def called from the law's own frame, in whose body an exception is caught -/
theorem n_defS0 {env : Env} {R : Result → Shared → Prop} {name qual : Str} {params : Arguments} {body : List Stmt} {scope : Scope} {dV kV doc pm cdv ct oc : Value} {an od : Option Addr} {osl : Array (Option Value)} {f : Addr} {args : Args} {binds : List (Str × Value)}
    (B : Below A₀ base [] h₀) (F : Fr h₀ L s.heap m) (X₀ : K.In h₀) (N : News h₀ L s.heap news) (T : Top p loose mean mg mb h₀) (hA : A.frames = some [env]) (hf : env.frame = some L) (hke : env.scope.kind = .function)
    (ho : K.lookup f = some ⟨oc, od, .func (fnOf name qual params body scope dV kV doc pm an cdv ct), osl⟩) (hcd : codeIn K cdv qual = true) (hroom : A.depth < recursionLimit)
    (hbind : BindsTo s (fnOf name qual params body scope dV kV doc pm an cdv ct) args binds) (hloc : ∀ y ∈ binds, scope.names.lookup y.1 = some .local)
    (h : ∀ g L' h₁, Fr h₀ L g m → Fr g L' h₁ (fun y => binds.reverse.lookup y) → News g L' h₁ news → Below A base [env] g → K.In g → Top p loose mean mg mb g → KtsDicts [L] g →
      wpN (model prog w) (A.deeper (envOf qual scope L' f cdv)) (execs body (envOf qual scope L' f cdv))
        (fun fl s' => LeaveS0 [L] h₀ L m g R (match fl with | .ret v => v | _ => .none) s')
        (fun e s' => wpAny (model prog w) (A.deeper (envOf qual scope L' f cdv)) (leaving (envOf qual scope L' f cdv) e) (fun _ s'' => R (.error e) s'') (fun e' s'' => R (.error e') s'') s')
        { s with heap := h₁, toks := s.toks + binds.length })
    (hco : scope.isCoroutine = false) (hgen : scope.isGenerator = false) (hk : scope.kind = .function)
    (hcell : ∀ x ∈ scope.names, x.2 ≠ .cell) : codeN (model prog w) A (.call (.ref f) args) R s := by
  obtain ⟨FG, BG, st, _⟩ := groundX (R := R) B F N hA hf hke
  have XK := X₀.keeps F.keep
  refine n_function (fd := fnOf name qual params body scope dV kV doc pm an cdv ct) (body := body) hroom (XK _ _ ho) rfl hco hgen rfl (codeRec_of XK hcd) (hbind _ _ _ _ ?_)
  refine wpAny_newFunctionEnv hcell hloc (fun h₁ hns hsb => ⟨(T.nolimit.keeps F.keep).fresh _ hsb, n_func ?_⟩) hk
  have hk₁ : ∀ b o, s.heap.get? b = some o → h₁.get? b = some o := fun b o e => hsb.extBut b o (Nat.ne_of_lt (Heap.lt_size e)) (Heap.get?_push_of_some _ e)
  exact n_mono (h _ s.heap.objs.size h₁ FG ⟨hns, fun b o e => hk₁ b o (of_hideAll _ e), Nat.le_of_eq (hideAll_size _ _)⟩
    (fun p hp => ⟨hk₁ _ _ (N p hp).1, Nat.ne_of_lt (Heap.lt_size (N p hp).1), hideAll_none _ (List.mem_map_of_mem hp)⟩) BG (X₀.keeps st) (T.keeps st) (fun b hb => by
      rw [List.mem_singleton.mp hb]
      obtain ⟨o, es, ep, hL, hd, _⟩ := FG.ns
      exact ⟨o, es, ep, hL, hd⟩)) (fun fl s' hl => back_S0 FG hl) fun _ _ y => y
end
end Mine
end
section
set_option maxRecDepth 100000
namespace Mine
open PySem PySem.W PySem.Spec PySem.Calls PyProof.Rows PyProof.V PyProof.Rows.LCg

def cellNone : Obj := { cls := .type "cell", data := .cell none }
/-- the frame of a comprehension whose one variable is a cell -/
theorem nfe_cell {M : Model} {A : Around} {E : Value → Shared → Prop} {s : Shared} {scope : Scope} {globals : Addr} {cl : List (Str × Addr)} {qual : Str} {env : Env} {x : Str} {Q : Env → Shared → Prop}
    (hc : ∀ n, cellsFrom n scope.names cl = (x, n) :: cl) (hp : ∀ h, pushCells h scope.names = h.push cellNone)
    (h : Q { scope := scope, locals := s.heap.objs.size, globals := globals, cells := (x, s.heap.objs.size + 1) :: cl, qual := qual, func := none, code := env.code, frame := env.frame, builtins := env.builtins }
      { s with heap := (s.heap.push { cls := .type "dict", data := .dict #[] }).push cellNone }) :
    wpAny M A (newFunctionEnv scope globals cl [] qual none .none (some env)) Q E s := by
  simp only [newFunctionEnv, Option.isSome_some, if_true]
  refine wpAny_bind (wpAny_alloc ?_)
  refine wpAny_bind (wpAny_layCells _ (fun name kind cells => by cases kind == NameKind.cell <;> simp) _ _ _ _ ?_)
  rw [hc, hp, Heap.size_push]
  simp only [List.forIn_nil]
  exact wpAny_bind (wpAny_pure (wpAny_pure h))

/-- an iterator over a ledger that stays -/
structure ItF (prog : Program) (w : World) (A : Around) (h₀ : Heap) (L : Addr) (news : List (Addr × Obj)) (I : Addr) (fp : List Addr) (n : Nat) (P : Nat → Value → Prop) (St : Nat → Heap → Prop) (h : Heap) : Prop where
  W : Walks prog w A I fp [I] n P St
  io : ∀ i h, St i h → ∃ o, h.get? I = some o
  mv : ∀ i h h' o, St i h → h.get? I = some o → h'.get? I = some o → (∀ b o, h₀.get? b = some o → h'.get? b = some o) → News h₀ L h' news → St i h'
  st : St 0 h
  fps : ∀ b ∈ fp, b < h.objs.size
  ne : L ≠ I
  new : h₀.get? I = none
  off : ∀ p ∈ news, p.1 ≠ I

section
variable {prog : Program} {w : World} {A : Around} {E : Value → Shared → Prop} {s : Shared} {h₀ : Heap} {L : Addr} {m : Str → Option Value} {env : Env} {news : List (Addr × Obj)}

theorem it_range {r : Addr} {a b : Int} {t u v : Tok} {n : Nat} {Q : Value → Shared → Prop} (hh : A.handled = none) (F : Fr h₀ L s.heap m) (N : News h₀ L s.heap news) (hr : IsRange s.heap r a b 1 t u v) (hsm : Builtin.Range.small a b 1 = true) (hn : Builtin.Range.rangeSize a b 1 = ((n : Nat) : Int))
    (h : ∀ I h', ItF prog w A h₀ L news I [I] n (fun i v => ∃ t, v = .int (a + (i : Int)) t) (fun i h => IsRangeIter h I (a + (i : Nat) * 1) ((n : Int) - (i : Nat)) 1) h' → Fr h₀ L h' m → News h₀ L h' news → Q (.ref I) { s with heap := h' }) :
    wpAny (model prog w) A (pyIter (.ref r)) Q E s := by
  refine wpAny_pyIter_range hr hsm ?_
  have up : ∀ (o' : Obj) b o, s.heap.get? b = some o → (s.heap.push o').get? b = some o := fun o' b o e => Heap.get?_push_of_some _ e
  refine h s.heap.objs.size _ ⟨range_walks hh a n, fun i h st => ⟨_, st⟩, fun i h h' o st e e' k N => range_st (h₀ := h₀) (L := L) (nw := news) i h h' o st e e' k N trivial, ?_, ?_, Nat.ne_of_lt F.ns.lt, next_is_new F, fun p hp => Nat.ne_of_lt (Heap.lt_size (N p hp).1)⟩ (F.keeps (up _)) (N.grown (up _))
  · show IsRangeIter _ _ _ _ _
    rw [hn]
    simpa using Heap.get?_push_size _ rfl
  · intro b hb
    rw [List.mem_singleton.mp hb, Heap.size_push]
    exact Nat.lt_succ_self _

theorem it_list {l : Addr} {its : Array Value} {Q : Value → Shared → Prop} (hh : A.handled = none) (F : Fr h₀ L s.heap m) (N : News h₀ L s.heap news) (S : SrcAt h₀ l its news)
    (h : ∀ I h' fp, ItF prog w A h₀ L news I fp its.size (fun i v => its[i]? = some v) (fun i h => h.IsListIter I l i ∧ h.IsList l its) h' → Fr h₀ L h' m → News h₀ L h' news → Q (.ref I) { s with heap := h' }) :
    wpAny (model prog w) A (pyIter (.ref l)) Q E s := by
  have hl := S.list F.keep N
  have hlt : l < s.heap.objs.size := by obtain ⟨_, e, _⟩ := hl; exact Heap.lt_size e
  refine wpAny_pyIter_list hl ?_
  have up : ∀ (o' : Obj) b o, s.heap.get? b = some o → (s.heap.push o').get? b = some o := fun o' b o e => Heap.get?_push_of_some _ e
  refine h s.heap.objs.size _ _ ⟨Walks.list hh s.heap.objs.size l (Nat.ne_of_lt hlt) its, fun i h st => by obtain ⟨o, e, _⟩ := st.1; exact ⟨o, e⟩, fun i h h' o st e e' k N => list_st (h₀ := h₀) (L := L) (nw := news) i h h' o st e e' k N S, ⟨⟨_, Heap.get?_push_size _ rfl, rfl, rfl⟩, hl.push _⟩, ?_, Nat.ne_of_lt F.ns.lt, next_is_new F, fun p hp => Nat.ne_of_lt (Heap.lt_size (N p hp).1)⟩ (F.keeps (up _)) (N.grown (up _))
  intro b hb
  rw [Heap.size_push]
  rcases List.mem_cons.mp hb with rfl | hb
  · exact Nat.lt_succ_self _
  · rw [List.mem_singleton.mp hb]; exact Nat.lt_succ_of_lt hlt

/-- where an element of such a comprehension ends -/
def EndF (h₀ : Heap) (L : Addr) (m : Str → Option Value) (s : Shared) (nn : List (Addr × Obj)) (J : Value → Prop) (y : Value) (s' : Shared) : Prop :=
  ∃ h' tk', s' = { s with heap := h', toks := tk' } ∧ Fr h₀ L h' m ∧ News h₀ L h' nn ∧ J y
theorem EndF.intro {h : Heap} {tk : Nat} {nn all : List (Addr × Obj)} {J : Value → Prop} {y : Value} (F : Fr h₀ L h m) (N : News h₀ L h all) (sub : ∀ p ∈ nn, p ∈ all) (j : J y) : EndF h₀ L m s nn J y { s with heap := h, toks := tk } :=
  ⟨h, tk, rfl, F, fun p hp => N p (sub p hp), j⟩

theorem block_cell {elt iter : Expr} {x : Str} {px : Pos} {scope : Scope} {cl : List (Str × Addr)} {pos : Pos} {I : Addr} {fp : List Addr} {n : Nat} {P : Nat → Value → Prop} {St : Nat → Heap → Prop} {RR : Value → Addr → Result → Shared → Prop}
    (T : ItF prog w A h₀ L news I fp n P St s.heap) (hsz : n ≤ sizeLine) (hc : ∀ n, cellsFrom n scope.names cl = (x, n) :: cl) (hp : ∀ h, pushCells h scope.names = h.push cellNone) (hkind : scope.kind = .function) (hx : (relabel scope env).names.lookup x = some .cell)
    (F : Fr h₀ L s.heap m) (N : News h₀ L s.heap news) (J : Nat → List Value → Prop) (h0 : J 0 [])
    (turn : ∀ i ys, i < n → J i ys → ∀ v oI C oC V oV D h tk (E' : Value → Shared → Prop), P i v → oV.data = .cell (some v) → Fr h₀ L h m → News h₀ L h ((I, oI) :: (C, oC) :: (V, oV) :: (D, lst ys) :: news) →
      (@Ne Nat I C ∧ @Ne Nat I V ∧ @Ne Nat I D ∧ @Ne Nat C V ∧ @Ne Nat C D ∧ @Ne Nat V D) → (∀ p ∈ news, @Ne Nat p.1 I ∧ @Ne Nat p.1 C ∧ @Ne Nat p.1 V ∧ @Ne Nat p.1 D) →
      wpAny (model prog w) A (eval elt (compEnvC scope ((x, V) :: cl) C env)) (EndF h₀ L m s ((I, oI) :: (C, oC) :: (V, oV) :: (D, lst ys) :: news) (fun y => J (i + 1) (ys ++ [y]))) E' { s with heap := h, toks := tk })
    (hRR : ∀ D C h tk m' ys, J n ys → Fr h₀ L h m → News h₀ L h ((D, lst ys) :: news) → (∀ p ∈ news, @Ne Nat p.1 D) → h.Ns C m' → h₀.get? C = none → @Ne Nat C L → @Ne Nat C D → (∀ p ∈ news, @Ne Nat p.1 C) → RR (.ref D) C (.ok .next) { s with heap := h, toks := tk }) :
    wpAny (model prog w) A (newList []) (fun acc s₃ => wpAny (model prog w) A (newFunctionEnv scope env.globals cl [] env.qual none .none (some env)) (fun cenv s₄ =>
      codeAny (model prog w) A (.compStart (.ListComp elt [⟨.Name x px, iter, [], 0⟩] scope pos) 0 (.ref I) acc { cenv with scope := relabel scope env }) (RR acc cenv.locals) s₄) E s₃) E s := by
  refine wpAny_newObj_type (nfe_cell hc hp ?_)
  dsimp only
  obtain ⟨D, hD⟩ : ∃ D : Nat, D = s.heap.objs.size := ⟨_, rfl⟩
  generalize hH1 : s.heap.push { cls := .type "list", dict := none, data := .seq ([] : List Value).toArray } = H1
  have sz1 : H1.objs.size = D + 1 := by rw [← hH1, Heap.size_push, hD]
  generalize hH2 : H1.push { cls := .type "dict", data := .dict #[] } = H2
  have sz2 : H2.objs.size = D + 2 := by rw [← hH2, Heap.size_push, sz1]
  generalize hH3 : H2.push cellNone = H3
  have up3 : ∀ b o, H2.get? b = some o → H3.get? b = some o := fun b o e => hH3 ▸ Heap.get?_push_of_some _ e
  have up2 : ∀ b o, H1.get? b = some o → H2.get? b = some o := fun b o e => hH2 ▸ Heap.get?_push_of_some _ e
  have up1 : ∀ b o, s.heap.get? b = some o → H1.get? b = some o := fun b o e => hH1 ▸ Heap.get?_push_of_some _ e
  have up : ∀ b o, s.heap.get? b = some o → H3.get? b = some o := fun b o e => up3 b o (up2 b o (up1 b o e))
  have gD : H3.get? D = some (lst []) := up3 _ _ (up2 _ _ (by rw [← hH1, hD]; exact Heap.get?_push_size _ rfl))
  have nsC : H3.Ns (D + 1) (fun _ => none) := by
    have e : H2.Ns H1.objs.size (fun _ => none) := hH2 ▸ Heap.Ns.new H1 (.type "dict")
    rw [sz1] at e
    exact e.keeps up3
  have cV : H3.IsCell (D + 2) none := by
    rw [← sz2, ← hH3]
    exact ⟨_, Heap.get?_push_size _ rfl, rfl⟩
  have fresh : ∀ a, D ≤ a → h₀.get? a = none := fun a ha => by
    cases e : h₀.get? a with
    | none => rfl
    | some o' =>
      have := Heap.lt_size (F.keep a o' e)
      rw [hD] at ha
      exact absurd this (Nat.not_lt.mpr ha)
  have lt : ∀ a o, s.heap.get? a = some o → a < D := fun a o e => hD ▸ Heap.lt_size e
  have hLD : L < D := hD ▸ F.ns.lt
  have hIf : I ∈ fp := T.W.sub I (List.mem_singleton.mpr rfl)
  have hID : I < D := hD ▸ T.fps I hIf
  have hI9 : @LT.lt Nat _ I D := hID
  have hL9 : @LT.lt Nat _ L D := hLD
  have i1 : @Ne Nat (D + 1) I := by omega
  have i2 : @Ne Nat (D + 2) I := by omega
  have l0 : @Ne Nat D L := by omega
  have l1 : @Ne Nat (D + 1) L := by omega
  have l2 : @Ne Nat (D + 2) L := by omega
  have c12 : @Ne Nat (D + 1) (D + 2) := by omega
  have c1 : @Ne Nat (D + 1) D := by omega
  have c2 : @Ne Nat (D + 2) D := by omega
  have f1 : h₀.get? (D + 1) = none := fresh _ (Nat.le_add_right _ _)
  have f2 : h₀.get? (D + 2) = none := fresh _ (Nat.le_add_right _ _)
  have nf : ∀ a, D ≤ a → a ∉ fp := fun a ha hm => by have := T.fps a hm; rw [← hD] at this; exact absurd this (Nat.not_lt.mpr ha)
  have off : ∀ p ∈ news, p.1 < D := fun p hp => lt _ _ (N p hp).1
  have eD : (.ref s.heap.objs.size : Value) = .ref D := by rw [hD]
  rw [eD, sz1]
  have hst₁ : St 0 H3 := T.W.frame _ _ _ T.st fun b _ o e => up b o e
  have loop : codeAny (model prog w) A (.compLoop (.ListComp elt [⟨.Name x px, iter, [], 0⟩] scope pos) 0 (.ref I) (.ref D) (compEnvC scope ((x, D + 2) :: cl) (D + 1) env)) (RR (.ref D) (D + 1)) { s with heap := H3 } := by
    refine codeAny_compLoop_tests
      (fun k s' => ∃ h' tk i ys m' v₀, s' = { s with heap := h', toks := tk } ∧ i ≤ n ∧ k = n + 1 - i ∧ ys.length = i ∧ J i ys ∧ St i h' ∧ Fr h₀ L h' m ∧ h'.Ns (D + 1) m' ∧ h'.IsCell (D + 2) v₀ ∧ News h₀ L h' ((D, lst ys) :: news)) ?_ (n + 1)
      ⟨H3, _, 0, [], _, _, rfl, Nat.zero_le _, rfl, rfl, h0, hst₁, F.keeps up, nsC, cV, fun p hp => ?_⟩
    · rintro k s' ⟨h', tk, i, ys, m', v₀, rfl, hi, rfl, hyl, hJ, hst', F', hn', hv', N'⟩
      by_cases hlt : i < n
      · refine T.W.item i _ _ _ hlt hst' fun v h₂ tk₂ hPv hst₂ hk₂ => ?_
        have kp : ∀ b o, b ≠ I → h'.get? b = some o → h₂.get? b = some o := fun b o hb e => hk₂ b o (by simpa using hb) e
        have v2 : h₂.IsCell (D + 2) v₀ := by obtain ⟨o, e, r⟩ := hv'; exact ⟨o, kp _ _ i2 e, r⟩
        refine wpAny_assign_Name (wpAny_storeName_cell hkind hx (by simp [compEnvC, List.lookup]) v2 fun h₃ hv₃ hs₃ => ?_)
        refine wpAny_tests_nil ?_
        simp only [if_true]
        have kp3 : ∀ b o, b ≠ D + 2 → h₂.get? b = some o → h₃.get? b = some o := fun b o hb e => hs₃.extBut b o hb e
        have hst₃ : St (i + 1) h₃ := T.W.frame _ _ _ hst₂ fun b hb o e => kp3 b o (fun q => nf b (q ▸ Nat.le_add_right D 2) hb) e
        obtain ⟨oI, heI⟩ := T.io _ _ hst₃
        have n2 : h₂.Ns (D + 1) m' := hn'.at' fun o e => kp _ o i1 e
        have n3 : h₃.Ns (D + 1) m' := n2.at' fun o e => kp3 _ o c12 e
        obtain ⟨oC, heC, hoC⟩ := ns_obj n3
        obtain ⟨oV, heV, hoV⟩ := hv₃
        have F₂ : Fr h₀ L h₂ m := fr_but F' hk₂ T.ne T.new
        have F₃ : Fr h₀ L h₃ m := F₂.change hs₃ l2 f2
        have NL : News h₀ L h₃ ((D, lst ys) :: news) := fun p hp => by
          have a := N' p hp
          have lp : (p.1 : Nat) ≤ D := by
            rcases List.mem_cons.mp hp with rfl | hp
            · exact Nat.le_refl _
            · exact Nat.le_of_lt (off p hp)
          have nI : p.1 ≠ I := by
            rcases List.mem_cons.mp hp with rfl | hp
            · exact Ne.symm (Nat.ne_of_lt hID)
            · exact T.off p hp
          exact ⟨kp3 _ _ (Nat.ne_of_lt (Nat.lt_of_le_of_lt lp (Nat.lt_add_of_pos_right (by decide)))) (kp _ _ nI a.1), a.2⟩
        have N₃ : News h₀ L h₃ ((I, oI) :: (D + 1, oC) :: (D + 2, oV) :: (D, lst ys) :: news) := fun p hp => by
          rcases List.mem_cons.mp hp with rfl | hp
          · exact ⟨heI, Ne.symm T.ne, T.new⟩
          rcases List.mem_cons.mp hp with rfl | hp
          · exact ⟨heC, l1, f1⟩
          rcases List.mem_cons.mp hp with rfl | hp
          · exact ⟨heV, l2, f2⟩
          exact NL p hp
        have hI' : (I : Nat) < D := hID
        refine wpAny_mono (turn i ys hlt hJ v oI (D + 1) oC (D + 2) oV D h₃ _ _ hPv hoV F₃ N₃ ⟨Ne.symm i1, Ne.symm i2, Nat.ne_of_lt hI9, c12, c1, c2⟩ (fun p hp => ?_)) (fun y s₄ h₄ => ?_) fun _ _ e => e
        · have a : @LT.lt Nat _ p.1 D := off p hp
          exact ⟨T.off p hp, Nat.ne_of_lt (Nat.lt_succ_of_lt a), Nat.ne_of_lt (Nat.lt_succ_of_lt (Nat.lt_succ_of_lt a)), Nat.ne_of_lt a⟩
        obtain ⟨h₄, tk₄, rfl, F₄, N₄, J₄⟩ := h₄
        have zI := (N₄ (I, oI) List.mem_cons_self).1
        have zC := (N₄ (D + 1, oC) (List.mem_cons_of_mem _ List.mem_cons_self)).1
        have zV := (N₄ (D + 2, oV) (List.mem_cons_of_mem _ (List.mem_cons_of_mem _ List.mem_cons_self))).1
        have zD := (N₄ (D, lst ys) (List.mem_cons_of_mem _ (List.mem_cons_of_mem _ (List.mem_cons_of_mem _ List.mem_cons_self)))).1
        have N₄' : News h₀ L h₄ news := fun p hp => N₄ p (List.mem_cons_of_mem _ (List.mem_cons_of_mem _ (List.mem_cons_of_mem _ (List.mem_cons_of_mem _ hp))))
        have hst₄ : St (i + 1) h₄ := T.mv _ _ _ _ hst₃ heI zI F₄.keep N₄'
        refine append_at (hsz := by show ys.toArray.size ≤ sizeLine; rw [List.size_toArray, hyl]; exact Nat.le_trans hi hsz) zD fun h₅ hs₅ hD₅ => ?_
        have kp5 : ∀ b o, b ≠ D → h₄.get? b = some o → h₅.get? b = some o := fun b o hb e => hs₅.extBut b o hb e
        refine ⟨n + 1 - (i + 1), by omega, h₅, tk₄, i + 1, ys ++ [y], m', some v, rfl, hlt, rfl, by rw [List.length_append, List.length_singleton, hyl], J₄, T.W.frame _ _ _ hst₄ fun b hb o e => kp5 b o (fun q => nf b (q ▸ Nat.le_refl D) hb) e,
          F₄.change hs₅ l0 (fresh _ (Nat.le_refl _)), (hoC.ns zC).at' fun o e => kp5 _ o c1 e, ⟨oV, kp5 _ _ c2 zV, hoV⟩, fun p hp => ?_⟩
        rcases List.mem_cons.mp hp with rfl | hp
        · exact ⟨hD₅.trans (congrArg some (lst_snoc ys y)), l0, fresh _ (Nat.le_refl _)⟩
        · exact ⟨kp5 _ _ (Nat.ne_of_lt (off p hp)) (N₄' p hp).1, (N₄' p hp).2⟩
      · obtain rfl : i = n := Nat.le_antisymm hi (Nat.not_lt.mp hlt)
        refine T.W.done _ _ _ hst' fun h₂ tk₂ hk₂ => ?_
        have hI' : (I : Nat) < D := hID
        refine hRR D (D + 1) h₂ tk₂ m' ys hJ (fr_but F' hk₂ T.ne T.new) (news_but N' hk₂ fun p hp => ?_) (fun p hp => Nat.ne_of_lt (off p hp)) (hn'.at' fun o e => hk₂ _ o (by rw [List.mem_singleton]; exact i1) e) f1 l1 c1 (fun p hp => Nat.ne_of_lt (Nat.lt_succ_of_lt (off p hp)))
        rcases List.mem_cons.mp hp with rfl | hp
        · exact Ne.symm (Nat.ne_of_lt hID)
        · exact T.off p hp
    · rcases List.mem_cons.mp hp with rfl | hp
      · exact ⟨gD, l0, fresh _ (Nat.le_refl _)⟩
      · exact ⟨up _ _ (N p hp).1, (N p hp).2⟩
  exact codeAny_compStart_list loop (T.W.self 0 _ _ _ hst₁ loop)
end
end Mine
end
section
set_option maxRecDepth 100000
namespace Mine
open PySem PySem.W PySem.Spec PySem.Calls PyProof.Rows PyProof.V PyProof.Rows.LCg
section
variable {prog : Program} {w : World} {A : Around} {E : Value → Shared → Prop} {s : Shared} {h₀ : Heap} {L : Addr} {m : Str → Option Value} {env : Env} {news : List (Addr × Obj)}

/-- what a comprehension over a cell variable wants of its iterator -/
def CompC (prog : Program) (w : World) (A : Around) (h₀ : Heap) (L : Addr) (m : Str → Option Value) (env : Env) (elt : Expr) (x : Str) (scope : Scope) (cl : List (Str × Addr)) (Fin : Shared → List Value → List (Addr × Obj) → Prop) (it : Value) (s : Shared) : Prop :=
  ∃ (news : List (Addr × Obj)) (I : Addr) (fp : List Addr) (n : Nat) (P : Nat → Value → Prop) (St : Nat → Heap → Prop) (J : Nat → List Value → Prop), it = .ref I ∧ ItF prog w A h₀ L news I fp n P St s.heap ∧ n ≤ sizeLine ∧ Fr h₀ L s.heap m ∧ News h₀ L s.heap news ∧ J 0 [] ∧
    (∀ i ys, i < n → J i ys → ∀ v oI C oC V oV D h tk (E' : Value → Shared → Prop), P i v → oV.data = .cell (some v) → Fr h₀ L h m → News h₀ L h ((I, oI) :: (C, oC) :: (V, oV) :: (D, lst ys) :: news) →
      (@Ne Nat I C ∧ @Ne Nat I V ∧ @Ne Nat I D ∧ @Ne Nat C V ∧ @Ne Nat C D ∧ @Ne Nat V D) → (∀ p ∈ news, @Ne Nat p.1 I ∧ @Ne Nat p.1 C ∧ @Ne Nat p.1 V ∧ @Ne Nat p.1 D) →
      wpAny (model prog w) A (eval elt (compEnvC scope ((x, V) :: cl) C env)) (EndF h₀ L m s ((I, oI) :: (C, oC) :: (V, oV) :: (D, lst ys) :: news) (fun y => J (i + 1) (ys ++ [y]))) E' { s with heap := h, toks := tk }) ∧
    ∀ ys, J n ys → Fin s ys news
theorem CompC.mk {elt : Expr} {x : Str} {scope : Scope} {cl : List (Str × Addr)} {Fin : Shared → List Value → List (Addr × Obj) → Prop} {I : Addr} {fp : List Addr} {n : Nat} {P : Nat → Value → Prop} {St : Nat → Heap → Prop} (J : Nat → List Value → Prop)
    (T : ItF prog w A h₀ L news I fp n P St s.heap) (hn : n ≤ sizeLine) (F : Fr h₀ L s.heap m) (N : News h₀ L s.heap news) (h0 : J 0 [])
    (turn : ∀ i ys, i < n → J i ys → ∀ v oI C oC V oV D h tk (E' : Value → Shared → Prop), P i v → oV.data = .cell (some v) → Fr h₀ L h m → News h₀ L h ((I, oI) :: (C, oC) :: (V, oV) :: (D, lst ys) :: news) →
      (@Ne Nat I C ∧ @Ne Nat I V ∧ @Ne Nat I D ∧ @Ne Nat C V ∧ @Ne Nat C D ∧ @Ne Nat V D) → (∀ p ∈ news, @Ne Nat p.1 I ∧ @Ne Nat p.1 C ∧ @Ne Nat p.1 V ∧ @Ne Nat p.1 D) →
      wpAny (model prog w) A (eval elt (compEnvC scope ((x, V) :: cl) C env)) (EndF h₀ L m s ((I, oI) :: (C, oC) :: (V, oV) :: (D, lst ys) :: news) (fun y => J (i + 1) (ys ++ [y]))) E' { s with heap := h, toks := tk })
    (fin : ∀ ys, J n ys → Fin s ys news) : CompC prog w A h₀ L m env elt x scope cl Fin (.ref I) s := ⟨news, I, fp, n, P, St, J, rfl, T, hn, F, N, h0, turn, fin⟩

theorem ListComp_C {elt iter : Expr} {x : Str} {px : Pos} {scope : Scope} {cl : List (Str × Addr)} {pos : Pos} {Q : Value → Shared → Prop}
    (hclos : closureFor scope env = pure cl) (hc : ∀ n, cellsFrom n scope.names cl = (x, n) :: cl) (hp : ∀ h, pushCells h scope.names = h.push cellNone) (hkind : scope.kind = .function)
    (hnames : ∀ y ∈ scope.names, y.2 = .local → scope.names.lookup y.1 = some .local) (hx : (relabel scope env).names.lookup x = some .cell)
    (h : wpAny (model prog w) A (eval iter env) (fun xv s₁ => wpAny (model prog w) A (pyIter xv) (CompC prog w A h₀ L m env elt x scope cl (fun s₂ => FinE h₀ L m s₂ Q)) E s₁) E s)
    (hs : ∀ x, foldedSetIterable iter env x = pure x := by intro _; rfl) :
    wpAny (model prog w) A (eval (.ListComp elt [⟨.Name x px, iter, [], 0⟩] scope pos) env) Q E s := by
  rw [eval_ListComp]
  refine wpAny_comprehension_free (use := none) rfl hs hclos hkind hnames (wpAny_mono h (fun xv s₁ h₁ => wpAny_mono h₁ (fun it s₂ h₂ => ?_) fun _ _ e => e) fun _ _ e => e)
  obtain ⟨news, I, fp, n, P, St, J, rfl, T, hn, F, N, h0, turn, fin⟩ := h₂
  refine block_cell T hn hc hp hkind hx F N J h0 turn ?_
  intro D C h tk m' ys hJ F' N' o1 hns hC₀ hCL hCD offC
  refine ⟨m', hns, fun h'' hs'' => fin ys hJ D h'' tk (F'.change hs'' hCL hC₀) (fun p hp => ?_) ?_⟩
  · refine ⟨hs''.extBut _ _ ?_ (N' p hp).1, (N' p hp).2⟩
    rcases List.mem_cons.mp hp with rfl | hp
    · exact Ne.symm hCD
    · exact offC p hp
  · exact off1_of o1
where
  off1_of {D : Addr} : ∀ {l : List (Addr × Obj)}, (∀ p ∈ l, @Ne Nat p.1 D) → Off1 D l
    | [], _ => trivial
    | _ :: _, h => ⟨h _ List.mem_cons_self, off1_of fun p hp => h p (List.mem_cons_of_mem _ hp)⟩

theorem Assign_C {elt iter : Expr} {x y : Str} {px py : Pos} {scope : Scope} {cl : List (Str × Addr)} {pos spos : Pos} {Q : Flow → Shared → Prop} (hLe : env.locals = L)
    (hsw : swapsWith (.ListComp elt [⟨.Name x px, iter, [], 0⟩] scope pos) (some (.Name y py)) spos.line env = pure true)
    (hclos : closureFor scope env = pure cl) (hc : ∀ n, cellsFrom n scope.names cl = (x, n) :: cl) (hp : ∀ h, pushCells h scope.names = h.push cellNone) (hkind : scope.kind = .function)
    (hnames : ∀ y ∈ scope.names, y.2 = .local → scope.names.lookup y.1 = some .local) (hx : (relabel scope env).names.lookup x = some .cell)
    (hy : env.kindOf y = some .local) (hpp : (env.scope.kind == .class || (env.scope.kind == .module && env.locals != env.globals)) = false)
    (h : wpAny (model prog w) A (eval iter env) (fun xv s₁ => wpAny (model prog w) A (pyIter xv) (CompC prog w A h₀ L m env elt x scope cl (fun s₂ => FinA h₀ L m s₂ y Q)) E s₁) E s)
    (hs : ∀ x, foldedSetIterable iter env x = pure x := by intro _; rfl) :
    wpAny (model prog w) A (exec (.Assign [.Name y py] (.ListComp elt [⟨.Name x px, iter, [], 0⟩] scope pos) spos) env) Q E s := by
  subst hLe
  rw [exec_Assign_Name_used _ _ _ _ hsw]
  refine wpAny_bind (wpAny_standAt (wpAny_bind ?_))
  show wpAny _ A (do let _ ← comprehension (.ListComp elt [⟨.Name x px, iter, [], 0⟩] scope pos) scope env _ (newList []) false (eval iter env) (some (assign (.Name y py) env))) _ _ s
  refine wpAny_bind (wpAny_mono (wpAny_comprehension_free (use := some (assign (.Name y py) env)) (Q := fun _ s' => Q .next s') rfl hs hclos hkind hnames
    (wpAny_mono h (fun xv s₁ h₁ => wpAny_mono h₁ (fun it s₂ h₂ => ?_) fun _ _ e => e) fun _ _ e => e)) (fun _ s' hq => wpAny_pure (wpAny_pure hq)) fun _ _ e => e)
  obtain ⟨news, I, fp, n, P, St, J, rfl, T, hn, F, N, h0, turn, fin⟩ := h₂
  refine block_cell T hn hc hp hkind hx F N J h0 turn ?_
  intro D C h' tk m' ys hJ F' N' o1 hns hC₀ hCL hCD offC
  show wpAny _ A (assign (.Name y py) env (.ref D)) _ _ _
  refine wpAny_assign_Name (wpAny_storeName_local hy F'.ns (fun h₂ hn₂ hs₂ => ?_) hpp)
  have hL₀ : h₀.get? env.locals = none := Heap.get?_none_of_le F'.above
  have F₂ : Fr h₀ env.locals h₂ (fun z => if z = y then some (.ref D) else m z) := ⟨hn₂, fun b o e => hs₂.extBut b o (fun q => by rw [q, hL₀] at e; cases e) (F'.keep b o e), F'.above⟩
  refine ⟨m', hns.sameBut hs₂ hCL, fun h'' hs'' => fin ys hJ D h'' _ (F₂.change hs'' hCL hC₀) (fun p hp => ?_) (ListComp_C.off1_of o1)⟩
  have z : h₂.get? p.1 = some p.2 := hs₂.extBut _ _ (N' p hp).2.1 (N' p hp).1
  refine ⟨hs''.extBut _ _ ?_ z, (N' p hp).2⟩
  rcases List.mem_cons.mp hp with rfl | hp
  · exact Ne.symm hCD
  · exact offC p hp

/-- the same for a local variable, over any iterator, the ledger staying -/
def CompF (prog : Program) (w : World) (A : Around) (h₀ : Heap) (L : Addr) (m : Str → Option Value) (env : Env) (elt : Expr) (x : Str) (scope : Scope) (cl : List (Str × Addr)) (Fin : Shared → List Value → List (Addr × Obj) → Prop) (it : Value) (s : Shared) : Prop :=
  ∃ (news : List (Addr × Obj)) (I : Addr) (fp : List Addr) (n : Nat) (P : Nat → Value → Prop) (St : Nat → Heap → Prop) (J : Nat → List Value → Prop), it = .ref I ∧ ItF prog w A h₀ L news I fp n P St s.heap ∧ n ≤ sizeLine ∧ Fr h₀ L s.heap m ∧ News h₀ L s.heap news ∧ J 0 [] ∧
    (∀ i ys, i < n → J i ys → ∀ v I oI C oC D m₂ h tk (E' : Value → Shared → Prop), P i v → NsObj oC m₂ → m₂ x = some v → Fr h₀ L h m → News h₀ L h ((I, oI) :: (C, oC) :: (D, lst ys) :: news) → Off3 I C D news → ((@Ne Nat I C) ∧ (@Ne Nat I D) ∧ (@Ne Nat C D)) →
      wpAny (model prog w) A (eval elt (compEnvC scope cl C env)) (EndF h₀ L m s ((I, oI) :: (C, oC) :: (D, lst ys) :: news) (fun y => J (i + 1) (ys ++ [y]))) E' { s with heap := h, toks := tk }) ∧
    ∀ ys, J n ys → Fin s ys news
theorem CompF.mk {elt : Expr} {x : Str} {scope : Scope} {cl : List (Str × Addr)} {Fin : Shared → List Value → List (Addr × Obj) → Prop} {I : Addr} {fp : List Addr} {n : Nat} {P : Nat → Value → Prop} {St : Nat → Heap → Prop} (J : Nat → List Value → Prop)
    (T : ItF prog w A h₀ L news I fp n P St s.heap) (hn : n ≤ sizeLine) (F : Fr h₀ L s.heap m) (N : News h₀ L s.heap news) (h0 : J 0 [])
    (turn : ∀ i ys, i < n → J i ys → ∀ v I oI C oC D m₂ h tk (E' : Value → Shared → Prop), P i v → NsObj oC m₂ → m₂ x = some v → Fr h₀ L h m → News h₀ L h ((I, oI) :: (C, oC) :: (D, lst ys) :: news) → Off3 I C D news → ((@Ne Nat I C) ∧ (@Ne Nat I D) ∧ (@Ne Nat C D)) →
      wpAny (model prog w) A (eval elt (compEnvC scope cl C env)) (EndF h₀ L m s ((I, oI) :: (C, oC) :: (D, lst ys) :: news) (fun y => J (i + 1) (ys ++ [y]))) E' { s with heap := h, toks := tk })
    (fin : ∀ ys, J n ys → Fin s ys news) : CompF prog w A h₀ L m env elt x scope cl Fin (.ref I) s := ⟨news, I, fp, n, P, St, J, rfl, T, hn, F, N, h0, turn, fin⟩
theorem comp_fixed {elt : Expr} {x : Str} {scope : Scope} {cl : List (Str × Addr)} {n : Nat} {P : Nat → Value → Prop} (J : Nat → List Value → Prop) (h0 : J 0 [])
    (turn : ∀ i ys, i < n → J i ys → ∀ v I oI C oC D m₂ h tk (E' : Value → Shared → Prop), P i v → NsObj oC m₂ → m₂ x = some v → Fr h₀ L h m → News h₀ L h ((I, oI) :: (C, oC) :: (D, lst ys) :: news) → Off3 I C D news → ((@Ne Nat I C) ∧ (@Ne Nat I D) ∧ (@Ne Nat C D)) →
      wpAny (model prog w) A (eval elt (compEnvC scope cl C env)) (EndF h₀ L m s ((I, oI) :: (C, oC) :: (D, lst ys) :: news) (fun y => J (i + 1) (ys ++ [y]))) E' { s with heap := h, toks := tk }) :
    CompRest prog w A h₀ L m env elt x scope cl s (fun nw => nw = news) P (fun ys nw => J n ys ∧ nw = news) n 0 [] news := by
  refine comp_loop (J := fun i ys nw => J i ys ∧ nw = news) ⟨h0, rfl⟩ (fun i ys nw hi hJ v I oI C oC D m₂ h tk E' hP hC hx F N off ne => ?_) (fun ys nw h => h)
  obtain ⟨hJ, rfl⟩ := hJ
  refine wpAny_mono (turn i ys hi hJ v I oI C oC D m₂ h tk E' hP hC hx F N off ne) (fun y s' he => ?_) fun _ _ e => e
  obtain ⟨h', tk', rfl, F', N', j⟩ := he
  exact ⟨h', tk', _, rfl, F', N', off, rfl, j, rfl⟩

theorem ListComp_F {elt iter : Expr} {x : Str} {px : Pos} {scope : Scope} {cl : List (Str × Addr)} {pos : Pos} {Q : Value → Shared → Prop}
    (hclos : closureFor scope env = pure cl) (hcell : ∀ y ∈ scope.names, y.2 ≠ .cell) (hkind : scope.kind = .function)
    (hnames : ∀ y ∈ scope.names, y.2 = .local → scope.names.lookup y.1 = some .local) (hx : scope.names.lookup x = some .local)
    (h : wpAny (model prog w) A (eval iter env) (fun xv s₁ => wpAny (model prog w) A (pyIter xv) (CompF prog w A h₀ L m env elt x scope cl (fun s₂ => FinE h₀ L m s₂ Q)) E s₁) E s)
    (hs : ∀ x, foldedSetIterable iter env x = pure x := by intro _; rfl) :
    wpAny (model prog w) A (eval (.ListComp elt [⟨.Name x px, iter, [], 0⟩] scope pos) env) Q E s := by
  rw [eval_ListComp]
  refine wpAny_comprehension_free (use := none) rfl hs hclos hkind hnames (wpAny_mono h (fun xv s₁ h₁ => wpAny_mono h₁ (fun it s₂ h₂ => ?_) fun _ _ e => e) fun _ _ e => e)
  obtain ⟨news, I, fp, n, P, St, J, rfl, T, hn, F, N, h0, turn, fin⟩ := h₂
  refine block_U (S := fun nw => nw = news) T.W hn T.io (fun i h h' o nw st e e' k N' S => T.mv i h h' o st e e' k ((S : nw = news) ▸ N')) hcell hkind hx T.st T.fps F N T.ne T.new T.off rfl (comp_fixed J h0 turn) ?_
  intro D C h tk m' ys news' F' N' o1 hns hC₀ hD₀ hCL hDL hCD offC hfin
  obtain ⟨hJ, rfl⟩ := hfin
  refine ⟨m', hns, fun h'' hs'' => fin ys hJ D h'' tk (F'.change hs'' hCL hC₀) (fun p hp => ?_) o1⟩
  refine ⟨hs''.extBut _ _ ?_ (N' p hp).1, (N' p hp).2⟩
  rcases List.mem_cons.mp hp with rfl | hp
  · exact Ne.symm hCD
  · exact offC p hp

theorem Assign_F {elt iter : Expr} {x y : Str} {px py : Pos} {scope : Scope} {cl : List (Str × Addr)} {pos spos : Pos} {Q : Flow → Shared → Prop} (hLe : env.locals = L)
    (hsw : swapsWith (.ListComp elt [⟨.Name x px, iter, [], 0⟩] scope pos) (some (.Name y py)) spos.line env = pure true)
    (hclos : closureFor scope env = pure cl) (hcell : ∀ y ∈ scope.names, y.2 ≠ .cell) (hkind : scope.kind = .function)
    (hnames : ∀ y ∈ scope.names, y.2 = .local → scope.names.lookup y.1 = some .local) (hx : scope.names.lookup x = some .local)
    (hy : env.kindOf y = some .local) (hpp : (env.scope.kind == .class || (env.scope.kind == .module && env.locals != env.globals)) = false)
    (h : wpAny (model prog w) A (eval iter env) (fun xv s₁ => wpAny (model prog w) A (pyIter xv) (CompF prog w A h₀ L m env elt x scope cl (fun s₂ => FinA h₀ L m s₂ y Q)) E s₁) E s)
    (hs : ∀ x, foldedSetIterable iter env x = pure x := by intro _; rfl) :
    wpAny (model prog w) A (exec (.Assign [.Name y py] (.ListComp elt [⟨.Name x px, iter, [], 0⟩] scope pos) spos) env) Q E s := by
  subst hLe
  rw [exec_Assign_Name_used _ _ _ _ hsw]
  refine wpAny_bind (wpAny_standAt (wpAny_bind ?_))
  show wpAny _ A (do let _ ← comprehension (.ListComp elt [⟨.Name x px, iter, [], 0⟩] scope pos) scope env _ (newList []) false (eval iter env) (some (assign (.Name y py) env))) _ _ s
  refine wpAny_bind (wpAny_mono (wpAny_comprehension_free (use := some (assign (.Name y py) env)) (Q := fun _ s' => Q .next s') rfl hs hclos hkind hnames
    (wpAny_mono h (fun xv s₁ h₁ => wpAny_mono h₁ (fun it s₂ h₂ => ?_) fun _ _ e => e) fun _ _ e => e)) (fun _ s' hq => wpAny_pure (wpAny_pure hq)) fun _ _ e => e)
  obtain ⟨news, I, fp, n, P, St, J, rfl, T, hn, F, N, h0, turn, fin⟩ := h₂
  refine block_U (S := fun nw => nw = news) T.W hn T.io (fun i h h' o nw st e e' k N' S => T.mv i h h' o st e e' k ((S : nw = news) ▸ N')) hcell hkind hx T.st T.fps F N T.ne T.new T.off rfl (comp_fixed J h0 turn) ?_
  intro D C h' tk m' ys news' F' N' o1 hns hC₀ hD₀ hCL hDL hCD offC hfin
  obtain ⟨hJ, rfl⟩ := hfin
  show wpAny _ A (assign (.Name y py) env (.ref D)) _ _ _
  refine wpAny_assign_Name (wpAny_storeName_local hy F'.ns (fun h₂ hn₂ hs₂ => ?_) hpp)
  have hL₀ : h₀.get? env.locals = none := Heap.get?_none_of_le F'.above
  have F₂ : Fr h₀ env.locals h₂ (fun z => if z = y then some (.ref D) else m z) := ⟨hn₂, fun b o e => hs₂.extBut b o (fun q => by rw [q, hL₀] at e; cases e) (F'.keep b o e), F'.above⟩
  refine ⟨m', hns.sameBut hs₂ hCL, fun h'' hs'' => fin ys hJ D h'' _ (F₂.change hs'' hCL hC₀) (fun p hp => ?_) o1⟩
  have z : h₂.get? p.1 = some p.2 := hs₂.extBut _ _ (N' p hp).2.1 (N' p hp).1
  refine ⟨hs''.extBut _ _ ?_ z, (N' p hp).2⟩
  rcases List.mem_cons.mp hp with rfl | hp
  · exact Ne.symm hCD
  · exact offC p hp
end
end Mine
end
section
set_option maxRecDepth 100000
namespace Mine
open PySem PySem.W PySem.Spec PySem.Calls PyProof.Rows PyProof.V PyProof.Rows.LCg
section
variable {prog : Program} {w : World} {A : Around} {E : Value → Shared → Prop} {s : Shared} {h₀ : Heap} {L : Addr} {env : Env}

/-- how a turn of a loop over a range ends -/
def NextR (h₀ : Heap) (L : Addr) (s : Shared) (I : Addr) (oI : Obj) (J' : (Str → Option Value) → List (Addr × Obj) → Prop) (Q : Flow → Shared → Prop) (f : Flow) (s' : Shared) : Prop :=
  match f with
  | .ret v => Q (.ret v) s'
  | .brk => Q .next s'
  | _ => ∃ h' tk' m' news', s' = { s with heap := h', toks := tk' } ∧ Fr h₀ L h' m' ∧ News h₀ L h' ((I, oI) :: news') ∧ (∀ p ∈ news', p.1 ≠ I) ∧ J' m' news'
theorem NextR.mk {I : Addr} {oI : Obj} {J' : (Str → Option Value) → List (Addr × Obj) → Prop} {Q : Flow → Shared → Prop} {h' : Heap} {tk' : Nat} {m' : Str → Option Value} {all : List (Addr × Obj)} (news' : List (Addr × Obj))
    (F : Fr h₀ L h' m') (N : News h₀ L h' all) (sub : ∀ p ∈ (I, oI) :: news', p ∈ all) (ne : ∀ p ∈ news', p.1 ≠ I) (j : J' m' news') : NextR h₀ L s I oI J' Q .next { s with heap := h', toks := tk' } :=
  ⟨h', tk', m', news', rfl, F, fun p hp => N p (sub p hp), ne, j⟩

theorem n_range_loop {I : Addr} {a : Int} {n : Nat} {target : Expr} {body : List Stmt} {R : Result → Shared → Prop} (J : Nat → (Str → Option Value) → List (Addr × Obj) → Prop) (hh : A.handled = none) (hI : h₀.get? I = none) (hIL : L ≠ I)
    (turn : ∀ i t m news h tk oI, i < n → J i m news → Fr h₀ L h m → News h₀ L h ((I, oI) :: news) → (∀ p ∈ news, p.1 ≠ I) →
      wpAny (model prog w) A (assign target env (.int (a + (i : Int)) t)) (fun _ s₂ => wpN (model prog w) A (execs body env) (NextR h₀ L s I oI (J (i + 1)) (fun f s' => R (.ok f) s')) (notedBy (model prog w) A env fun e s' => R (.error e) s') s₂)
        (notedBy (model prog w) A env fun e s' => R (.error e) s') { s with heap := h, toks := tk })
    (done : ∀ m news h tk, J n m news → Fr h₀ L h m → News h₀ L h news → R (.ok .next) { s with heap := h, toks := tk })
    (ht : ∀ v, letOwnedTupleGo target (.ref I) v = pure ()) :
    ∀ (k i : Nat) m news h tk, n - i = k → i ≤ n → J i m news → Fr h₀ L h m → News h₀ L h news → (∀ p ∈ news, p.1 ≠ I) → IsRangeIter h I (a + (i : Nat) * 1) ((n : Int) - (i : Nat)) 1 →
      codeN (model prog w) A (.forLoop target (.ref I) body [] env) R { s with heap := h, toks := tk } := by
  have W : Walks prog w A I [I] [I] n (fun i v => ∃ t, v = .int (a + (i : Int)) t) (fun i h => IsRangeIter h I (a + (i : Nat) * 1) ((n : Int) - (i : Nat)) 1) := range_walks hh a n
  intro k
  induction k with
  | zero =>
    intro i m news h tk e hi hJ F N ne st
    have : i = n := by omega
    subst this
    refine n_turn (W.done _ _ _ st fun h₂ tk₂ hk₂ => ?_) ht
    show wpAny _ A (execs [] env) _ _ _
    exact fun _ _ _ => done m news h₂ tk₂ hJ (fr_but F hk₂ hIL hI) (news_but N hk₂ ne)
  | succ k ih =>
    intro i m news h tk e hi hJ F N ne st
    refine n_turn (W.item i _ _ _ (by omega) st fun v h₂ tk₂ hv st₂ hk₂ => ?_) ht
    obtain ⟨t, rfl⟩ := hv
    have F₂ := fr_but F hk₂ hIL hI
    have N₂ := news_but N hk₂ ne
    obtain ⟨oI, hoI⟩ : ∃ oI, h₂.get? I = some oI := ⟨_, st₂⟩
    refine wpAny_mono (turn i t m news h₂ tk₂ oI (by omega) hJ F₂ (fun p hp => ?_) ne) (fun _ s₂ h₂' => n_mono h₂' (fun f s₃ h₃ => ?_) fun _ _ e => e) fun _ _ e => e
    · rcases List.mem_cons.mp hp with rfl | hp
      · exact ⟨hoI, Ne.symm hIL, hI⟩
      · exact N₂ p hp
    have fin : (∃ h' tk' m' news', s₃ = { s with heap := h', toks := tk' } ∧ Fr h₀ L h' m' ∧ News h₀ L h' ((I, oI) :: news') ∧ (∀ p ∈ news', p.1 ≠ I) ∧ J (i + 1) m' news') → codeN (model prog w) A (.forLoop target (.ref I) body [] env) R s₃ := by
      rintro ⟨h', tk', m', news', rfl, F', N', ne', J'⟩
      refine ih (i + 1) m' news' h' tk' (by omega) (by omega) J' F' (fun p hp => N' p (List.mem_cons_of_mem _ hp)) ne' ?_
      have z := (N' (I, oI) List.mem_cons_self).1
      have st₂' : h₂.get? I = some _ := st₂
      show h'.get? I = some _
      rw [z, ← hoI]
      exact st₂'
    cases f with
    | ret v => exact h₃
    | brk => exact h₃
    | next => exact fin h₃
    | cont => exact fin h₃

/-- what a loop over a range wants of its source -/
def ForSrc (prog : Program) (w : World) (A : Around) (h₀ : Heap) (L : Addr) (env : Env) (target : Expr) (body : List Stmt) (Q : Flow → Shared → Prop) (E : Value → Shared → Prop) (s : Shared) (J : Nat → (Str → Option Value) → List (Addr × Obj) → Prop) (x : Value) (s₁ : Shared) : Prop :=
  ∃ r a b t u v n m news h tk, x = .ref r ∧ s₁ = { s with heap := h, toks := tk } ∧ IsRange h r a b 1 t u v ∧ Builtin.Range.small a b 1 = true ∧ Builtin.Range.rangeSize a b 1 = ((n : Nat) : Int) ∧ Fr h₀ L h m ∧ News h₀ L h news ∧ J 0 m news ∧
      (∀ I i t m news h tk oI, i < n → J i m news → Fr h₀ L h m → News h₀ L h ((I, oI) :: news) → (∀ p ∈ news, p.1 ≠ I) →
        wpAny (model prog w) A (assign target env (.int (a + (i : Int)) t)) (fun _ s₂ => wpN (model prog w) A (execs body env) (NextR h₀ L s I oI (J (i + 1)) Q) (notedBy (model prog w) A env fun e s' => cameBackBy (model prog w) A env E e s') s₂)
          (notedBy (model prog w) A env fun e s' => cameBackBy (model prog w) A env E e s') { s with heap := h, toks := tk }) ∧
      (∀ m news h tk, J n m news → Fr h₀ L h m → News h₀ L h news → Q .next { s with heap := h, toks := tk })
theorem ForSrc.mk {target : Expr} {body : List Stmt} {Q : Flow → Shared → Prop} {J : Nat → (Str → Option Value) → List (Addr × Obj) → Prop} {r : Addr} {a b : Int} {t u v : Tok} {m : Str → Option Value} {news : List (Addr × Obj)} {h : Heap} {tk : Nat} (n : Nat)
    (hr : IsRange h r a b 1 t u v) (hsm : Builtin.Range.small a b 1 = true) (hn : Builtin.Range.rangeSize a b 1 = ((n : Nat) : Int)) (F : Fr h₀ L h m) (N : News h₀ L h news) (j0 : J 0 m news)
    (turn : ∀ I i t m news h tk oI, i < n → J i m news → Fr h₀ L h m → News h₀ L h ((I, oI) :: news) → (∀ p ∈ news, p.1 ≠ I) →
        wpAny (model prog w) A (assign target env (.int (a + (i : Int)) t)) (fun _ s₂ => wpN (model prog w) A (execs body env) (NextR h₀ L s I oI (J (i + 1)) Q) (notedBy (model prog w) A env fun e s' => cameBackBy (model prog w) A env E e s') s₂)
          (notedBy (model prog w) A env fun e s' => cameBackBy (model prog w) A env E e s') { s with heap := h, toks := tk })
    (done : ∀ m news h tk, J n m news → Fr h₀ L h m → News h₀ L h news → Q .next { s with heap := h, toks := tk }) : ForSrc prog w A h₀ L env target body Q E s J (.ref r) { s with heap := h, toks := tk } :=
  ⟨r, a, b, t, u, v, n, m, news, h, tk, rfl, rfl, hr, hsm, hn, F, N, j0, turn, done⟩
/-- a loop over a range, its variable a local or a cell -/
theorem n_for_R {target iter : Expr} {body : List Stmt} {pos : Pos} {Q : Flow → Shared → Prop} (J : Nat → (Str → Option Value) → List (Addr × Obj) → Prop) (hh : A.handled = none)
    (h : wpAny (model prog w) A (eval iter env) (ForSrc prog w A h₀ L env target body Q E s J) E s)
    (hs : ∀ x, foldedSetIterable iter env x = pure x) (ht : ∀ it v, letOwnedTupleGo target it v = pure ()) :
    wpN (model prog w) A (exec (.For target iter body [] pos) env) Q E s := by
  refine n_for (wpAny_mono h (fun x s₁ h₁ => ?_) fun _ _ e => e) hs
  obtain ⟨r, a, b, t, u, v, n, m, news, h, tk, rfl, rfl, hr, hsm, hn, F, N, j0, turn, done⟩ := h₁
  refine wpAny_pyIter_range hr hsm ?_
  have up : ∀ (o' : Obj) b o, h.get? b = some o → (h.push o').get? b = some o := fun o' b o e => Heap.get?_push_of_some _ e
  refine n_range_loop (h₀ := h₀) (L := L) (s := s) (n := n) J hh (next_is_new F) (Nat.ne_of_lt F.ns.lt) (fun i t m news h tk oI hi hJ F N ne => turn _ i t m news h tk oI hi hJ F N ne) (fun m news h tk hJ F N => done m news h tk hJ F N) (ht _) n 0 m news _ tk rfl (Nat.zero_le _) j0 (F.keeps (up _)) (N.grown (up _)) (fun p hp => Nat.ne_of_lt (Heap.lt_size (N p hp).1)) ?_
  show IsRangeIter _ _ _ _ _
  rw [hn]
  simpa using Heap.get?_push_size _ rfl
end
end Mine
end
section
set_option maxRecDepth 100000
namespace Mine
open PySem PySem.W PySem.Spec PySem.Calls PyProof.Rows PyProof.V PySem.SeqAt
open AutoSeq1 (wpAny_loadPart')
open MeetsSeq MeetsSeq2 MeetsSeq3 SeqRoads2

/-- two values are found equal, in this world -/
def EqT (prog : Program) (w : World) (A : Around) (s : Shared) (y x : Value) : Prop := ∀ (E : Value → Shared → Prop) (Q : Bool → Shared → Prop), Q true s → wpAny (model prog w) A (eqBool y x) Q E s
def RcT (prog : Program) (w : World) (A : Around) (s : Shared) (y x : Value) : Prop := ∀ (E : Value → Shared → Prop) (Q : Value → Shared → Prop), Q (.bool true) s → wpAny (model prog w) A (richCompare .Eq y x) Q E s

section
variable {prog : Program} {w : World} {A : Around} {E : Value → Shared → Prop} {s : Shared}
theorem EqT.of {y x : Value} (h : EqAt A s y x true) : EqT prog w A s y x := fun E Q q => h prog w E Q q
theorem EqT.of_refs {l b : Addr} (h : RcT prog w A s (.ref l) (.ref b)) : EqT prog w A s (.ref l) (.ref b) := fun E Q hq => by
  unfold eqBool
  refine wpAny_holding ?_
  refine wpAny_ite_split (fun hab => ?_) (fun _ => ?_)
  · exact wpAny_bind (wpAny_rule (wpAny_pure hq))
  · exact wpAny_bind (h E _ (wpAny_truthy_bool hq))

def MeetW (prog : Program) (w : World) (A : Around) (t : Sem Fin) (R : Result → Shared → Prop) (s : Shared) : Prop :=
  wpAny (model prog w) A.in1 t (fun fin s' => match fin with | .done f => R (.ok f) s' | .again c' => c'.quiet = true ∧ codeAny (model prog w) A c' R s') (fun e s' => R (.error e) s') s

theorem eq_loopT {A : Around} {R : Result → Shared → Prop} (l b : Addr) (items items2 : Array Value) (n n2 : Nat) (hsz : items.size = items2.size) (k : Nat) : ∀ (i : Nat) (s : Shared), items.size - i = k →
    s.heap.get? l = some { cls := .type "list", data := .seq items n } → s.heap.get? b = some { cls := .type "list", data := .seq items2 n2 } →
    (∀ j (h1 : j < items.size) (h2 : j < items2.size), EqT prog w A.in1 s items[j] items2[j]) → R (.ok (.ret (.bool true))) s →
    MeetW prog w A (Builtin.«list.__eq__.loop» ⟨[.ref l, .ref b, rawInt i, rawInt 2], []⟩) R s := by
  induction k with
  | zero =>
    intro i s hk hl hb he h
    unfold MeetW
    obtain ⟨hp, g, d, tk, os⟩ := s
    wp_walk using wpAny_loadPart' hl, wpAny_loadPart' hb
    have hi1 : items[((i : Nat) : Int).toNat]? = none := by simp; omega
    have hi2 : items2[((i : Nat) : Int).toNat]? = none := by simp; omega
    rw [hi1, hi2]
    wp_walk using wpAny_loadPart' hl, wpAny_loadPart' hb
    show R (.ok (.ret (.bool (items.size == items2.size)))) _
    rw [hsz]
    simpa using h
  | succ k ih =>
    intro i s hk hl hb he h
    unfold MeetW
    obtain ⟨hp, g, d, tk, os⟩ := s
    wp_walk using wpAny_loadPart' hl, wpAny_loadPart' hb
    have hlt : i < items.size := by omega
    have hlt2 : i < items2.size := by omega
    have hi1 : items[((i : Nat) : Int).toNat]? = some items[i] := by simp [hlt]
    have hi2 : items2[((i : Nat) : Int).toNat]? = some items2[i] := by simp [hlt2]
    have hc : ((i : Int) + 1) = ((i + 1 : Nat) : Int) := by push_cast; rfl
    rw [hi1, hi2]
    refine wpAny_bind (he i hlt hlt2 _ _ ?_)
    wp_walk
    rw [hc]
    exact ⟨plainId_quiet plain_eq_loop _, codeAny_builtin entry_eq_loop (by
      rw [Around.under_plainId plain_eq_loop _]
      exact ih (i + 1) _ (by omega) hl hb he h)⟩

theorem list_eqT {A : Around} {R : Result → Shared → Prop} {s : Shared} (l b : Addr) (items items2 : Array Value) (n n2 : Nat) (hsz : items.size = items2.size)
    (hl : s.heap.get? l = some { cls := .type "list", data := .seq items n }) (hb : s.heap.get? b = some { cls := .type "list", data := .seq items2 n2 })
    (he : ∀ j (h1 : j < items.size) (h2 : j < items2.size), EqT prog w A.in1 s items[j] items2[j]) (h : R (.ok (.ret (.bool true))) s) :
    MeetW prog w A (Builtin.«list.__eq__» ⟨[.ref l, .ref b], []⟩) R s := by
  unfold MeetW
  obtain ⟨hp, g, d, tk, os⟩ := s
  have f3 := AutoSeq1.sub_list_list
  have hne : ¬ (items.size != items2.size) = true := by simp [hsz]
  wp_walk using wpAny_loadPart' hl, wpAny_loadPart' hb
  exact ⟨plainId_quiet plain_eq_loop _, codeAny_builtin entry_eq_loop (by
    rw [Around.under_plainId plain_eq_loop _]
    exact eq_loopT l b items items2 n n2 hsz _ 0 _ rfl hl hb he h)⟩

theorem tuple_eqT {A : Around} {R : Result → Shared → Prop} {s : Shared} {l b : Addr} (items items2 : Array Value) {n n2 : Nat} (hsz : items.size = items2.size)
    (hl : s.heap.get? l = some { cls := .type "tuple", data := .seq items n }) (hb : s.heap.get? b = some { cls := .type "tuple", data := .seq items2 n2 })
    (he : ∀ j (h1 : j < items.size) (h2 : j < items2.size), EqT prog w A.in1 s items[j] items2[j]) (h : R (.ok (.ret (.bool true))) s) :
    MeetW prog w A (Builtin.«tuple.__eq__» ⟨[.ref l, .ref b], []⟩) R s := by
  unfold MeetW
  obtain ⟨hp, g, d, tk, os⟩ := s
  have f2 := AutoSeq1.sub_tuple_tuple
  refine wpAny_mono (Q := fun fin s' => ∃ v, fin = .done (.ret v) ∧ R (.ok (.ret v)) s') ?_ (fun fin s' h' => by obtain ⟨v, rfl, hv⟩ := h'; exact hv) fun _ _ x => x
  wp_walk using wpAny_loadPart' hl, wpAny_loadPart' hb, wpAny_forIn_list _ (fun rest c s' => c.1 = none ∧ s' = ⟨hp, g, d, tk, os⟩ ∧ ∃ i, rest = (items.toList.zip items2.toList).drop i) _
  case turn =>
    rintro ⟨y, x⟩ rest c s' ⟨hc, rfl, i, hz⟩
    have hlt : i < (items.toList.zip items2.toList).length := by
      rcases Nat.lt_or_ge i (items.toList.zip items2.toList).length with h' | h'
      · exact h'
      · rw [List.drop_of_length_le h'] at hz; cases hz
    have hm : i < min items.size items2.size := by simpa using hlt
    have h1 : i < items.size := Nat.lt_of_lt_of_le hm (Nat.min_le_left _ _)
    have h2 : i < items2.size := Nat.lt_of_lt_of_le hm (Nat.min_le_right _ _)
    rw [List.drop_eq_getElem_cons hlt] at hz
    injection hz with hyx hrest
    have hy : y = items[i] := by have := congrArg Prod.fst hyx; simpa using this
    have hx : x = items2[i] := by have := congrArg Prod.snd hyx; simpa using this
    subst hy hx
    refine wpAny_bind (he i h1 h2 _ _ ?_)
    wp_walk
    exact ⟨rfl, rfl, i + 1, hrest⟩
  case fin =>
    rintro ⟨b1, b2⟩ s' ⟨hb', rfl, i, hz⟩
    simp only at hb'
    subst hb'
    wp_walk
    exact ⟨_, rfl, by simpa [Builtin.Tuple.tupleCompareSizes, hsz] using h⟩
  case h => exact ⟨rfl, rfl, 0, rfl⟩

theorem call_meetW {T : String} {name : Str} {id : String} {b : Builtin} {self : Value} {rest : List Value} {Q : Value → Shared → Prop} (h : Slot T name id) (hT : s.TypeIs self T) (hb : entryFor table id = some b) (ha : argsOk id ⟨self :: rest, []⟩)
    (hc : MeetW prog w A (b ⟨self :: rest, []⟩) (wants Q E) s) : wpAny (model prog w) A (call (.builtin id) (self :: rest)) Q E s :=
  wpAny_call (codeAny_call_builtin h.plain hb (h.check _ _ _ _ _ _ _ _ hT ha hc))

theorem RcT.lists {l b : Addr} {items items2 : Array Value} {n n2 : Nat} (hl : s.heap.get? l = some { cls := .type "list", data := .seq items n }) (hb : s.heap.get? b = some { cls := .type "list", data := .seq items2 n2 }) (hsz : items.size = items2.size) (hu : A.units < cLine)
    (he : ∀ j (h1 : j < items.size) (h2 : j < items2.size), EqT prog w A.in1 s items[j] items2[j]) : RcT prog w A s (.ref l) (.ref b) := fun E Q h => by
  refine wpAny_richCompare_same_room (op := .Eq) (T := "list") ⟨_, hl, rfl⟩ ⟨_, hb, rfl⟩ F.slot_list_eq (call_meetW F.slot_list_eq ⟨_, hl, rfl⟩ F.entry_list_eq (F.args_list_eq_2 _ _) ?_) hu
  exact list_eqT l b items items2 n n2 hsz hl hb he ⟨(fun x => nomatch x), h⟩
theorem RcT.tuples {l b : Addr} {items items2 : Array Value} {n n2 : Nat} (hl : s.heap.get? l = some { cls := .type "tuple", data := .seq items n }) (hb : s.heap.get? b = some { cls := .type "tuple", data := .seq items2 n2 }) (hsz : items.size = items2.size) (hu : A.units < cLine)
    (he : ∀ j (h1 : j < items.size) (h2 : j < items2.size), EqT prog w A.in1 s items[j] items2[j]) : RcT prog w A s (.ref l) (.ref b) := fun E Q h => by
  refine wpAny_richCompare_same_room (op := .Eq) (T := "tuple") ⟨_, hl, rfl⟩ ⟨_, hb, rfl⟩ F.slot_tuple_eq (call_meetW F.slot_tuple_eq ⟨_, hl, rfl⟩ F.entry_tuple_eq (F.args_tuple_eq_2 _ _) ?_) hu
  exact tuple_eqT items items2 hsz hl hb he ⟨(fun x => nomatch x), h⟩
theorem RcT.dicts {a b : Addr} {k : Str} {v : Int} {ta tb : Tok} (la : (a == sysModules) = false) (lb : (b == sysModules) = false)
    (da : s.heap.DictOf (PySem.strKind prog w) a [(k, .int v ta)]) (db : s.heap.DictOf (PySem.strKind prog w) b [(k, .int v tb)]) (hu : A.units < cLine) : RcT prog w A s (.ref a) (.ref b) := fun E Q h => by
  have e : SeqAt.EqAt A.in1 s (.int v ta) (.int v tb) true := by
    have := SeqAt.EqAt.int_int (A := A.in1) (s := s) v ta v tb
    simpa using this
  exact keq_eq la lb da db hu (fun _ => KeqHits.hit (b := true) (by simp [valueAt]) e .nil) (by simpa using h)
end
end Mine
end
section
set_option maxRecDepth 100000
namespace Mine
open PySem PySem.W PySem.Calls PyProof.Rows PySem.Spec PyProof.V PyProof.Rows.LCg

/-- a maker's things in a ledger: stubs and graph -/
structure Mk (prog : Program) (w : World) (S0 : List (Addr × Obj)) (x d ag an aa : Nat) (es : List DictEntry) (f : Nat → Nat) (n na : Nat) (B : Nat → List (Str × Value)) (LA LB : Nat) (P : Nat → Nat) (as : List Nat) (st : St) (S G : List (Addr × Obj)) (Ad : Nat → List (Int × Value)) : Prop where
  ap : Apart S G
  ti : TI S S0 LA LB P as st.bs st.e n
  gi : GI prog w G x d ag an aa es 5 f n Ad B []
  adj : AdjOf Ad st.N n
  eo : EdgeOk prog w G x d ag an aa f n Ad
  ok : st.Ok n na
def WhJ (prog : Program) (w : World) (S0 : List (Addr × Obj)) (x d ag an aa : Nat) (es : List DictEntry) (f : Nat → Nat) (n na : Nat) (B : Nat → List (Str × Value)) (LA LB : Nat) (P : Nat → Nat) (Pure : List Nat → St → Prop) (k : Nat) (m₁ : Str → Option Value) (nn : List (Addr × Obj)) : Prop :=
  (m₁ (Str.ofString "astubs") = some (.ref LA) ∧ m₁ (Str.ofString "bstubs") = some (.ref LB) ∧ m₁ (Str.ofString "G") = some (.ref x)) ∧
  ∃ S G as st Ad, k = as.length ∧ nn = S ++ G ∧ Mk prog w S0 x d ag an aa es f n na B LA LB P as st S G Ad ∧ Pure as st
/-- how a maker's loop ends -/
def WhEnd (prog : Program) (w : World) (S0 : List (Addr × Obj)) (x d ag an aa : Nat) (es : List DictEntry) (f : Nat → Nat) (n : Nat) (B : Nat → List (Str × Value)) (PureEnd : St → Prop) (h₀ : Heap) (L : Addr) (s : Shared) (fl : Flow) (s' : Shared) : Prop :=
  fl = .next ∧ ∃ h tk m S G st Ad, s' = { s with heap := h, toks := tk } ∧ Fr h₀ L h m ∧ m (Str.ofString "G") = some (.ref x) ∧ News h₀ L h (S ++ G) ∧ (∀ p ∈ S0, p ∈ S) ∧ Apart S G ∧ GI prog w G x d ag an aa es 5 f n Ad B [] ∧ AdjOf Ad st.N n ∧ PureEnd st

theorem nodup_from {l : List Nat} {a n : Nat} (h : l.Nodup) (hl : ∀ v ∈ l, a ≤ v ∧ v < n) : l.length ≤ n - a := by
  have : (l.map (· - a)).length ≤ n - a := by
    refine nodup_len ?_ ?_
    · rw [List.Nodup, List.pairwise_map]
      refine List.Pairwise.imp_of_mem ?_ h
      intro u v hu hv ne e
      have := hl u hu
      have := hl v hv
      omega
    · intro k hk
      obtain ⟨v, hv, rfl⟩ := List.mem_map.mp hk
      have := hl v hv
      show v - a < n - a
      omega
  simpa using this
theorem last_ne (l : List Nat) (u : Nat) : (!(l ++ [u]).isEmpty) = true := by simp
theorem nil_or_last (l : List Nat) : l = [] ∨ ∃ l' u, l = l' ++ [u] := by
  rcases List.eq_nil_or_concat l with h | ⟨l', u, h⟩
  · exact .inl h
  · exact .inr ⟨l', u, by rw [h, List.concat_eq_append]⟩
section
variable {prog : Program} {w : World} {A : Around} {E : Value → Shared → Prop} {s : Shared} {h₀ : Heap} {L : Addr} {m : Str → Option Value} {news : List (Addr × Obj)}
theorem truthy_stubs {D : Addr} {P : Nat → Nat} {l : List Nat} {c : Nat} {Q : Bool → Shared → Prop} (N : News h₀ L s.heap news) (hm : (D, listOf (refsOf P l) c) ∈ news) (hl : l.length ≤ 60) {b : Bool} (hb : (!l.isEmpty) = b) (h : Q b { s with toks := s.toks + 1 + 1 }) : wpAny (model prog w) A (truthy (.ref D)) Q E s := by
  subst hb
  refine wpAny_truthy_list (News.isList N hm) ?_ ?_
  · simp; omega
  · have : (!(refsOf P l).isEmpty) = !l.isEmpty := by cases l <;> simp
    rw [this]
    exact h
end
/-- a ledger with one entry brought to its front, and what is left -/
theorem front1 {h₀ h : Heap} {L : Addr} {Y : List (Addr × Obj)} {a : Nat} {o : Obj} (N : News h₀ L h Y) (hm : (a, o) ∈ Y) : News h₀ L h ((a, o) :: rms Y [a]) ∧ ∀ p ∈ rms Y [a], p.1 ≠ a :=
  ⟨front_of (es := [(a, o)]) N (fun p hp => by rw [List.mem_singleton.mp hp]; exact hm), rms_ne (by simp)⟩
end Mine
end
section
set_option maxRecDepth 100000
namespace Mine
open PySem PySem.W PySem.Calls PyProof.Rows PySem.Spec PyProof.V PyProof.Rows.LCg
section
variable {h₀ h : Heap} {L : Addr} {S G es es' : List (Addr × Obj)} {keys : List Nat}
theorem mem_back {p : Addr × Obj} (hp : p ∈ S) (h : p.1 ∈ keys → p ∈ es') : p ∈ es' ++ rms S keys := by
  by_cases q : p.1 ∈ keys
  · exact List.mem_append_left _ (h q)
  · exact List.mem_append_right _ (mem_rms hp q)
theorem back_news (N : News h₀ L h (es' ++ rms (S ++ G) keys)) (hk : ∀ k ∈ keys, ∃ o, (k, o) ∈ S) (ap : Apart S G) : News h₀ L h ((es' ++ rms S keys) ++ G) := News.perm N fun p hp => by
  rcases List.mem_append.mp hp with hp | hp
  · rcases List.mem_append.mp hp with hp | hp
    · exact List.mem_append_left _ hp
    · refine List.mem_append_right _ (mem_rms (List.mem_append_left _ (rms_sub p hp)) fun q => rms_ne q p hp rfl)
  · refine List.mem_append_right _ (mem_rms (List.mem_append_right _ hp) fun q => ?_)
    obtain ⟨o, ho⟩ := hk p.1 q
    exact ap _ ho p hp rfl
theorem back_apart (hk : ∀ k ∈ keys, ∃ o, (k, o) ∈ S) (hes : ∀ p ∈ es', p.1 ∈ keys) (ap : Apart S G) : Apart (es' ++ rms S keys) G := by
  intro p hp q hq
  rcases List.mem_append.mp hp with hp | hp
  · obtain ⟨o, ho⟩ := hk p.1 (hes p hp)
    exact ap _ ho q hq
  · exact ap p (rms_sub p hp) q hq
end
theorem pick_lastE (P : Nat → Nat) (l : List Nat) {k : Int} (h : 0 < k) : slicePick (refsOf P l) (some (-k)) none none = refsOf P (l.drop (l.length - k.toNat)) :=
  pick_last P l (by omega) (by omega)
theorem pick_lastH (P : Nat → Nat) (l : List Nat) {k : Int} (h : 0 < k) : slicePick (refsOf P l) (some (-k + k / 2)) none none = refsOf P (l.drop (l.length - (k.toNat - k.toNat / 2))) :=
  pick_last P l (by omega) (by omega)
theorem pick_lastF (P : Nat → Nat) (l : List Nat) {k : Int} (h : 0 < k) : slicePick (refsOf P l) (some (-k + k.fdiv 2)) none none = refsOf P (l.drop (l.length - (k.toNat - k.toNat / 2))) := by
  rw [Int.fdiv_eq_ediv_of_nonneg _ (by omega)]
  exact pick_lastH P l h
theorem pick_uptoE (P : Nat → Nat) (l : List Nat) {k : Int} (h : 0 < k) : slicePick (refsOf P l) (some 0) (some k) none = refsOf P (l.take k.toNat) := by
  have := pick_upto P l k.toNat
  rwa [Int.toNat_of_nonneg (by omega)] at this
theorem pick_uptoH (P : Nat → Nat) (l : List Nat) {k : Int} (h : 0 < k) : slicePick (refsOf P l) (some 0) (some (k / 2)) none = refsOf P (l.take (k.toNat / 2)) := by
  have := pick_upto P l (k.toNat / 2)
  rwa [show ((k.toNat / 2 : Nat) : Int) = k / 2 by omega] at this
theorem pick_uptoF (P : Nat → Nat) (l : List Nat) {k : Int} (h : 0 < k) : slicePick (refsOf P l) (some 0) (some (k.fdiv 2)) none = refsOf P (l.take (k.toNat / 2)) := by
  rw [Int.fdiv_eq_ediv_of_nonneg _ (by omega)]
  exact pick_uptoH P l h
section
variable {prog : Program} {w : World} {A : Around} {E : Value → Shared → Prop} {s : Shared} {h₀ : Heap} {L : Addr} {m : Str → Option Value} {news : List (Addr × Obj)}
theorem slice_stub {value slice : Expr} {D0 : Addr} {P : Nat → Nat} {l l' : List Nat} {c : Nat} {vl vu : Value} {lo hi : Option Int} {Q : Value → Shared → Prop}
    (F : Fr h₀ L s.heap m) (N : News h₀ L s.heap news) (hm : (D0, listOf (refsOf P l) c) ∈ news) (pl : IsPart vl lo) (pu : IsPart vu hi) (hp : slicePick (refsOf P l) lo hi none = refsOf P l') (hl : l.length ≤ 60)
    (h : ∀ D h', Fr h₀ L h' m → News h₀ L h' ((D, listOf (refsOf P l') 0) :: news) → (∀ p ∈ news, @LT.lt Nat _ p.1 D) → Q (.ref D) { s with heap := h' })
    (hs : subscripted slice false (.ref D0) (.ref s.heap.objs.size) = operate [.ref s.heap.objs.size, .ref D0] (getItem (.ref D0) (.ref s.heap.objs.size)) := by with_unfolding_all rfl)
    (ht : ∀ r, letTemporaryGo value (.ref D0) r = pure () := by intro _; with_unfolding_all rfl) :
    wpAny (model prog w) A (subscriptTail value slice (.ref D0) (.ref s.heap.objs.size)) Q E { s with heap := s.heap.push { cls := .type "slice", data := .fields #[vl, vu, .none] } } := by
  refine slice_list F N (News.isList N hm) pl pu (fun h' F' N' => ?_) hs ht (by simp; rw [sizeLine_eq]; omega)
  rw [hp] at N'
  exact h _ h' F' N' fun p hp => Nat.lt_succ_of_lt (Heap.lt_size (N p hp).1)
end
end Mine
end
section
set_option maxRecDepth 100000
namespace Mine
open PySem PySem.W PySem.Calls PyProof.Rows PySem.Spec PyProof.V PyProof.Rows.LCg
theorem back_all {h₀ h : Heap} {L : Addr} {Y es : List (Addr × Obj)} (N : News h₀ L h (es ++ rms Y (es.map (·.1)))) (hes : ∀ p ∈ es, p ∈ Y) (U : Uniq Y) : News h₀ L h Y := News.perm N fun p hp => by
  by_cases q : p.1 ∈ es.map (·.1)
  · obtain ⟨r, hr, e⟩ := List.mem_map.mp q
    rw [U hp (hes r hr) e.symm]
    exact List.mem_append_left _ hr
  · exact List.mem_append_right _ (mem_rms hp q)
section
variable {prog : Program} {w : World} {S0 : List (Addr × Obj)} {x d ag an aa : Nat} {es : List DictEntry} {f : Nat → Nat} {n na : Nat} {B : Nat → List (Str × Value)} {LA LB : Nat} {P : Nat → Nat} {as' : List Nat} {u : Nat} {st : St} {S G : List (Addr × Obj)} {Ad : Nat → List (Int × Value)} {h₀ h : Heap} {L : Addr}

theorem St.Ok.perm {bs1 : List Nat} (ok : st.Ok n na) (hp : bs1.Perm st.bs) : St.Ok n na { st with bs := bs1 } :=
  ⟨fun v h1 h2 => (hp.mem_iff).trans (ok.inb v h1 h2), (hp.nodup_iff).mpr ok.bnd, fun v hv => ok.bin v ((hp.mem_iff).mp hv), ok.nnd, ok.nin⟩

/-- a turn of the outer loop has popped its stub, sorted the others and cut its list of targets -/
theorem loop_start {asX : List Nat} (mk : Mk prog w S0 x d ag an aa es f n na B LA LB P asX st S G Ad) (uS : Uniq S) {oA oB ou oD : Obj} {D c cB : Nat} {bs1 : List Nat} (mA : (LA, oA) ∈ S) (mu : (P u, ou) ∈ S) (mB : (LB, oB) ∈ S) (hu : u < n)
    (N : News h₀ L h ((D, oD) :: (LA, listOf (refsOf P as') c) :: (P u, ou) :: (LB, listOf (refsOf P bs1) cB) :: rms (S ++ G) [LA, P u, LB]))
    (l : ∀ p ∈ ((LA : Addr), listOf (refsOf P as') c) :: (P u, ou) :: (LB, listOf (refsOf P bs1) cB) :: rms (S ++ G) [LA, P u, LB], @LT.lt Nat _ p.1 D) (hp : bs1.Perm st.bs) :
    ∃ S2, News h₀ L h (S2 ++ G) ∧ (D, oD) ∈ S2 ∧ Mk prog w ((D, oD) :: S0) x d ag an aa es f n na B LA LB P as' { st with bs := bs1 } S2 G Ad := by
  have hk : ∀ k ∈ [LA, P u, LB], ∃ o, ((k : Addr), o) ∈ S := by
    intro k hk
    simp only [List.mem_cons, List.not_mem_nil, or_false] at hk
    rcases hk with h | h | h <;> rw [h]
    · exact ⟨_, mA⟩
    · exact ⟨_, mu⟩
    · exact ⟨_, mB⟩
  have nG : ∀ q ∈ G, q.1 ∉ [LA, P u, LB] := fun q hq hh => by
    obtain ⟨o, ho⟩ := hk _ hh
    exact mk.ap _ ho q hq rfl
  have lG : ∀ q ∈ G, @LT.lt Nat _ q.1 D := fun q hq => l q (by simp [mem_rms (List.mem_append_right S hq) (nG q hq)])
  have lS : ∀ p ∈ S, @LT.lt Nat _ p.1 D := fun p hp => by
    by_cases q : p.1 ∈ [LA, P u, LB]
    · simp only [List.mem_cons, List.not_mem_nil, or_false] at q
      rcases q with q | q | q <;> rw [q]
      · exact l (LA, listOf (refsOf P as') c) (by simp)
      · exact l (P u, ou) (by simp)
      · exact l (LB, listOf (refsOf P bs1) cB) (by simp)
    · exact l p (by simp [mem_rms (List.mem_append_left G hp) q])
  have offA := mk.ti.offA
  have offu := mk.ti.offP u hu
  obtain ⟨S1, hS1⟩ : ∃ S1, S1 = ([((LA : Addr), listOf (refsOf P as') c), (P u, ou), (LB, listOf (refsOf P bs1) cB)] ++ rms S [LA, P u, LB]) := ⟨_, rfl⟩
  have keep : ∀ p ∈ S, p.1 ≠ LA → p.1 ≠ LB → p ∈ S1 := by
    intro p hp q1 q2
    rw [hS1]
    refine mem_back hp fun hh => ?_
    simp only [List.mem_cons, List.not_mem_nil, or_false, q1, q2, false_or, or_false] at hh
    rw [uS hp mu hh]; simp
  have N1 : News h₀ L h (((D, oD) :: S1) ++ G) := by
    have z := back_news (S := S) (G := G) (keys := [LA, P u, LB]) (es' := [((D : Addr), oD), (LA, listOf (refsOf P as') c), (P u, ou), (LB, listOf (refsOf P bs1) cB)]) N hk mk.ap
    rw [hS1]
    exact z
  have apS1 : Apart S1 G := by rw [hS1]; exact back_apart hk (by simp) mk.ap
  refine ⟨(D, oD) :: S1, N1, List.mem_cons_self, ?_, ?_, mk.gi, mk.adj, mk.eo, mk.ok.perm hp⟩
  · intro p hp q hq
    rcases List.mem_cons.mp hp with e | hp
    · rw [e]; exact Nat.ne_of_gt (lG q hq)
    · exact apS1 p hp q hq
  · constructor
    · intro p hp
      rcases List.mem_cons.mp hp with e | hp
      · rw [e]; exact List.mem_cons_self
      · exact List.mem_cons_of_mem _ (keep p (mk.ti.rest p hp) (mk.ti.off0 p hp).1 (mk.ti.off0 p hp).2.1)
    · exact ⟨c, by rw [hS1]; simp⟩
    · exact ⟨cB, by rw [hS1]; simp⟩
    · intro v hv
      obtain ⟨t, t', k, hm⟩ := mk.ti.pr v hv
      exact ⟨t, t', k, List.mem_cons_of_mem _ (keep _ hm (mk.ti.offP v hv).1 (mk.ti.offP v hv).2)⟩
    · exact offA
    · exact mk.ti.offP
    · exact mk.ti.inj
    · intro p hp
      rcases List.mem_cons.mp hp with e | hp
      · rw [e]
        refine ⟨Nat.ne_of_gt (lS _ mA), Nat.ne_of_gt (lS _ mB), fun v hv => ?_⟩
        obtain ⟨t, t', k, hm⟩ := mk.ti.pr v hv
        exact Nat.ne_of_gt (lS _ hm)
      · exact mk.ti.off0 p hp

/-- a turn of the inner loop is over -/
theorem turn_end {G2 : List (Addr × Obj)} {Ad2 : Nat → List (Int × Value)} {tg I c k : Nat} {oI oD o1 o2 : Obj} {D : Nat} {t t' : Tok} {b : Int} {bs' : List Nat} (mk : Mk prog w ((D, oD) :: S0) x d ag an aa es f n na B LA LB P as' st S G Ad)
    (uS : Uniq S) (m1 : (P tg, o1) ∈ S) (m2 : (LB, o2) ∈ S) (htg : na ≤ tg ∧ tg < n) (hu : u < n) (hI : ∀ p ∈ S, p.1 ≠ I) (ap2 : Apart ((I, oI) :: S) G2) (gi2 : GI prog w G2 x d ag an aa es 5 f n Ad2 B []) (adj2 : AdjOf Ad2 (stepN st.N u tg) n) (eo2 : EdgeOk prog w G2 x d ag an aa f n Ad2)
    (hb : b = st.e tg - 1) (hbs : bs' = if st.e tg - 1 = 0 then st.bs.erase tg else st.bs)
    (N : News h₀ L h ((P tg, pairObj b t (tg : Int) t' k) :: (LB, listOf (refsOf P bs') c) :: rms (((I, oI) :: S) ++ G2) [P tg, LB])) :
    ∃ S2, News h₀ L h ([((I : Addr), oI), (D, oD)] ++ (S2 ++ G2)) ∧ (∀ p ∈ S2 ++ G2, p.1 ≠ I) ∧ Mk prog w ((D, oD) :: S0) x d ag an aa es f n na B LA LB P as' (st.step u tg) S2 G2 Ad2 := by
  have off := mk.ti.offP tg htg.2
  have hk : ∀ k ∈ [P tg, LB], ∃ o, ((k : Addr), o) ∈ S := by
    intro k hk
    simp only [List.mem_cons, List.not_mem_nil, or_false] at hk
    rcases hk with h | h <;> rw [h]
    · exact ⟨_, m1⟩
    · exact ⟨_, m2⟩
  have apS : Apart S G2 := fun p hp => ap2 p (List.mem_cons_of_mem _ hp)
  obtain ⟨S2, hS2⟩ : ∃ S2, S2 = ([((P tg : Addr), pairObj b t (tg : Int) t' k), (LB, listOf (refsOf P bs') c)] ++ rms S [P tg, LB]) := ⟨_, rfl⟩
  have nI : ∀ p ∈ S2 ++ G2, p.1 ≠ I := by
    intro p hp
    rcases List.mem_append.mp hp with hp | hp
    · rw [hS2] at hp
      rcases List.mem_append.mp hp with hp | hp
      · simp only [List.mem_cons, List.not_mem_nil, or_false] at hp
        rcases hp with h | h <;> rw [h]
        · exact (hI (P tg, o1) m1 : P tg ≠ I)
        · exact (hI (LB, o2) m2 : LB ≠ I)
      · exact hI p (rms_sub p hp)
    · exact fun e => ap2 (I, oI) List.mem_cons_self p hp e.symm
  have keep : ∀ p ∈ S, p.1 ≠ P tg → p.1 ≠ LB → p ∈ S2 := by
    intro p hp q1 q2
    rw [hS2]
    refine mem_back hp fun hh => ?_
    simp only [List.mem_cons, List.not_mem_nil, or_false, q1, q2] at hh
  have N2 : News h₀ L h ((I, oI) :: (S2 ++ G2)) := by
    refine News.perm N fun p hp => ?_
    rcases List.mem_cons.mp hp with e | hp
    · have : (I, oI) ∈ rms (((I, oI) :: S) ++ G2) [P tg, LB] := mem_rms (by simp) (by
        intro hh
        obtain ⟨o, ho⟩ := hk _ hh
        exact hI _ ho rfl)
      rw [e]; exact List.mem_cons_of_mem _ (List.mem_cons_of_mem _ this)
    · rcases List.mem_append.mp hp with hp | hp
      · rw [hS2] at hp
        rcases List.mem_append.mp hp with hp | hp
        · simp only [List.mem_cons, List.not_mem_nil, or_false] at hp ⊢
          rcases hp with h | h <;> simp [h]
        · refine List.mem_cons_of_mem _ (List.mem_cons_of_mem _ (mem_rms ?_ fun q => rms_ne q p hp rfl))
          simp [rms_sub p hp]
      · refine List.mem_cons_of_mem _ (List.mem_cons_of_mem _ (mem_rms (by simp [hp]) fun q => ?_))
        obtain ⟨o, ho⟩ := hk p.1 q
        exact apS _ ho p hp rfl
  have offS0 := mk.ti.off0
  have mD : (D, oD) ∈ S2 := keep _ (mk.ti.rest _ List.mem_cons_self) ((offS0 (D, oD) List.mem_cons_self).2.2 tg htg.2) (offS0 (D, oD) List.mem_cons_self).2.1
  refine ⟨S2, News.perm N2 (fun p hp => ?_), nI, ⟨?_, ?_, gi2, adj2, eo2, mk.ok.step hu htg⟩⟩
  · simp only [List.cons_append, List.nil_append, List.mem_cons] at hp ⊢
    rcases hp with h | h | h
    · exact .inl h
    · exact .inr (List.mem_append_left _ (h ▸ mD))
    · exact .inr h
  · intro p hp q hq
    rw [hS2] at hp
    rcases List.mem_append.mp hp with hp | hp
    · simp only [List.mem_cons, List.not_mem_nil, or_false] at hp
      rcases hp with h | h <;> rw [h]
      · exact apS _ m1 q hq
      · exact apS _ m2 q hq
    · exact apS p (rms_sub p hp) q hq
  · obtain ⟨ca, ma⟩ := mk.ti.sa
    constructor
    · exact fun p hp => keep p (mk.ti.rest p hp) ((offS0 p hp).2.2 tg htg.2) (offS0 p hp).2.1
    · exact ⟨ca, keep _ ma off.1.symm mk.ti.offA⟩
    · refine ⟨c, ?_⟩
      show (LB, listOf (refsOf P (if st.e tg - 1 = 0 then st.bs.erase tg else st.bs)) c) ∈ S2
      rw [← hbs, hS2]; simp
    · intro v hv
      show ∃ t t' k, (P v, pairObj (if v = tg then st.e tg - 1 else st.e v) t (v : Int) t' k) ∈ S2
      by_cases q : v = tg
      · subst q
        exact ⟨t, t', k, by simp only [if_true]; rw [← hb, hS2]; simp⟩
      · obtain ⟨t, t', k, hm⟩ := mk.ti.pr v hv
        exact ⟨t, t', k, by simp only [q, if_false]; exact keep _ hm (mk.ti.inj v tg hv htg.2 q) (mk.ti.offP v hv).2⟩
    · exact mk.ti.offA
    · exact mk.ti.offP
    · exact mk.ti.inj
    · exact mk.ti.off0
theorem Mk.weak {q : Addr × Obj} (mk : Mk prog w (q :: S0) x d ag an aa es f n na B LA LB P as' st S G Ad) : Mk prog w S0 x d ag an aa es f n na B LA LB P as' st S G Ad :=
  ⟨mk.ap, ⟨fun p hp => mk.ti.rest p (List.mem_cons_of_mem _ hp), mk.ti.sa, mk.ti.sb, mk.ti.pr, mk.ti.offA, mk.ti.offP, mk.ti.inj, fun p hp => mk.ti.off0 p (List.mem_cons_of_mem _ hp)⟩, mk.gi, mk.adj, mk.eo, mk.ok⟩
end
end Mine
end
section
set_option maxRecDepth 100000
namespace Mine
open PySem PySem.W PySem.Calls PyProof.Rows PySem.Spec PyProof.V PyProof.Rows.LCg
section
variable {prog : Program} {w : World} {S S0 G : List (Addr × Obj)} {x d ag an aa : Nat} {es : List DictEntry} {ne : Nat} {f : Nat → Nat} {n : Nat} {A : Nat → List (Int × Value)} {B : Nat → List (Str × Value)} {gk gk' : List (Str × Value)}
theorem GI.gname (gi : GI prog w G x d ag an aa es ne f n A B gk) {o' : Obj} (ho : o'.IsDictOf (PySem.strKind prog w) gk') : GI prog w ((ag, o') :: rms G [ag]) x d ag an aa es ne f n A B gk' := by
  have ap := gi.dis
  simp only [List.nodup_cons, List.mem_cons, List.not_mem_nil, or_false, not_or, List.nodup_nil, not_false_eq_true, and_true] at ap
  have keep : ∀ {p : Addr × Obj}, p ∈ G → p.1 ≠ ag → p ∈ (ag, o') :: rms G [ag] := fun hp h => List.mem_cons_of_mem _ (mem_rms hp (by simpa using h))
  constructor
  · exact keep gi.inst ap.1.2.1
  · exact keep gi.dict ap.2.1.1
  · exact ⟨o', List.mem_cons_self, ho⟩
  · obtain ⟨o, h, z⟩ := gi.nod; exact ⟨o, keep h (fun e => ap.2.2.1.1 e.symm), z⟩
  · obtain ⟨o, h, z⟩ := gi.adj; exact ⟨o, keep h (fun e => ap.2.2.1.2 e.symm), z⟩
  · intro v hv
    obtain ⟨o, h, z⟩ := gi.adv v hv
    have := gi.off (2 * v) (by omega)
    simp only [List.mem_cons, List.not_mem_nil, or_false, not_or] at this
    exact ⟨o, keep h this.2.2.1, z⟩
  · intro v hv
    obtain ⟨o, h, z⟩ := gi.ndv v hv
    have := gi.off (2 * v + 1) (by omega)
    simp only [List.mem_cons, List.not_mem_nil, or_false, not_or] at this
    exact ⟨o, keep h this.2.2.1, z⟩
  · exact gi.inj
  · exact gi.off
  · exact gi.dis
  · exact gi.low
  · exact gi.lowf
/-- the graph's name is laid: the ledger of a maker's end -/
theorem name_end {h₀ h : Heap} {L : Addr} {o' og : Obj} {S0' : List (Addr × Obj)} (gi : GI prog w G x d ag an aa es ne f n A B gk) (ap : Apart S G) (mg : (ag, og) ∈ G) (uY : Uniq (S ++ G)) (rest : ∀ p ∈ S0', p ∈ S)
    (N : News h₀ L h ((ag, o') :: (x, instObj 617 d) :: (d, dictS es ne) :: rms (S ++ G) [ag, x, d])) : News h₀ L h (S0' ++ ((ag, o') :: rms G [ag])) ∧ Apart S0' ((ag, o') :: rms G [ag]) := by
  refine ⟨News.perm N fun p hp => ?_, fun p hp q hq => ?_⟩
  · have key : p ∈ S ++ G → p.1 ≠ ag → p ∈ (ag, o') :: (x, instObj 617 d) :: (d, dictS es ne) :: rms (S ++ G) [ag, x, d] := by
      intro hp hne
      by_cases q : p.1 ∈ [ag, x, d]
      · simp only [List.mem_cons, List.not_mem_nil, or_false, hne, false_or] at q
        rcases q with q | q
        · rw [uY hp (List.mem_append_right S gi.inst) q]; simp
        · rw [uY hp (List.mem_append_right S gi.dict) q]; simp
      · simp [mem_rms hp q]
    rcases List.mem_append.mp hp with hp | hp
    · exact key (List.mem_append_left _ (rest p hp)) (fun e => ap p (rest p hp) _ mg e)
    · rcases List.mem_cons.mp hp with e | hp
      · rw [e]; exact List.mem_cons_self
      · exact key (List.mem_append_right _ (rms_sub p hp)) (fun e => rms_ne (by simp) p hp e)
  · rcases List.mem_cons.mp hq with e | hq
    · rw [e]; exact (ap p (rest p hp) _ mg : p.1 ≠ ag)
    · exact ap p (rest p hp) q (rms_sub q hq)
theorem ok_start {na nb : Nat} {dgA dgB : Nat → Int} (h : ∀ j, j < nb → 1 ≤ dgB j) : St.Ok (na + nb) na ⟨(List.range nb).map fun v => na + v, fun v => if v < na then dgA v else dgB (v - na), fun _ => []⟩ := by
  constructor
  · intro v h1 h2
    have e : ¬ v < na := by omega
    simp only [e, if_false, List.mem_map, List.mem_range]
    constructor
    · rintro ⟨j, hj, rfl⟩
      rw [show na + j - na = j by omega]
      exact h j hj
    · intro _
      exact ⟨v - na, by omega, by omega⟩
  · show ((List.range nb).map fun v => na + v).Nodup
    rw [List.Nodup, List.pairwise_map]
    exact (List.nodup_range (n := nb)).imp fun h e => h (by omega)
  · intro v hv
    obtain ⟨j, hj, rfl⟩ := List.mem_map.mp hv
    have := List.mem_range.mp hj
    exact ⟨by omega, by omega⟩
  · exact fun _ => List.nodup_nil
  · exact fun _ k hk => nomatch hk
end
end Mine
end
section
set_option maxRecDepth 100000
namespace Mine
open PySem PySem.W PySem.Calls PyProof.Rows PySem.Spec PyProof.V PyProof.Rows.LCg
theorem TI.setAB {S S' S0 : List (Addr × Obj)} {LA LB : Nat} {P : Nat → Nat} {as as' bs bs' : List Nat} {e : Nat → Int} {n : Nat} (ti : TI S S0 LA LB P as bs e n) {c c' : Nat} (hk : ∀ p ∈ S, p.1 ≠ LA → p.1 ≠ LB → p ∈ S') (hm : (LA, listOf (refsOf P as') c) ∈ S') (hm' : (LB, listOf (refsOf P bs') c') ∈ S') : TI S' S0 LA LB P as' bs' e n :=
  ⟨fun p hp => hk p (ti.rest p hp) (ti.off0 p hp).1 (ti.off0 p hp).2.1, ⟨_, hm⟩, ⟨_, hm'⟩, fun v hv => by
    obtain ⟨t, t', k, h⟩ := ti.pr v hv
    exact ⟨t, t', k, hk _ h (ti.offP v hv).1 (ti.offP v hv).2⟩, ti.offA, ti.offP, ti.inj, ti.off0⟩
end Mine
end
section
set_option maxRecDepth 100000
namespace Mine
open PySem PySem.W PySem.Calls PyProof.Rows PySem.Spec PyProof.V PyProof.Rows.LCg

theorem compTurn2_0 (elt t0 i0 t1 i1 : Expr) (scope : Scope) (pos : Pos) (it acc : Value) (env : Env) :
    compTurn (.ListComp elt [⟨t0, i0, [], 0⟩, ⟨t1, i1, [], 0⟩] scope pos) 0 it acc env = (do
      standAt i0.pos
      match ← pyNext it with
      | none => pure (.done .next)
      | some v =>
        letOwnedTupleGo t0 it v
        assign t0 env v
        let mut ok := true
        for c in ([] : List Expr) do
          if ok then ok ← isTrue c env (eval c env)
        if ok then
          let x ← eval i1 env
          standAt i1.pos
          let x ← foldedSetIterable i1 env x
          let _ ← runOwn (.compStart (.ListComp elt [⟨t0, i0, [], 0⟩, ⟨t1, i1, [], 0⟩] scope pos) 1 (← holding [x] (pyIter x)) acc env) env
        again (.compLoop (.ListComp elt [⟨t0, i0, [], 0⟩, ⟨t1, i1, [], 0⟩] scope pos) 0 it acc env)) := by rfl
theorem compTurn2_1 (elt t0 i0 t1 i1 : Expr) (scope : Scope) (pos : Pos) (it acc : Value) (env : Env) :
    compTurn (.ListComp elt [⟨t0, i0, [], 0⟩, ⟨t1, i1, [], 0⟩] scope pos) 1 it acc env = (do
      standAt i1.pos
      match ← pyNext it with
      | none => pure (.done .next)
      | some v =>
        letOwnedTupleGo t1 it v
        assign t1 env v
        let mut ok := true
        for c in ([] : List Expr) do
          if ok then ok ← isTrue c env (eval c env)
        if ok then
          (do let _ ← call (.builtin "list.append") [acc, ← eval elt env])
        again (.compLoop (.ListComp elt [⟨t0, i0, [], 0⟩, ⟨t1, i1, [], 0⟩] scope pos) 1 it acc env)) := by rfl
section
variable {prog : Program} {w : World} {A : Around} {E : Value → Shared → Prop} {R : Result → Shared → Prop} {s : Shared} {env : Env}

theorem comp2_loop1 {elt t0 i0 t1 i1 : Expr} {scope : Scope} {pos : Pos} {it acc : Value} (I : Nat → Shared → Prop)
    (turn : ∀ n s, I n s → wpAny (model prog w) A (pyNext it) (fun r s₁ => match r with
      | none => R (.ok .next) s₁
      | some v => wpAny (model prog w) A (assign t1 env v) (fun _ s₂ => wpAny (model prog w) A (eval elt env) (fun x s₄ =>
              wpAny (model prog w) A (call (.builtin "list.append") [acc, x]) (fun _ s₅ => ∃ m, m < n ∧ I m s₅) (notedBy (model prog w) A env fun e s' => R (.error e) s') s₄) (notedBy (model prog w) A env fun e s' => R (.error e) s') s₂)
            (notedBy (model prog w) A env fun e s' => R (.error e) s') s₁) (notedBy (model prog w) A env fun e s' => R (.error e) s') s)
    (n : Nat) (h : I n s) (ht : ∀ v, letOwnedTupleGo t1 it v = pure () := by intro _; rfl) :
    codeAny (model prog w) A (.compLoop (.ListComp elt [⟨t0, i0, [], 0⟩, ⟨t1, i1, [], 0⟩] scope pos) 1 it acc env) R s := by
  refine codeAny_loop rfl I (fun n s hI => ?_) n h
  show wpAny _ A ((compTurn (.ListComp elt [⟨t0, i0, [], 0⟩, ⟨t1, i1, [], 0⟩] scope pos) 1 it acc env).onRaise (fun x => do noteFrame x env; theTreesLotGoes x)) _ _ s
  refine wpAny_noted ?_
  rw [compTurn2_1]
  refine wpAny_bind (wpAny_standAt (wpAny_bind (wpAny_mono (turn n s hI) (fun r s₁ h₁ => ?_) fun _ _ h' => h')))
  cases r with
  | none => exact wpAny_pure h₁
  | some v =>
    refine wpAny_bind (wpAny_of_eq (ht v) ?_)
    refine wpAny_bind (wpAny_mono h₁ (fun _ s₂ h₂ => wpAny_bind (wpAny_mono (wpAny_tests_nil (Q := fun ok s₃ => ok = true ∧ s₃ = s₂) ⟨rfl, rfl⟩) (fun ok s₃ h₃ => ?_) fun _ _ h' => h')) fun _ _ h' => h')
    obtain ⟨rfl, rfl⟩ := h₃
    exact wpAny_bind (wpAny_bind (wpAny_mono h₂ (fun x s₄ h₄ => wpAny_bind (wpAny_mono h₄ (fun _ s₅ h₅ => wpAny_pure (wpAny_pure ⟨rfl, h₅⟩)) fun _ _ h' => h')) fun _ _ h' => h'))

theorem comp2_start1 {elt t0 i0 t1 i1 : Expr} {scope : Scope} {pos : Pos} {it acc : Value}
    (h0 : codeAny (model prog w) A (.compLoop (.ListComp elt [⟨t0, i0, [], 0⟩, ⟨t1, i1, [], 0⟩] scope pos) 1 it acc env) R s)
    (h : wpAny (model prog w) A (pyIter it) (fun it' s' => codeAny (model prog w) A (.compLoop (.ListComp elt [⟨t0, i0, [], 0⟩, ⟨t1, i1, [], 0⟩] scope pos) 1 it' acc env) R s')
      (notedBy (model prog w) A env fun x s' => R (.error x) s') s) :
    codeAny (model prog w) A (.compStart (.ListComp elt [⟨t0, i0, [], 0⟩, ⟨t1, i1, [], 0⟩] scope pos) 1 it acc env) R s := by
  refine codeAny_of_tree ?_
  show wpAny _ _ ((compStart (.ListComp elt [⟨t0, i0, [], 0⟩, ⟨t1, i1, [], 0⟩] scope pos) 1 it acc env).onRaise (fun x => do noteFrame x env; standAt theWindowsPlace)) _ _ s
  refine wpAny_notedAt ?_
  unfold compStart
  show wpAny _ _ (ask >>= _) _ _ s
  refine wpAny_bind (wpAny_askSetting (wpAny_ite ?_))
  split
  · first
      | exact wpAny_bind (wpAny_pure (wpAny_pure (And.intro rfl h0)))
      | exact wpAny_pure (And.intro rfl h0)
  · first
      | exact wpAny_bind (wpAny_rule (wpAny_bind (wpAny_standAt (wpAny_bind (wpAny_mono h (fun it' s' h' => wpAny_pure (And.intro rfl h')) fun _ _ x => x)))))
      | (refine wpAny_bind (wpAny_rule ?_); show wpAny _ _ (standAt i1.pos >>= _) _ _ s; exact wpAny_bind (wpAny_standAt (wpAny_bind (wpAny_mono h (fun it' s' h' => wpAny_pure (And.intro rfl h')) fun _ _ x => x))))

theorem comp2_loop0 {elt t0 i0 t1 i1 : Expr} {scope : Scope} {pos : Pos} {it acc : Value} (I : Nat → Shared → Prop)
    (turn : ∀ n s, I n s → wpAny (model prog w) A (pyNext it) (fun r s₁ => match r with
      | none => R (.ok .next) s₁
      | some v => wpAny (model prog w) A (assign t0 env v) (fun _ s₂ => wpAny (model prog w) A (eval i1 env) (fun xv s₃ => wpAny (model prog w) A (pyIter xv) (fun it1 s₄ =>
          codeAny (model prog w) (A.mark none) (.compStart (.ListComp elt [⟨t0, i0, [], 0⟩, ⟨t1, i1, [], 0⟩] scope pos) 1 it1 acc env) (fun r s' => match r with | .ok f => ∃ m, m < n ∧ I m s' | .error e => cameBackBy (model prog w) A env (notedBy (model prog w) A env fun e s' => R (.error e) s') e s') s₄)
            (notedBy (model prog w) A env fun e s' => R (.error e) s') s₃) (notedBy (model prog w) A env fun e s' => R (.error e) s') s₂)
            (notedBy (model prog w) A env fun e s' => R (.error e) s') s₁) (notedBy (model prog w) A env fun e s' => R (.error e) s') s)
    (n : Nat) (h : I n s) (ht : ∀ v, letOwnedTupleGo t0 it v = pure () := by intro _; rfl) (hs : ∀ x, foldedSetIterable i1 env x = pure x := by intro _; rfl) :
    codeAny (model prog w) A (.compLoop (.ListComp elt [⟨t0, i0, [], 0⟩, ⟨t1, i1, [], 0⟩] scope pos) 0 it acc env) R s := by
  refine codeAny_loop rfl I (fun n s hI => ?_) n h
  show wpAny _ A ((compTurn (.ListComp elt [⟨t0, i0, [], 0⟩, ⟨t1, i1, [], 0⟩] scope pos) 0 it acc env).onRaise (fun x => do noteFrame x env; theTreesLotGoes x)) _ _ s
  refine wpAny_noted ?_
  rw [compTurn2_0]
  refine wpAny_bind (wpAny_standAt (wpAny_bind (wpAny_mono (turn n s hI) (fun r s₁ h₁ => ?_) fun _ _ h' => h')))
  cases r with
  | none => exact wpAny_pure h₁
  | some v =>
    refine wpAny_bind (wpAny_of_eq (ht v) ?_)
    refine wpAny_bind (wpAny_mono h₁ (fun _ s₂ h₂ => wpAny_bind (wpAny_mono (wpAny_tests_nil (Q := fun ok s₃ => ok = true ∧ s₃ = s₂) ⟨rfl, rfl⟩) (fun ok s₃ h₃ => ?_) fun _ _ h' => h')) fun _ _ h' => h')
    obtain ⟨rfl, rfl⟩ := h₃
    refine wpAny_bind (wpAny_mono h₂ (fun xv s₄ h₄ => wpAny_bind (wpAny_standAt ?_)) fun _ _ h' => h')
    refine wpAny_bind (wpAny_of_eq (hs xv) (wpAny_bind (wpAny_holding (wpAny_mono h₄ (fun it1 s₅ h₅ => ?_) fun _ _ h' => h'))))
    exact wpAny_bind (wpAny_runOwn (h := none) (codeAny_mono h₅ fun r s' hr => by
      cases r with
      | ok f => exact wpAny_pure ⟨rfl, hr⟩
      | error e => exact hr))
end
end Mine
end
section
set_option maxRecDepth 100000
namespace Mine
open PySem PySem.W PySem.Calls PyProof.Rows PySem.Spec PyProof.V PyProof.Rows.LCg

/-- an iterator's protocol; what it yields may lie in the heap -/
structure ItW (prog : Program) (w : World) (A : Around) (C D I : Addr) (wr : List Addr) (n : Nat) (V : Nat → Value → Heap → Heap → Prop) (St : Nat → Heap → Prop) : Prop where
  frame : ∀ i h h', St i h → (∀ b o, b ≠ C → b ≠ D → h.get? b = some o → h'.get? b = some o) → (∃ o, h'.get? C = some o) → (∃ o, h'.get? D = some o) → St i h'
  item : ∀ i (s : Shared) (Q : Option Value → Shared → Prop) (E : Value → Shared → Prop), i < n → St i s.heap →
    (∀ v h' tk, V i v s.heap h' → St (i + 1) h' → (∀ b o, b ∉ wr → s.heap.get? b = some o → h'.get? b = some o) → Q (some v) { s with heap := h', toks := tk }) → wpAny (model prog w) A (pyNext (.ref I)) Q E s
  done : ∀ (s : Shared) (Q : Option Value → Shared → Prop) (E : Value → Shared → Prop), St n s.heap →
    (∀ h' tk, (∀ b o, b ∉ wr → s.heap.get? b = some o → h'.get? b = some o) → Q none { s with heap := h', toks := tk }) → wpAny (model prog w) A (pyNext (.ref I)) Q E s
  self : ∀ i (s : Shared) (Q : Value → Shared → Prop) (E : Value → Shared → Prop), St i s.heap → Q (.ref I) s → wpAny (model prog w) A (pyIter (.ref I)) Q E s
theorem ns_some {h : Heap} {C : Addr} {m : Str → Option Value} (n : h.Ns C m) : ∃ o, h.get? C = some o := let ⟨o, _, _, e, _⟩ := n; ⟨o, e⟩
theorem ItW.of {prog : Program} {w : World} {A : Around} {I : Addr} {fp wr : List Addr} {n : Nat} {P : Nat → Value → Prop} {St : Nat → Heap → Prop} (W : Walks prog w A I fp wr n P St) {C D : Addr} (hC : C ∉ fp) (hD : D ∉ fp) : ItW prog w A C D I wr n (fun i v _ _ => P i v) St :=
  ⟨fun i h h' st k _ _ => W.frame i h h' st fun b hb o e => k b o (fun q => hC (q ▸ hb)) (fun q => hD (q ▸ hb)) e, W.item, W.done, W.self⟩
section
variable {prog : Program} {w : World} {A : Around} {E : Value → Shared → Prop} {R : Result → Shared → Prop} {s : Shared} {env : Env} {elt i0 i1 : Expr} {x y : Str} {p0 p1 : Pos} {scope : Scope} {pos : Pos}

/-- the inner loop of a comprehension with two clauses -/
theorem comp2_inner {I D C : Addr} {wr : List Addr} {n : Nat} {V : Nat → Value → Heap → Heap → Prop} {St : Nat → Heap → Prop} {t0 : Expr} {ys0 : List Value} {m4 : Str → Option Value} (J : Nat → List Value → Prop) (W : ItW prog w A C D I wr n V St)
    (hcl : env.locals = C) (hx : env.kindOf y = some .local) (hk : (env.scope.kind == .class || (env.scope.kind == .module && env.locals != env.globals)) = false)
    (hDC : D ≠ C) (hCw : C ∉ wr) (hDw : D ∉ wr) (hst : St 0 s.heap) (hD : s.heap.get? D = some (lst ys0)) (hC : s.heap.Ns C m4) (h0 : J 0 ys0) (hsz : ∀ i ys, J i ys → ys.length ≤ sizeLine)
    (turn : ∀ i v ys h₁ h₂ h tk m₂ m₁ (E' : Value → Shared → Prop), i < n → J i ys → V i v h₁ h₂ → h₁.get? D = some (lst ys) → h₁.Ns C m₁ → (∀ b o, b ≠ C → h₂.get? b = some o → h.get? b = some o) → (∀ b o, b ∉ wr → b ≠ C → b ≠ D → s.heap.get? b = some o → h.get? b = some o) → h.get? D = some (lst ys) → h.Ns C m₂ → m₂ y = some v → (∀ z, z ≠ y → m₂ z = m4 z) →
      wpAny (model prog w) A (eval elt env) (fun r s' => ∃ h' tk', s' = { s with heap := h', toks := tk' } ∧ (∀ b o, h.get? b = some o → h'.get? b = some o) ∧ J (i + 1) (ys ++ [r])) E' { s with heap := h, toks := tk })
    (done : ∀ h tk ys m₂, J n ys → (∀ b o, b ∉ wr → b ≠ C → b ≠ D → s.heap.get? b = some o → h.get? b = some o) → h.get? D = some (lst ys) → h.Ns C m₂ → (∀ z, z ≠ y → m₂ z = m4 z) → R (.ok .next) { s with heap := h, toks := tk }) :
    codeAny (model prog w) A (.compStart (.ListComp elt [⟨t0, i0, [], 0⟩, ⟨.Name y p1, i1, [], 0⟩] scope pos) 1 (.ref I) (.ref D) env) R s := by
  have loop : codeAny (model prog w) A (.compLoop (.ListComp elt [⟨t0, i0, [], 0⟩, ⟨.Name y p1, i1, [], 0⟩] scope pos) 1 (.ref I) (.ref D) env) R s := by
    refine comp2_loop1 (fun k s' => ∃ h tk i ys m₂, s' = { s with heap := h, toks := tk } ∧ i ≤ n ∧ k = n + 1 - i ∧ St i h ∧ J i ys ∧ (∀ b o, b ∉ wr → b ≠ C → b ≠ D → s.heap.get? b = some o → h.get? b = some o) ∧ h.get? D = some (lst ys) ∧ h.Ns C m₂ ∧ (∀ z, z ≠ y → m₂ z = m4 z)) ?_ (n + 1)
      ⟨s.heap, s.toks, 0, ys0, m4, rfl, Nat.zero_le _, rfl, hst, h0, fun _ _ _ _ _ e => e, hD, hC, fun _ _ => rfl⟩
    rintro k s' ⟨h, tk, i, ys, m₂, rfl, hi, rfl, hst', hJ, kp, hD', hC', hm⟩
    by_cases hlt : i < n
    · refine W.item i _ _ _ hlt hst' fun v h₂ tk₂ hV hst₂ hk₂ => ?_
      refine wpAny_assign_Name (wpAny_storeName_local (m := m₂) hx (by rw [hcl]; exact hC'.at' fun o e => hk₂ _ o hCw e) (fun h₃ hn₃ hs₃ => ?_) hk)
      rw [hcl] at hn₃ hs₃
      have hst₃ : St (i + 1) h₃ := W.frame _ _ _ hst₂ (fun b o c1 c2 e => hs₃.extBut b o c1 e) (ns_some hn₃) ⟨_, hs₃.extBut _ _ hDC (hk₂ _ _ hDw hD')⟩
      have kp₃ : ∀ b o, b ∉ wr → b ≠ C → b ≠ D → s.heap.get? b = some o → h₃.get? b = some o := fun b o c1 c2 c3 e => hs₃.extBut b o c2 (hk₂ b o c1 (kp b o c1 c2 c3 e))
      have hD₃ : h₃.get? D = some (lst ys) := hs₃.extBut _ _ hDC (hk₂ _ _ hDw hD')
      refine wpAny_mono (turn i v ys h h₂ h₃ _ _ _ _ hlt hJ hV hD' hC' (fun b o hb e => hs₃.extBut b o hb e) kp₃ hD₃ hn₃ (by simp) (fun z hz => by simp only [hz, if_false]; exact hm z hz)) (fun r s₄ h₄ => ?_) fun _ _ e => e
      obtain ⟨h₄, tk₄, rfl, k₄, J₄⟩ := h₄
      refine append_at (k₄ _ _ hD₃) (fun h₅ hs₅ hD₅ => ?_) (by show ys.toArray.size ≤ sizeLine; rw [List.size_toArray]; exact hsz i ys hJ)
      refine ⟨n + 1 - (i + 1), by omega, h₅, tk₄, i + 1, ys ++ [r], _, rfl, hlt, rfl, W.frame _ _ _ hst₃ (fun b o c1 c2 e => hs₅.extBut b o c2 (k₄ b o e)) (ns_some ((hn₃.at' fun o e => k₄ _ o e).sameBut hs₅ hDC.symm)) ⟨_, hD₅⟩, J₄, fun b o c1 c2 c3 e => hs₅.extBut b o c3 (k₄ b o (kp₃ b o c1 c2 c3 e)), hD₅.trans (congrArg some (lst_snoc ys r)), (hn₃.at' fun o e => k₄ _ o e).sameBut hs₅ hDC.symm, fun z hz => by simp only [hz, if_false]; exact hm z hz⟩
    · obtain rfl : i = n := Nat.le_antisymm hi (Nat.not_lt.mp hlt)
      refine W.done _ _ _ hst' fun h₂ tk₂ hk₂ => ?_
      exact done h₂ tk₂ ys m₂ hJ (fun b o c1 c2 c3 e => hk₂ b o c1 (kp b o c1 c2 c3 e)) (hk₂ _ _ hDw hD') (hC'.at' fun o e => hk₂ _ o hCw e) hm
  exact comp2_start1 loop (W.self 0 _ _ _ hst loop)

/-- the outer loop -/
theorem comp2_outer {I D C : Addr} {wr : List Addr} {n : Nat} {V : Nat → Value → Heap → Heap → Prop} {St : Nat → Heap → Prop} {t1 : Expr} {ys0 : List Value} {m4 : Str → Option Value} (J : Nat → List Value → Prop) (W : ItW prog w A C D I wr n V St)
    (hcl : env.locals = C) (hx : env.kindOf x = some .local) (hk : (env.scope.kind == .class || (env.scope.kind == .module && env.locals != env.globals)) = false)
    (hDC : D ≠ C) (hCw : C ∉ wr) (hDw : D ∉ wr) (hst : St 0 s.heap) (hD : s.heap.get? D = some (lst ys0)) (hC : s.heap.Ns C m4) (h0 : J 0 ys0)
    (hs : ∀ x, foldedSetIterable i1 env x = pure x)
    (turn : ∀ i v ys h₁ h₂ h tk m₂ m₁ (E1 E2 : Value → Shared → Prop), i < n → J i ys → V i v h₁ h₂ → h₁.get? D = some (lst ys) → h₁.Ns C m₁ → (∀ b o, b ≠ C → h₂.get? b = some o → h.get? b = some o) → St (i + 1) h → (∀ b o, b ∉ wr → b ≠ C → b ≠ D → s.heap.get? b = some o → h.get? b = some o) → h.get? D = some (lst ys) → h.Ns C m₂ → m₂ x = some v →
      wpAny (model prog w) A (eval i1 env) (fun xv s₃ => wpAny (model prog w) A (pyIter xv) (fun it1 s₄ =>
        codeAny (model prog w) (A.mark none) (.compStart (.ListComp elt [⟨.Name x p0, i0, [], 0⟩, ⟨t1, i1, [], 0⟩] scope pos) 1 it1 (.ref D) env)
          (fun r s' => match r with
            | .ok f => ∃ h' tk' ys' m', s' = { s with heap := h', toks := tk' } ∧ St (i + 1) h' ∧ J (i + 1) ys' ∧ (∀ b o, b ∉ wr → b ≠ C → b ≠ D → s.heap.get? b = some o → h'.get? b = some o) ∧ h'.get? D = some (lst ys') ∧ h'.Ns C m'
            | .error e => E2 e s') s₄) E1 s₃) E1 { s with heap := h, toks := tk })
    (done : ∀ h tk ys m₂, J n ys → (∀ b o, b ∉ wr → b ≠ C → b ≠ D → s.heap.get? b = some o → h.get? b = some o) → h.get? D = some (lst ys) → h.Ns C m₂ → R (.ok .next) { s with heap := h, toks := tk }) :
    codeAny (model prog w) A (.compStart (.ListComp elt [⟨.Name x p0, i0, [], 0⟩, ⟨t1, i1, [], 0⟩] scope pos) 0 (.ref I) (.ref D) env) R s := by
  have loop : codeAny (model prog w) A (.compLoop (.ListComp elt [⟨.Name x p0, i0, [], 0⟩, ⟨t1, i1, [], 0⟩] scope pos) 0 (.ref I) (.ref D) env) R s := by
    refine comp2_loop0 (fun k s' => ∃ h tk i ys m₂, s' = { s with heap := h, toks := tk } ∧ i ≤ n ∧ k = n + 1 - i ∧ St i h ∧ J i ys ∧ (∀ b o, b ∉ wr → b ≠ C → b ≠ D → s.heap.get? b = some o → h.get? b = some o) ∧ h.get? D = some (lst ys) ∧ h.Ns C m₂) ?_ (n + 1)
      ⟨s.heap, s.toks, 0, ys0, m4, rfl, Nat.zero_le _, rfl, hst, h0, fun _ _ _ _ _ e => e, hD, hC⟩ (hs := hs)
    rintro k s' ⟨h, tk, i, ys, m₂, rfl, hi, rfl, hst', hJ, kp, hD', hC'⟩
    by_cases hlt : i < n
    · refine W.item i _ _ _ hlt hst' fun v h₂ tk₂ hV hst₂ hk₂ => ?_
      refine wpAny_assign_Name (wpAny_storeName_local (m := m₂) hx (by rw [hcl]; exact hC'.at' fun o e => hk₂ _ o hCw e) (fun h₃ hn₃ hs₃ => ?_) hk)
      rw [hcl] at hn₃ hs₃
      have hst₃ : St (i + 1) h₃ := W.frame _ _ _ hst₂ (fun b o c1 c2 e => hs₃.extBut b o c1 e) (ns_some hn₃) ⟨_, hs₃.extBut _ _ hDC (hk₂ _ _ hDw hD')⟩
      have kp₃ : ∀ b o, b ∉ wr → b ≠ C → b ≠ D → s.heap.get? b = some o → h₃.get? b = some o := fun b o c1 c2 c3 e => hs₃.extBut b o c2 (hk₂ b o c1 (kp b o c1 c2 c3 e))
      have hD₃ : h₃.get? D = some (lst ys) := hs₃.extBut _ _ hDC (hk₂ _ _ hDw hD')
      refine wpAny_mono (turn i v ys h h₂ h₃ _ _ _ _ (fun e s' => cameBackBy (model prog w) A env (notedBy (model prog w) A env fun e s' => R (.error e) s') e s') hlt hJ hV hD' hC' (fun b o hb e => hs₃.extBut b o hb e) hst₃ kp₃ hD₃ hn₃ (by simp)) (fun xv s₄ h₄ => wpAny_mono h₄ (fun it1 s₅ h₅ => codeAny_mono h₅ fun r s₆ h₆ => ?_) fun _ _ e => e) fun _ _ e => e
      cases r with
      | ok f =>
        obtain ⟨h', tk', ys', m', rfl, c1, c2, c3, c4, c5⟩ := h₆
        exact ⟨n + 1 - (i + 1), by omega, h', tk', i + 1, ys', m', rfl, hlt, rfl, c1, c2, c3, c4, c5⟩
      | error e => exact h₆
    · obtain rfl : i = n := Nat.le_antisymm hi (Nat.not_lt.mp hlt)
      refine W.done _ _ _ hst' fun h₂ tk₂ hk₂ => ?_
      exact done h₂ tk₂ ys m₂ hJ (fun b o c1 c2 c3 e => hk₂ b o c1 (kp b o c1 c2 c3 e)) (hk₂ _ _ hDw hD') (hC'.at' fun o e => hk₂ _ o hCw e)
  exact codeAny_compStart_list loop (W.self 0 _ _ _ hst loop)
end
end Mine
end
section
set_option maxRecDepth 100000
namespace Mine
open PySem PySem.W PySem.Calls PyProof.Rows PySem.Spec PyProof.V PyProof.Rows.LCg

abbrev liObj (l : Addr) : Obj := { cls := .type "list_iterator", data := .fields #[.ref l, .int 0 0] }
abbrev zlH1 (h : Heap) (l1 : Addr) : Heap := h.push (liObj l1)
abbrev zlH2 (h : Heap) (l1 l2 : Addr) : Heap := (zlH1 h l1).push (liObj l2)
abbrev zlH3 (h : Heap) (l1 l2 : Addr) : Heap := (zlH2 h l1 l2).push { cls := .type "tuple", data := .seq #[.ref h.objs.size, .ref (zlH1 h l1).objs.size] }
abbrev zlH4 (h : Heap) (l1 l2 : Addr) : Heap := (zlH3 h l1 l2).push { cls := .type "tuple", data := .seq #[.none, .none] }
abbrev zlH5 (h : Heap) (l1 l2 : Addr) : Heap := (zlH4 h l1 l2).push { cls := .type "zip", data := .fields #[.none, .bool false, .bool false, .ref (zlH2 h l1 l2).objs.size, .ref (zlH3 h l1 l2).objs.size] }

theorem meets_zip_ll (l1 l2 : Addr) (xs ys : Array Value) :
    Meets (Builtin.«zip.__new__» ⟨[.type "zip", .ref l1, .ref l2], []⟩) (fun _ R s => s.heap.IsList l1 xs ∧ s.heap.IsList l2 ys ∧
      R (.ok (.ret (.ref (zlH4 s.heap l1 l2).objs.size))) { s with heap := zlH5 s.heap l1 l2 }) :=
  .of_wp fun prog w A R s h => by
    obtain ⟨hp, g, d, tk, os⟩ := s; obtain ⟨hl1, hl2, h⟩ := h
    have hsub := sub_zip
    have hL1 : Heap.IsList (Shared.heap ⟨hp, g, d, tk, os⟩) l1 xs := hl1
    have hL2 : Heap.IsList (Shared.heap ⟨hp.push (liObj l1), g, d, tk, os⟩) l2 ys := Heap.IsList.push hl2 _
    wp_walk using wpAny_pyIter_list hL1, wpAny_pyIter_list hL2
    exact ⟨_, rfl, h⟩

/-- a zip of two lists, not yet asked -/
def ZipLL (h : Heap) (σ : Nat) (z : Addr) (l1 : Addr) (xs : Array Value) (l2 : Addr) (ys : Array Value) : Prop :=
  ∃ TI TO i1 i2, ZipAp z TI TO i1 i2 [i1, l1] [i2, l2] ∧ l1 ≠ i1 ∧ l2 ≠ i2 ∧ ZipSt h z TI TO i1 i2 ∧ (h.IsListIter i1 l1 0 ∧ h.IsList l1 xs) ∧ (h.IsListIter i2 l2 0 ∧ h.IsList l2 ys) ∧ ∀ c ∈ [z, TO, i1, i2], @LE.le Nat _ σ c
section
variable {prog : Program} {w : World} {A : Around} {E : Value → Shared → Prop} {s : Shared}
theorem zipAp_ll (σ l1 l2 : Nat) (h1 : l1 < σ) (h2 : l2 < σ) : ZipAp (σ + 4) (σ + 2) (σ + 3) σ (σ + 1) [σ, l1] [σ + 1, l2] := by
  have k : ∀ {a b : Nat}, a ≠ b → @Ne Addr a b := fun h => h
  have m2 : ∀ {a b c : Nat}, a ≠ b → a ≠ c → (a : Addr) ∉ ([b, c] : List Addr) := fun h h' q => by
    rcases List.mem_cons.mp q with q | q
    · exact h q
    · exact h' (List.mem_singleton.mp q)
  exact ⟨k (by omega), k (by omega), k (by omega), k (by omega), k (by omega), m2 (by omega) (by omega), m2 (by omega) (by omega), m2 (by omega) (by omega), m2 (by omega) (by omega), m2 (by omega) (by omega), m2 (by omega) (by omega)⟩
theorem call_zip_ll {l1 l2 : Addr} {xs ys : Array Value} {Q : Value → Shared → Prop} (hl1 : s.heap.IsList l1 xs) (hl2 : s.heap.IsList l2 ys)
    (h : ∀ h' z, ZipLL h' s.heap.objs.size z l1 xs l2 ys → (∀ c o, s.heap.get? c = some o → h'.get? c = some o) → Q (.ref z) { s with heap := h' }) :
    wpAny (model prog w) A (call (.type "zip") [.ref l1, .ref l2]) Q E s := by
  refine callType_new F.called_zip (by decide) (F.typeCall_zip_2 _ _) (F.newCall_zip_2 _ _) (fun obj => F.args_object_init_3 obj _ _) F.entry_zip_new
    (meets_zip_ll l1 l2 xs ys) ⟨hl1, hl2, ?_⟩
  have z1 : (zlH1 s.heap l1).objs.size = s.heap.objs.size + 1 := Heap.size_push ..
  have z2 : (zlH2 s.heap l1 l2).objs.size = s.heap.objs.size + 2 := by rw [Heap.size_push, z1]
  have z3 : (zlH3 s.heap l1 l2).objs.size = s.heap.objs.size + 3 := by rw [Heap.size_push, z2]
  have z4 : (zlH4 s.heap l1 l2).objs.size = s.heap.objs.size + 4 := by rw [Heap.size_push, z3]
  have g5 : (zlH5 s.heap l1 l2).get? (zlH4 s.heap l1 l2).objs.size = some _ := Heap.get?_push_size _ rfl
  have g4 : (zlH5 s.heap l1 l2).get? (zlH3 s.heap l1 l2).objs.size = some _ := Heap.get?_push_of_some _ (Heap.get?_push_size _ rfl)
  have g3 : (zlH5 s.heap l1 l2).get? (zlH2 s.heap l1 l2).objs.size = some _ := Heap.get?_push_of_some _ (Heap.get?_push_of_some _ (Heap.get?_push_size _ rfl))
  have g2 : (zlH5 s.heap l1 l2).get? (zlH1 s.heap l1).objs.size = some _ := Heap.get?_push_of_some _ (Heap.get?_push_of_some _ (Heap.get?_push_of_some _ (Heap.get?_push_size _ rfl)))
  have g1 : (zlH5 s.heap l1 l2).get? s.heap.objs.size = some _ := Heap.get?_push_of_some _ (Heap.get?_push_of_some _ (Heap.get?_push_of_some _ (Heap.get?_push_of_some _ (Heap.get?_push_size _ rfl))))
  have up : ∀ c o, s.heap.get? c = some o → (zlH5 s.heap l1 l2).get? c = some o := fun c o x =>
    Heap.get?_push_of_some _ (Heap.get?_push_of_some _ (Heap.get?_push_of_some _ (Heap.get?_push_of_some _ (Heap.get?_push_of_some _ x))))
  obtain ⟨o1, ho1, hc1, n1, hd1⟩ := id hl1
  obtain ⟨o2, ho2, hc2, n2, hd2⟩ := id hl2
  have ll1 : l1 < s.heap.objs.size := Heap.lt_size ho1
  have ll2 : l2 < s.heap.objs.size := Heap.lt_size ho2
  rw [z2, z3, z4] at g5
  rw [z1, z2] at g3
  rw [z3] at g4
  rw [z1] at g2
  rw [z4]
  refine ⟨⟨_, g5, rfl⟩, h _ _ ⟨s.heap.objs.size + 2, s.heap.objs.size + 3, s.heap.objs.size, s.heap.objs.size + 1, ?_, ?_, ?_, ⟨⟨_, _, g5, .inl rfl⟩, g3, ⟨_, _, g4⟩⟩, ⟨⟨_, g1, rfl, rfl⟩, ⟨o1, up _ _ ho1, hc1, n1, hd1⟩⟩, ⟨⟨_, g2, rfl, rfl⟩, ⟨o2, up _ _ ho2, hc2, n2, hd2⟩⟩, ?_⟩ up⟩
  · exact zipAp_ll _ _ _ ll1 ll2
  · exact Nat.ne_of_lt ll1
  · exact Nat.ne_of_lt (Nat.lt_succ_of_lt ll2)
  · intro c hc
    simp only [List.mem_cons, List.not_mem_nil, or_false] at hc
    rcases hc with rfl | rfl | rfl | rfl <;> simp

theorem pyIter_zip {z TI TO i1 i2 : Addr} {Q : Value → Shared → Prop} (hz : ZipSt s.heap z TI TO i1 i2) (h : Q (.ref z) s) : wpAny (model prog w) A (pyIter (.ref z)) Q E s := by
  obtain ⟨⟨f0, f1, ho, _⟩, _⟩ := hz
  have hT : s.TypeIs (.ref z) "zip" := ⟨_, ho, rfl⟩
  refine wpAny_pyIter_slot hT F.slot_zip_iter (wpAny_call_entry F.slot_zip_iter hT F.entry_zip_iter ?_ (F.args_zip_iter_1 _))
  show wpAny _ _ (ret (.ref z)) _ _ s
  exact wpAny_pure ⟨_, rfl, "zip", _, hT, F.slot_zip_next.lookup, h⟩

/-- the protocol of a zip of two lists -/
theorem ItW.zip (hh : A.handled = none) {C D z TI TO i1 i2 l1 l2 : Addr} {xs ys : Array Value} (ap : ZipAp z TI TO i1 i2 [i1, l1] [i2, l2]) (h1 : l1 ≠ i1) (h2 : l2 ≠ i2) (off : ∀ c ∈ [z, TI, TO, i1, i2, l1, l2], c ≠ C ∧ c ≠ D) :
    ItW prog w A C D z [z, TO, i1, i2] (min xs.size ys.size) (fun i v h h' => ∃ T x y, v = .ref T ∧ h.objs.size ≤ T ∧ xs[i]? = some x ∧ ys[i]? = some y ∧ IsPair h' T x y)
      (fun i h => ZipSt h z TI TO i1 i2 ∧ (h.IsListIter i1 l1 i ∧ h.IsList l1 xs) ∧ (h.IsListIter i2 l2 i ∧ h.IsList l2 ys)) := by
  have W1 := Nx.list (prog := prog) (w := w) i1 l1 h1 xs
  have W2 := Nx.list (prog := prog) (w := w) i2 l2 h2 ys
  have o0 := off z (by simp)
  have o1 := off TI (by simp)
  have o2 := off TO (by simp)
  have o3 := off i1 (by simp)
  have o4 := off i2 (by simp)
  have o5 := off l1 (by simp)
  have o6 := off l2 (by simp)
  constructor
  · rintro i h h' ⟨⟨⟨f0, f1, hz, hf⟩, hTI, ⟨a, b, hTO⟩⟩, s1, s2⟩ kp ⟨oc, hC⟩ ⟨od, hD⟩
    refine ⟨⟨⟨f0, f1, kp _ _ o0.1 o0.2 hz, ?_⟩, kp _ _ o1.1 o1.2 hTI, ⟨a, b, kp _ _ o2.1 o2.2 hTO⟩⟩, W1.frame _ _ _ s1 fun c hc o e => ?_, W2.frame _ _ _ s2 fun c hc o e => ?_⟩
    · rcases hf with hf | ⟨T, o, hT, ho⟩
      · exact .inl hf
      · refine .inr ?_
        by_cases q : T = C
        · subst q; exact ⟨_, oc, hT, hC⟩
        · by_cases q' : T = D
          · subst q'; exact ⟨_, od, hT, hD⟩
          · exact ⟨T, o, hT, kp _ _ q q' ho⟩
    · simp only [List.mem_cons, List.not_mem_nil, or_false] at hc
      rcases hc with rfl | rfl
      · exact kp _ _ o3.1 o3.2 e
      · exact kp _ _ o5.1 o5.2 e
    · simp only [List.mem_cons, List.not_mem_nil, or_false] at hc
      rcases hc with rfl | rfl
      · exact kp _ _ o4.1 o4.2 e
      · exact kp _ _ o6.1 o6.2 e
  · rintro i s Q E hi ⟨hz, s1, s2⟩ hQ
    refine zip_pyNext_item W1 W2 ap hz s1 s2 (by omega) (by omega) fun T h' tk x y a1 a2 a3 a4 a5 a6 a7 a8 => ?_
    refine hQ _ h' tk ⟨T, x, y, rfl, a1, a2, a3, a4⟩ ⟨a5, a6, a7⟩ fun b o hb e => ?_
    simp only [List.mem_cons, List.not_mem_nil, or_false, not_or] at hb
    exact a8 b o hb.1 hb.2.1 hb.2.2.1 hb.2.2.2 e
  · rintro s Q E ⟨hz, s1, s2⟩ hQ
    refine zip_pyNext_end hh W1 W2 ap hz s1 s2 rfl fun h' tk a8 => ?_
    refine hQ h' tk fun b o hb e => ?_
    simp only [List.mem_cons, List.not_mem_nil, or_false, not_or] at hb
    exact a8 b o hb.1 hb.2.1 hb.2.2.1 hb.2.2.2 e
  · rintro i s Q E ⟨hz, _⟩ h
    exact pyIter_zip hz h
end
end Mine
end
section
set_option maxRecDepth 100000
namespace Mine
open PySem PySem.W PySem.Calls PyProof.Rows PySem.Spec PyProof.V PyProof.Rows.LCg
def flatZ (xs ys : Array Value) : Nat → List Value
  | 0 => []
  | i + 1 => flatZ xs ys i ++ [xs.getD i .none, ys.getD i .none]
theorem flatZ_len (xs ys : Array Value) : ∀ i, (flatZ xs ys i).length = 2 * i
  | 0 => rfl
  | i + 1 => by simp [flatZ, flatZ_len xs ys i]; omega
section
variable {prog : Program} {w : World} {A : Around} {E : Value → Shared → Prop} {s : Shared} {env : Env} {h₀ : Heap}
theorem Assign_zipflat {x z y : Str} {px px2 pz pz2 py : Pos} {iter0 : Expr} {scope : Scope} {cl : List (Str × Addr)} {pos spos : Pos} {Q : Flow → Shared → Prop} (hh : A.handled = none)
    (hsw : swapsWith (.ListComp (.Name x px) [⟨.Name z pz, iter0, [], 0⟩, ⟨.Name x px2, .Name z pz2, [], 0⟩] scope pos) (some (.Name y py)) spos.line env = pure true)
    (hclos : closureFor scope env = pure cl) (hcell : ∀ z ∈ scope.names, z.2 ≠ .cell) (hkind : scope.kind = .function)
    (hnames : ∀ z ∈ scope.names, z.2 = .local → scope.names.lookup z.1 = some .local) (hx : scope.names.lookup x = some .local) (hz : scope.names.lookup z = some .local) (hxz : x ≠ z)
    (hdx : (x == ("__debug__" : Str)) = false) (hdz : (z == ("__debug__" : Str)) = false)
    (hy : env.kindOf y = some .local) (hp : (env.scope.kind == .class || (env.scope.kind == .module && env.locals != env.globals)) = false)
    (h : wpAny (model prog w) A (eval iter0 env) (fun xv s₁ => ∃ zz σ l1 xs l2 ys news m, xv = .ref zz ∧ ZipLL s₁.heap σ zz l1 xs l2 ys ∧ Fr h₀ env.locals s₁.heap m ∧ News h₀ env.locals s₁.heap news ∧ (∀ p ∈ news, @LT.lt Nat _ p.1 σ) ∧ @LT.lt Nat _ env.locals σ ∧ min xs.size ys.size ≤ 1000 ∧
      ∀ D h' tk, Fr h₀ env.locals h' (fun u => if u = y then some (.ref D) else m u) → News h₀ env.locals h' ((D, lst (flatZ xs ys (min xs.size ys.size))) :: news) → (∀ p ∈ news, @LT.lt Nat _ p.1 D) → Q .next { s₁ with heap := h', toks := tk }) E s)
    (hs : ∀ x, foldedSetIterable iter0 env x = pure x := by intro _; rfl) (hs1 : ∀ C x, foldedSetIterable (.Name z pz2) (compEnvC scope cl C env) x = pure x := by intro _ _; rfl) :
    wpAny (model prog w) A (exec (.Assign [.Name y py] (.ListComp (.Name x px) [⟨.Name z pz, iter0, [], 0⟩, ⟨.Name x px2, .Name z pz2, [], 0⟩] scope pos) spos) env) Q E s := by
  rw [exec_Assign_Name_used _ _ _ _ hsw]
  refine wpAny_bind (wpAny_standAt (wpAny_bind ?_))
  show wpAny _ A (do let _ ← comprehension (.ListComp (.Name x px) [⟨.Name z pz, iter0, [], 0⟩, ⟨.Name x px2, .Name z pz2, [], 0⟩] scope pos) scope env _ (newList []) false (eval iter0 env) (some (assign (.Name y py) env))) _ _ s
  refine wpAny_bind (wpAny_mono (wpAny_comprehension_free (use := some (assign (.Name y py) env)) (Q := fun _ s' => Q .next s') rfl hs hclos hkind hnames
    (wpAny_mono h (fun xv s₁ h₁ => ?_) fun _ _ e => e)) (fun _ s' hq => wpAny_pure (wpAny_pure hq)) fun _ _ e => e)
  obtain ⟨zz, σ, l1, xs, l2, ys, news, m, rfl, ⟨TI, TO, i1, i2, ap, n1, n2, hZ, s1, s2, hσ⟩, F, N, lnews, lL, hsm, fin⟩ := h₁
  refine pyIter_zip hZ ?_
  refine wpAny_newObj_type (wpAny_newFunctionEnv hcell (by intro y hy; simp at hy) (fun h₁ hns₁ hsb₁ => ?_) hkind)
  dsimp only at hns₁ hsb₁ ⊢
  generalize hH2 : s₁.heap.push { cls := .type "list", dict := none, data := .seq ([] : List Value).toArray } = H2 at hns₁ hsb₁ ⊢
  have hCs : H2.objs.size = s₁.heap.objs.size + 1 := by rw [← hH2, Heap.size_push]
  obtain ⟨D, hD⟩ : ∃ D : Nat, D = s₁.heap.objs.size := ⟨_, rfl⟩
  obtain ⟨C, hC⟩ : ∃ C : Nat, C = H2.objs.size := ⟨_, rfl⟩
  rw [← hC] at hns₁ hsb₁ ⊢
  rw [← hD]
  have hDC : D ≠ C := by omega
  have below : ∀ b o, s₁.heap.get? b = some o → b ≠ C ∧ b ≠ D := fun b o e => by
    have lb : @LT.lt Nat _ b s₁.heap.objs.size := Heap.lt_size e
    exact ⟨fun q => by have q' : @Eq Nat b C := q; omega, fun q => by have q' : @Eq Nat b D := q; omega⟩
  have old : ∀ b o, s₁.heap.get? b = some o → h₁.get? b = some o := fun b o e => hsb₁.extBut b o (below b o e).1 (Heap.get?_push_of_some _ (hH2 ▸ Heap.get?_push_of_some _ e))
  have hacc : h₁.get? D = some (lst []) := hsb₁.extBut _ _ hDC (Heap.get?_push_of_some _ (hH2 ▸ hD ▸ Heap.get?_push_size _ rfl))
  have offs : ∀ c ∈ [zz, TI, TO, i1, i2, l1, l2], c ≠ C ∧ c ≠ D := by
    obtain ⟨⟨f0, f1, ho, _⟩, hTI, ⟨a, b, hTO⟩⟩ := hZ
    obtain ⟨⟨oi1, hi1, _⟩, ⟨ol1, hl1, _⟩⟩ := s1
    obtain ⟨⟨oi2, hi2, _⟩, ⟨ol2, hl2, _⟩⟩ := s2
    intro c hc
    simp only [List.mem_cons, List.not_mem_nil, or_false] at hc
    rcases hc with e | e | e | e | e | e | e <;> rw [e]
    · exact below _ _ ho
    · exact below _ _ hTI
    · exact below _ _ hTO
    · exact below _ _ hi1
    · exact below _ _ hi2
    · exact below _ _ hl1
    · exact below _ _ hl2
  have W := ItW.zip (prog := prog) (w := w) hh (C := C) (D := D) (xs := xs) (ys := ys) ap n1 n2 offs
  have hCw : C ∉ [zz, TO, i1, i2] := by
    intro hm
    simp only [List.mem_cons, List.not_mem_nil, or_false] at hm
    rcases hm with e | e | e | e
    · exact (offs zz (by simp)).1 e.symm
    · exact (offs TO (by simp)).1 e.symm
    · exact (offs i1 (by simp)).1 e.symm
    · exact (offs i2 (by simp)).1 e.symm
  have hDw : D ∉ [zz, TO, i1, i2] := by
    intro hm
    simp only [List.mem_cons, List.not_mem_nil, or_false] at hm
    rcases hm with e | e | e | e
    · exact (offs zz (by simp)).2 e.symm
    · exact (offs TO (by simp)).2 e.symm
    · exact (offs i1 (by simp)).2 e.symm
    · exact (offs i2 (by simp)).2 e.symm
  have hkC : ((compEnvC scope cl C env).scope.kind == .class || ((compEnvC scope cl C env).scope.kind == .module && (compEnvC scope cl C env).locals != (compEnvC scope cl C env).globals)) = false := by simp [compEnvC, relabel, hkind]
  refine comp2_outer (env := compEnvC scope cl C env) (C := C) (D := D) (ys0 := []) (m4 := fun y => List.lookup y ([] : List (Str × Value)).reverse) (fun i vs => vs = flatZ xs ys i) W rfl (lookup_relabel_local hz) hkC hDC hCw hDw ?hst hacc hns₁ rfl (hs1 C) ?turn ?done
  case hst =>
    refine W.frame 0 _ _ ⟨hZ, s1, s2⟩ (fun b o _ _ e => old b o e) (ns_some hns₁) ⟨_, hacc⟩
  case turn =>
    rintro i v vs ha hb hc tk m₂ m₁ E1 E2 hi rfl ⟨T, xx, yy, rfl, hT, hxx, hyy, hpair⟩ hDa hCa hkb hSt kp hDc hCc hm
    obtain ⟨oC, hoC⟩ := ns_some hCa
    have lT : @LE.le Nat _ ha.objs.size T := hT
    have lC : @LT.lt Nat _ C ha.objs.size := Heap.lt_size hoC
    have lD : @LT.lt Nat _ D ha.objs.size := Heap.lt_size hDa
    have hTC : @Ne Nat T C := by omega
    have hTD : @Ne Nat T D := by omega
    have hpc : IsPair hc T xx yy := hkb _ _ hTC hpair
    refine ldVarK hCc hm ?_ (by exact hkind) (lookup_relabel_local hz) hdz
    refine wpAny_pyIter_tuple (items := #[xx, yy]) ⟨_, hpc, rfl, _, rfl⟩ ?_
    have lTc : @LT.lt Nat _ T hc.objs.size := Heap.lt_size hpc
    have lCc : @LT.lt Nat _ C hc.objs.size := by obtain ⟨o, ho⟩ := ns_some hCc; exact Heap.lt_size ho
    have lDc : @LT.lt Nat _ D hc.objs.size := Heap.lt_size hDc
    have n9 : @Ne Nat T hc.objs.size := by omega
    have n10 : @Ne Nat C hc.objs.size := by omega
    have n11 : @Ne Nat D hc.objs.size := by omega
    have up : ∀ b o, hc.get? b = some o → (hc.push { cls := .type "tuple_iterator", data := .fields #[.ref T, .int 0 0] }).get? b = some o := fun b o e => Heap.get?_push_of_some _ e
    have W1 := ItW.of (Walks.tuple (prog := prog) (w := w) (A := A.mark none) hh hc.objs.size T n9 #[xx, yy]) (C := C) (D := D) (by simp; exact ⟨n10, hTC.symm⟩) (by simp; exact ⟨n11, hTD.symm⟩)
    refine comp2_inner (C := C) (ys0 := flatZ xs ys i) (m4 := m₂) (fun j vs => vs = flatZ xs ys i ++ [xx, yy].take j) W1 rfl (lookup_relabel_local hx) hkC hDC (by simp; exact n10) (by simp; exact n11) ?hst1 (up _ _ hDc) (hCc.at' fun o e => up _ o e) (by simp) ?hsz1 ?turn1 ?done1
    case hst1 => exact ⟨⟨_, Heap.get?_push_size _ rfl, rfl, rfl⟩, ⟨_, up _ _ hpc, rfl, _, rfl⟩⟩
    case hsz1 =>
      rintro j vs rfl
      rw [List.length_append, flatZ_len, sizeLine_eq]
      have : ([xx, yy].take j).length ≤ 2 := by simp; omega
      omega
    case turn1 =>
      rintro j v' vs ha' hb' hc' tk' m₃ m₁' E3 hj rfl hv' hDa' hCa' hkb' kp' hDc' hCc' hm' hmo
      refine ldVarK hCc' hm' ?_ (by exact hkind) (lookup_relabel_local hx) hdx
      refine ⟨hc', tk', rfl, fun _ _ e => e, ?_⟩
      have hv' : ([xx, yy] : List Value)[j]? = some v' := by simpa using hv'
      rw [List.take_add_one, hv', ← List.append_assoc]; rfl
    case done1 =>
      rintro h9 tk9 vs m9 rfl k9 hD9 hC9 _
      have k9' : ∀ b o, b ≠ C → b ≠ D → hc.get? b = some o → h9.get? b = some o := fun b o c1 c2 e => k9 b o (by
        have lb : @LT.lt Nat _ b hc.objs.size := Heap.lt_size e
        intro hmm
        have : @Eq Nat b hc.objs.size := List.mem_singleton.mp hmm
        omega) c1 c2 (up _ _ e)
      refine ⟨h9, tk9, _, m9, rfl, W.frame _ _ _ hSt k9' (ns_some hC9) ⟨_, hD9⟩, ?_, fun b o c1 c2 c3 e => k9' b o c2 c3 (kp b o c1 c2 c3 e), hD9, hC9⟩
      show flatZ xs ys i ++ _ = flatZ xs ys i ++ [xs.getD i .none, ys.getD i .none]
      have e1 : xs.getD i .none = xx := by simp [Array.getD_eq_getD_getElem?, hxx]
      have e2 : ys.getD i .none = yy := by simp [Array.getD_eq_getD_getElem?, hyy]
      rw [e1, e2]; rfl
  case done =>
    rintro h9 tk9 vs m9 rfl k9 hD9 hC9
    have k9' : ∀ b o, @LT.lt Nat _ b σ → s₁.heap.get? b = some o → h9.get? b = some o := fun b o hb e => k9 b o (fun hm => by
      have : @LE.le Nat _ σ b := hσ b hm
      omega) (below b o e).1 (below b o e).2 (old b o e)
    have hL0 : h₀.get? env.locals = none := Heap.get?_none_of_le F.above
    have F9 : Fr h₀ env.locals h9 m := ⟨F.ns.at' fun o e => k9' _ o lL e, fun b o e => k9' b o (Nat.lt_of_lt_of_le (Heap.lt_size e) (Nat.le_trans F.above (Nat.le_of_lt lL))) (F.keep b o e), F.above⟩
    have sσ : @LE.le Nat _ σ s₁.heap.objs.size := by
      obtain ⟨⟨f0, f1, ho, _⟩, _, _⟩ := hZ
      have a1 : @LE.le Nat _ σ zz := hσ zz (by simp)
      have a2 : @LT.lt Nat _ zz s₁.heap.objs.size := Heap.lt_size ho
      omega
    have lD9 : @LT.lt Nat _ env.locals D := by omega
    have nD : @Ne Nat D env.locals := by omega
    have nC : @Ne Nat C env.locals := by omega
    have a0 : @LE.le Nat _ h₀.objs.size env.locals := F.above
    have hD0 : h₀.get? D = none := Heap.get?_none_of_le (show @LE.le Nat _ h₀.objs.size D by omega)
    have hC0 : h₀.get? C = none := Heap.get?_none_of_le (show @LE.le Nat _ h₀.objs.size C by omega)
    have N9 : News h₀ env.locals h9 ((D, lst (flatZ xs ys (min xs.size ys.size))) :: news) := fun p hp => by
      rcases List.mem_cons.mp hp with rfl | hp
      · exact ⟨hD9, nD, hD0⟩
      · exact ⟨k9' _ _ (lnews p hp) (N p hp).1, (N p hp).2⟩
    show wpAny _ A (assign (.Name y py) env (.ref D)) _ _ _
    refine wpAny_assign_Name (wpAny_storeName_local hy F9.ns (fun h₂ hn₂ hs₂ => ?_) hp)
    have F₂ : Fr h₀ env.locals h₂ (fun u => if u = y then some (.ref D) else m u) := ⟨hn₂, fun b o e => hs₂.extBut b o (fun q => by rw [q, hL0] at e; cases e) (F9.keep b o e), F9.above⟩
    refine ⟨m9, hC9.sameBut hs₂ nC, fun h'' hs'' => fin D h'' _ (F₂.change hs'' nC hC0) (fun p hp => ?_) (fun p hp => Nat.lt_of_lt_of_le (lnews p hp) (by omega))⟩
    have z9 : h₂.get? p.1 = some p.2 := hs₂.extBut _ _ (N9 p hp).2.1 (N9 p hp).1
    refine ⟨hs''.extBut _ _ ?_ z9, (N9 p hp).2⟩
    rcases List.mem_cons.mp hp with rfl | hp
    · exact hDC
    · have := lnews p hp
      exact (show @Ne Nat p.1 C by omega)
end
end Mine
end
section
set_option maxRecDepth 100000
namespace Mine
open PySem PySem.W PySem.Spec PySem.Calls PyProof.Rows PyProof.V PyProof.Rows.LCg
section
variable {prog : Program} {w : World} {A : Around} {E : Value → Shared → Prop} {s : Shared} {h₀ : Heap} {L : Addr} {m : Str → Option Value} {env : Env} {news : List (Addr × Obj)}

theorem int_is {k : Int} {v : Value} (h : (PySem.intKind prog w).is k v = true) : ∃ t, v = .int k t := Value.isInt_shape h

theorem it_dict {d : Addr} {od : Obj} {kvs : List (Int × Value)} {Q : Value → Shared → Prop} (hh : A.handled = none) (F : Fr h₀ L s.heap m) (N : News h₀ L s.heap news) (hm : (d, od) ∈ news) (hd : od.IsDictOf (PySem.intKind prog w) kvs) (hl : (d == sysModules) = false)
    (h : ∀ I h' ep, I = s.heap.objs.size → ItF prog w A h₀ L news I [I, d] kvs.length (fun i v => ∃ k x, kvs[i]? = some (k, x) ∧ (PySem.intKind prog w).is k v = true) (fun i h => h.IsKeyIter I d i kvs.length ep ∧ h.DictAt (PySem.intKind prog w) d kvs ep) h' → Fr h₀ L h' m → News h₀ L h' news → (∀ b o, s.heap.get? b = some o → h'.get? b = some o) → Q (.ref I) { s with heap := h' }) :
    wpAny (model prog w) A (pyIter (.ref d)) Q E s := by
  obtain ⟨ep, hat⟩ := (Heap.dictOf_iff.mpr ⟨od, (N _ hm).1, hd⟩ : s.heap.DictOf (PySem.intKind prog w) d kvs).dictAt
  have hlt : d < s.heap.objs.size := Heap.lt_size (N _ hm).1
  refine wpAny_pyIter_dict hl hat ?_
  have up : ∀ (o' : Obj) b o, s.heap.get? b = some o → (s.heap.push o').get? b = some o := fun o' b o e => Heap.get?_push_of_some _ e
  refine h _ _ ep rfl ⟨Walks.dictKeys hh _ d (Nat.ne_of_lt hlt) kvs ep, fun i h st => by obtain ⟨o, e, _⟩ := st.1; exact ⟨o, e⟩, fun i h h' o st e e' k N' => ⟨?_, ?_⟩, ⟨⟨_, Heap.get?_push_size _ rfl, rfl, rfl⟩, hat.keep (up _)⟩, ?_, Nat.ne_of_lt F.ns.lt, next_is_new F, fun p hp => Nat.ne_of_lt (Heap.lt_size (N p hp).1)⟩ (F.keeps (up _)) (N.grown (up _)) (up _)
  · obtain ⟨o', q, r⟩ := st.1
    rw [e] at q
    cases q
    exact ⟨o, e', r⟩
  · obtain ⟨es, ep', r1, r2, r3, r4, r5⟩ := hd
    obtain ⟨o2, es2, q1, q2, q3, q4⟩ := hat
    have z := (N _ hm).1
    rw [q1] at z
    cases z
    exact ⟨_, es2, (N' _ hm).1, q2, q3, q4⟩
  · intro b hb
    rw [Heap.size_push]
    rcases List.mem_cons.mp hb with rfl | hb
    · exact Nat.lt_succ_self _
    · rw [List.mem_singleton.mp hb]; exact Nat.lt_succ_of_lt hlt

/-- a comprehension with two clauses, over a dict's keys and over the keys of a dict found by each; its values are all good -/
theorem ListComp2_D {elt i0 i1 : Expr} {x y : Str} {p0 p1 : Pos} {scope : Scope} {cl : List (Str × Addr)} {pos : Pos} {Q : Value → Shared → Prop} {Good : Value → Prop} {M : Nat} {d : Addr} {od : Obj} {kvs : List (Int × Value)} (hh : A.handled = none) (hA : A.mark none = A)
    (hclos : closureFor scope env = pure cl) (hcell : ∀ z ∈ scope.names, z.2 ≠ .cell) (hkind : scope.kind = .function)
    (hnames : ∀ z ∈ scope.names, z.2 = .local → scope.names.lookup z.1 = some .local) (hx : scope.names.lookup x = some .local) (hy : scope.names.lookup y = some .local) (hxy : x ≠ y) (hM : M * M ≤ 10000)
    (hs0 : ∀ z, foldedSetIterable i0 env z = pure z) (hs1 : ∀ C z, foldedSetIterable i1 (compEnvC scope cl C env) z = pure z)
    (hm : (d, od) ∈ news) (hd : od.IsDictOf (PySem.intKind prog w) kvs) (hl : (d == sysModules) = false) (hk : kvs.length ≤ M)
    (h : wpAny (model prog w) A (eval i0 env) (fun xv s₁ => xv = .ref d ∧ ∃ hp tk, s₁ = { s with heap := hp, toks := tk } ∧ Fr h₀ L hp m ∧ News h₀ L hp news) E s)
    (turn : ∀ (i : Nat) (u : Int) (z : Value) (tu : Tok), kvs[i]? = some (u, z) → ∃ (d1 : Addr) (od1 : Obj) (kvs1 : List (Int × Value)), (d1, od1) ∈ news ∧ od1.IsDictOf (PySem.intKind prog w) kvs1 ∧ (d1 == sysModules) = false ∧ kvs1.length ≤ M ∧
      (∀ oC C D m₂ ys hp tk E1, NsObj oC m₂ → m₂ x = some (.int u tu) → Fr h₀ L hp m → News h₀ L hp ((C, oC) :: (D, lst ys) :: news) → (∀ p ∈ news, @Ne Nat p.1 C ∧ @Ne Nat p.1 D) → @Ne Nat C D →
        wpAny (model prog w) A (eval i1 (compEnvC scope cl C env)) (fun xv s' => xv = .ref d1 ∧ ∃ tk', s' = { s with heap := hp, toks := tk' }) E1 { s with heap := hp, toks := tk }) ∧
      (∀ (j : Nat) (v : Int) (z' : Value) (tv : Tok), kvs1[j]? = some (v, z') → ∀ oC C D m₂ ys hp tk E2, NsObj oC m₂ → m₂ x = some (.int u tu) → m₂ y = some (.int v tv) → Fr h₀ L hp m → News h₀ L hp ((C, oC) :: (D, lst ys) :: news) → (∀ p ∈ news, @Ne Nat p.1 C ∧ @Ne Nat p.1 D) → @Ne Nat C D →
        wpAny (model prog w) A (eval elt (compEnvC scope cl C env)) (fun r s' => (∃ tk', s' = { s with heap := hp, toks := tk' }) ∧ Good r) E2 { s with heap := hp, toks := tk }))
    (fin : ∀ ys D hp tk, (∀ v ∈ ys, Good v) → ys.length ≤ M * M → Fr h₀ L hp m → News h₀ L hp ((D, lst ys) :: news) → Off1 D news → Q (.ref D) { s with heap := hp, toks := tk }) :
    wpAny (model prog w) A (eval (.ListComp elt [⟨.Name x p0, i0, [], 0⟩, ⟨.Name y p1, i1, [], 0⟩] scope pos) env) Q E s := by
  rw [eval_ListComp]
  refine wpAny_comprehension_free (use := none) rfl hs0 hclos hkind hnames (wpAny_mono h (fun xv s₁ h₁ => ?_) fun _ _ e => e)
  obtain ⟨rfl, hp1, tk1, rfl, F1, N1⟩ := h₁
  refine it_dict (s := { s with heap := hp1, toks := tk1 }) hh F1 N1 hm hd hl ?_
  intro I h' ep hIe T F N up0
  refine wpAny_newObj_type (wpAny_newFunctionEnv hcell (by intro y hy; simp at hy) (fun h₁ hns₁ hsb₁ => ?_) hkind)
  dsimp only at hns₁ hsb₁ ⊢
  obtain ⟨D, hD⟩ : ∃ D : Nat, D = h'.objs.size := ⟨_, rfl⟩
  generalize hH2 : h'.push { cls := .type "list", dict := none, data := .seq ([] : List Value).toArray } = H2 at hns₁ hsb₁ ⊢
  have sz2 : H2.objs.size = D + 1 := by rw [← hH2, Heap.size_push, hD]
  rw [sz2] at hns₁ hsb₁ ⊢
  rw [← hD]
  obtain ⟨C, hC⟩ : ∃ C : Nat, C = D + 1 := ⟨_, rfl⟩
  rw [← hC] at hns₁ hsb₁ ⊢
  have nDC : @Ne Nat D C := by omega
  have lt : ∀ a o, h'.get? a = some o → @LT.lt Nat _ a D := fun a o e => hD ▸ Heap.lt_size e
  have below : ∀ b o, h'.get? b = some o → @Ne Nat b C ∧ @Ne Nat b D := fun b o e => by
    have := lt b o e
    constructor
    · omega
    · omega
  have old : ∀ b o, h'.get? b = some o → h₁.get? b = some o := fun b o e => hsb₁.extBut b o (below b o e).1 (Heap.get?_push_of_some _ (hH2 ▸ Heap.get?_push_of_some _ e))
  have hacc : h₁.get? D = some (lst []) := hsb₁.extBut _ _ nDC (Heap.get?_push_of_some _ (by rw [← hH2, hD]; exact Heap.get?_push_size _ rfl))
  have fresh : ∀ a, @LE.le Nat _ D a → h₀.get? a = none := fun a ha => by
    cases e : h₀.get? a with
    | none => rfl
    | some o' =>
      have := lt _ _ (F.keep a o' e)
      omega
  have lL : @LT.lt Nat _ L D := hD ▸ F.ns.lt
  have nCL : @Ne Nat C L := by omega
  have nDL : @Ne Nat D L := by omega
  have fC : h₀.get? C = none := fresh _ (by omega)
  have fD : h₀.get? D = none := fresh _ (Nat.le_refl _)
  have hIlt : @LT.lt Nat _ I D := hD ▸ T.fps I (by simp)
  have ln : ∀ p ∈ news, @LT.lt Nat _ p.1 D := fun p hp => lt _ _ (N p hp).1
  have nCI : @Ne Nat C I := by omega
  have nDI : @Ne Nat D I := by omega
  have ldl : @LT.lt Nat _ d D := ln _ hm
  have cf : C ∉ [I, d] := by
    intro hq
    simp only [List.mem_cons, List.not_mem_nil, or_false] at hq
    have l2 := ldl
    rcases hq with e | e
    · exact nCI e
    · have e' : @Eq Nat C d := e
      omega
  have df : D ∉ [I, d] := by
    intro hq
    simp only [List.mem_cons, List.not_mem_nil, or_false] at hq
    have l2 := ldl
    rcases hq with e | e
    · exact nDI e
    · have e' : @Eq Nat D d := e
      omega
  have W := ItW.of T.W cf df
  have hkC : ((compEnvC scope cl C env).scope.kind == .class || ((compEnvC scope cl C env).scope.kind == .module && (compEnvC scope cl C env).locals != (compEnvC scope cl C env).globals)) = false := by simp [compEnvC, relabel, hkind]
  -- what stays along the whole run
  have stay : ∀ hq : Heap, (∀ b o, b ∉ [I] → b ≠ C → b ≠ D → h₁.get? b = some o → hq.get? b = some o) → Fr h₀ L hq m ∧ News h₀ L hq news := fun hq k => by
    have k' : ∀ b o, @Ne Nat b I → h'.get? b = some o → hq.get? b = some o := fun b o hb e => k b o (fun hmm => hb (List.mem_singleton.mp hmm)) (below b o e).1 (below b o e).2 (old b o e)
    refine ⟨⟨F.ns.at' fun o e => k' L o (Ne.symm (Ne.symm T.ne)) e, fun b o e => k' b o (fun q => ?_) (F.keep b o e), F.above⟩, fun p hp => ⟨k' _ _ (T.off p hp) (N p hp).1, (N p hp).2⟩⟩
    have q' : b = I := q
    rw [q', T.new] at e
    cases e
  have ledger : ∀ (hq : Heap) (m₂ : Str → Option Value) (ys : List Value), (∀ b o, b ∉ [I] → b ≠ C → b ≠ D → h₁.get? b = some o → hq.get? b = some o) → hq.get? D = some (lst ys) → hq.Ns C m₂ →
      ∃ oC, NsObj oC m₂ ∧ Fr h₀ L hq m ∧ News h₀ L hq ((C, oC) :: (D, lst ys) :: news) := fun hq m₂ ys k hDq hCq => by
    obtain ⟨F', N'⟩ := stay hq k
    obtain ⟨oC, e, r⟩ := ns_obj hCq
    refine ⟨oC, r, F', fun p hp => ?_⟩
    rcases List.mem_cons.mp hp with rfl | hp
    · exact ⟨e, nCL, fC⟩
    rcases List.mem_cons.mp hp with rfl | hp
    · exact ⟨hDq, nDL, fD⟩
    exact N' p hp
  have offs : ∀ p ∈ news, @Ne Nat p.1 C ∧ @Ne Nat p.1 D := fun p hp => by
    have := ln p hp
    constructor
    · omega
    · omega
  refine comp2_outer (env := compEnvC scope cl C env) (C := C) (D := D) (ys0 := []) (m4 := fun y => List.lookup y ([] : List (Str × Value)).reverse) (fun i vs => (∀ v ∈ vs, Good v) ∧ vs.length ≤ i * M) W rfl (lookup_relabel_local hx) hkC nDC (fun hq => nCI (List.mem_singleton.mp hq)) (fun hq => nDI (List.mem_singleton.mp hq)) ?hst hacc hns₁ ⟨fun v hv => (nomatch hv), Nat.zero_le _⟩ (hs1 C) ?turn ?done
  case hst => exact T.W.frame 0 _ _ T.st fun b _ o e => old b o e
  case turn =>
    rintro i v vs ha hb hc tk m₂ m₁ E1 E2 hi ⟨hG, hlen⟩ ⟨u, z, hu, hv⟩ hDa hCa hkb hSt kp hDc hCc hm2
    obtain ⟨tu, rfl⟩ := int_is hv
    obtain ⟨d1, od1, kvs1, hm1, hd1, hl1, hk1, ev1, ev2⟩ := turn i u z tu hu
    obtain ⟨oC, rC, Fc, Nc⟩ := ledger hc m₂ vs kp hDc hCc
    refine wpAny_mono (ev1 oC C D m₂ vs hc tk E1 rC hm2 Fc Nc offs (Ne.symm nDC)) (fun xv s₃ h₃ => ?_) fun _ _ e => e
    obtain ⟨rfl, tk3, rfl⟩ := h₃
    have Nn : News h₀ L hc news := fun p hp => Nc p (List.mem_cons_of_mem _ (List.mem_cons_of_mem _ hp))
    refine it_dict (s := { s with heap := hc, toks := tk3 }) hh Fc Nn hm1 hd1 hl1 ?_
    intro I1 h5 ep1 hI1 T1 F5 N5 up5
    have hI1' : @Eq Nat I1 hc.objs.size := hI1
    have lCc : @LT.lt Nat _ C hc.objs.size := by obtain ⟨o, ho⟩ := ns_some hCc; exact Heap.lt_size ho
    have lDc : @LT.lt Nat _ D hc.objs.size := Heap.lt_size hDc
    have n1 : @Ne Nat C I1 := by omega
    have n2 : @Ne Nat D I1 := by omega
    have l1 : @LT.lt Nat _ d1 D := ln _ hm1
    have c1 : C ∉ [I1, d1] := by
      intro hq
      simp only [List.mem_cons, List.not_mem_nil, or_false] at hq
      have l2 := l1
      rcases hq with e | e
      · exact n1 e
      · have e' : @Eq Nat C d1 := e
        omega
    have c2 : D ∉ [I1, d1] := by
      intro hq
      simp only [List.mem_cons, List.not_mem_nil, or_false] at hq
      have l2 := l1
      rcases hq with e | e
      · exact n2 e
      · have e' : @Eq Nat D d1 := e
        omega
    have W1 := ItW.of T1.W c1 c2
    rw [hA]
    refine comp2_inner (C := C) (ys0 := vs) (m4 := m₂) (fun j vs' => (∀ v ∈ vs', Good v) ∧ vs'.length ≤ i * M + j ∧ j ≤ kvs1.length) W1 rfl (lookup_relabel_local hy) hkC nDC (fun hq => n1 (List.mem_singleton.mp hq)) (fun hq => n2 (List.mem_singleton.mp hq)) T1.st (up5 _ _ hDc) (hCc.at' fun o e => up5 _ o e) ⟨hG, by omega, Nat.zero_le _⟩ ?hsz1 ?turn1 ?done1
    case hsz1 =>
      rintro j vs' ⟨_, h2, h3⟩
      have hik : i < kvs.length := hi
      have : i * M ≤ M * M := Nat.mul_le_mul_right _ (by omega)
      have a2 : M ≤ M * M ∨ M = 0 := by
        rcases Nat.eq_zero_or_pos M with e | e
        · exact .inr e
        · exact .inl (Nat.le_mul_of_pos_left _ e)
      rw [sizeLine_eq]
      omega
    case turn1 =>
      rintro j v' vs' ha' hb' hc' tk' m₃ m₁' E3 hj ⟨hG', hlen', hjk⟩ ⟨v, z', hv', hvv⟩ hDa' hCa' hkb' kp' hDc' hCc' hm' hmo
      obtain ⟨tv, rfl⟩ := int_is hvv
      have kpp : ∀ b o, b ∉ [I] → b ≠ C → b ≠ D → h₁.get? b = some o → hc'.get? b = some o := fun b o q1 q2 q3 e => by
        have e1 := kp b o q1 q2 q3 e
        refine kp' b o (fun hq => ?_) q2 q3 (up5 _ _ e1)
        have : @Eq Nat b I1 := List.mem_singleton.mp hq
        have := Heap.lt_size e1
        have q9 : @LT.lt Nat _ b hc.objs.size := this
        omega
      obtain ⟨oC', rC', Fc', Nc'⟩ := ledger hc' m₃ vs' kpp hDc' hCc'
      refine wpAny_mono (ev2 j v z' tv hv' oC' C D m₃ vs' hc' tk' E3 rC' (by rw [hmo x hxy]; exact hm2) hm' Fc' Nc' offs (Ne.symm nDC)) (fun r s' h9 => ?_) fun _ _ e => e
      obtain ⟨⟨tk9, rfl⟩, hg⟩ := h9
      refine ⟨hc', tk9, rfl, fun _ _ e => e, fun v hv => ?_, ?_, hj⟩
      · rcases List.mem_append.mp hv with hv | hv
        · exact hG' v hv
        · rw [List.mem_singleton.mp hv]; exact hg
      · rw [List.length_append, List.length_singleton]; omega
    case done1 =>
      rintro h9 tk9 vs' m9 ⟨hG', hlen', _⟩ k9 hD9 hC9 _
      have k9' : ∀ b o, b ≠ C → b ≠ D → hc.get? b = some o → h9.get? b = some o := fun b o q1 q2 e => k9 b o (fun hq => by
        have a1 : @Eq Nat b I1 := List.mem_singleton.mp hq
        have a2 : @LT.lt Nat _ b hc.objs.size := Heap.lt_size e
        omega) q1 q2 (up5 _ _ e)
      refine ⟨h9, tk9, _, m9, rfl, W.frame _ _ _ hSt k9' (ns_some hC9) ⟨_, hD9⟩, ⟨hG', ?_⟩, fun b o q1 q2 q3 e => k9' b o q2 q3 (kp b o q1 q2 q3 e), hD9, hC9⟩
      rw [Nat.add_mul, Nat.one_mul]; omega
  case done =>
    rintro h9 tk9 vs m9 ⟨hG, hlen⟩ k9 hD9 hC9
    obtain ⟨F9, N9⟩ := stay h9 k9
    have hl9 : vs.length ≤ M * M := Nat.le_trans hlen (Nat.mul_le_mul_right _ hk)
    refine ⟨m9, hC9, fun h'' hs'' => fin vs D h'' tk9 hG hl9 (F9.change hs'' nCL fC) (fun p hp => ?_) ?_⟩
    · rcases List.mem_cons.mp hp with rfl | hp
      · exact ⟨hs''.extBut _ _ nDC hD9, nDL, fD⟩
      · exact ⟨hs''.extBut _ _ (offs p hp).1 (N9 p hp).1, (N9 p hp).2⟩
    · exact ListComp_C.off1_of fun p hp => (offs p hp).2
end
end Mine
end
section
set_option maxRecDepth 100000
namespace Mine
open PySem PySem.W PySem.Spec PySem.Calls PyProof.Rows PyProof.V PyProof.Rows.LCg PyProof.Rows.LCp
section
variable {prog : Program} {w : World} {A : Around} {E : Value → Shared → Prop} {s : Shared} {h₀ : Heap} {L : Addr} {m : Str → Option Value} {env : Env} {news : List (Addr × Obj)}

/-- a zip of two lists of the ledger, just made -/
def ZipNew (h₀ : Heap) (L : Addr) (m : Str → Option Value) (news : List (Addr × Obj)) (l1 l2 : Addr) (s : Shared) (xv : Value) (s₁ : Shared) : Prop :=
  ∃ h tk z TI TO i1 i2, xv = .ref z ∧ s₁ = { s with heap := h, toks := tk } ∧ ZipApart z TI TO i1 i2 l1 l2 ∧ IsZip h z TI TO .none ∧ IsPair h TI (.ref i1) (.ref i2) ∧ (∃ a b, IsPair h TO a b) ∧ h.IsListIter i1 l1 0 ∧ h.IsListIter i2 l2 0 ∧
    Fr h₀ L h m ∧ News h₀ L h news ∧ (∀ c ∈ [z, TI, TO, i1, i2], (∀ p ∈ news, @Ne Nat p.1 c) ∧ @Ne Nat L c ∧ h₀.get? c = none)
theorem zip_apart (σ l1 l2 : Nat) (h1 : l1 < σ) (h2 : l2 < σ) : ZipApart (σ + 4) (σ + 2) (σ + 3) σ (σ + 1) l1 l2 := by
  have k : ∀ {a b : Nat}, a ≠ b → @Ne Addr a b := fun h => h
  constructor <;> exact k (by omega)
theorem call_zipN {l1 l2 : Addr} {xs ys : Array Value} {c1 c2 : Nat} {s₀ : Shared} {tk0 : Nat} {hp : Heap} {Q : Value → Shared → Prop} (hs : s = { s₀ with heap := hp, toks := tk0 }) (Fq : Fr h₀ L hp m) (N : News h₀ L hp news) (m1 : (l1, listOf xs c1) ∈ news) (m2 : (l2, listOf ys c2) ∈ news)
    (h : ∀ xv s₁, ZipNew h₀ L m news l1 l2 s₀ xv s₁ → Q xv s₁) :
    wpAny (model prog w) A (call (.type "zip") [.ref l1, .ref l2]) Q E s := by
  subst hs
  have hl1 : hp.IsList l1 xs := ⟨_, (N _ m1).1, rfl, _, rfl⟩
  have hl2 : hp.IsList l2 ys := ⟨_, (N _ m2).1, rfl, _, rfl⟩
  refine callType_new F.called_zip (by decide) (F.typeCall_zip_2 _ _) (F.newCall_zip_2 _ _) (fun obj => F.args_object_init_3 obj _ _) F.entry_zip_new
    (meets_zip_ll l1 l2 xs ys) ⟨hl1, hl2, ?_⟩
  have z1 : (zlH1 hp l1).objs.size = hp.objs.size + 1 := Heap.size_push ..
  have z2 : (zlH2 hp l1 l2).objs.size = hp.objs.size + 2 := by rw [Heap.size_push, z1]
  have z3 : (zlH3 hp l1 l2).objs.size = hp.objs.size + 3 := by rw [Heap.size_push, z2]
  have z4 : (zlH4 hp l1 l2).objs.size = hp.objs.size + 4 := by rw [Heap.size_push, z3]
  have g5 : (zlH5 hp l1 l2).get? (zlH4 hp l1 l2).objs.size = some _ := Heap.get?_push_size _ rfl
  have g4 : (zlH5 hp l1 l2).get? (zlH3 hp l1 l2).objs.size = some _ := Heap.get?_push_of_some _ (Heap.get?_push_size _ rfl)
  have g3 : (zlH5 hp l1 l2).get? (zlH2 hp l1 l2).objs.size = some _ := Heap.get?_push_of_some _ (Heap.get?_push_of_some _ (Heap.get?_push_size _ rfl))
  have g2 : (zlH5 hp l1 l2).get? (zlH1 hp l1).objs.size = some _ := Heap.get?_push_of_some _ (Heap.get?_push_of_some _ (Heap.get?_push_of_some _ (Heap.get?_push_size _ rfl)))
  have g1 : (zlH5 hp l1 l2).get? hp.objs.size = some _ := Heap.get?_push_of_some _ (Heap.get?_push_of_some _ (Heap.get?_push_of_some _ (Heap.get?_push_of_some _ (Heap.get?_push_size _ rfl))))
  have up : ∀ c o, hp.get? c = some o → (zlH5 hp l1 l2).get? c = some o := fun c o x =>
    Heap.get?_push_of_some _ (Heap.get?_push_of_some _ (Heap.get?_push_of_some _ (Heap.get?_push_of_some _ (Heap.get?_push_of_some _ x))))
  have ll1 : @LT.lt Nat _ l1 hp.objs.size := Heap.lt_size (N _ m1).1
  have ll2 : @LT.lt Nat _ l2 hp.objs.size := Heap.lt_size (N _ m2).1
  rw [z2, z3, z4] at g5
  rw [z1, z2] at g3
  rw [z3] at g4
  rw [z1] at g2
  show _ ∧ _
  dsimp only
  rw [z4]
  have lL : @LT.lt Nat _ L hp.objs.size := Fq.ns.lt
  refine ⟨⟨_, g5, rfl⟩, h _ _ ⟨zlH5 hp l1 l2, tk0, hp.objs.size + 4, hp.objs.size + 2, hp.objs.size + 3, hp.objs.size, hp.objs.size + 1, rfl, rfl, zip_apart _ _ _ ll1 ll2, g5, g3, ⟨_, _, g4⟩, ⟨_, g1, rfl, rfl⟩, ⟨_, g2, rfl, rfl⟩, Fq.keeps up, N.grown up, ?_⟩⟩
  intro c hc
  have hσ : @LE.le Nat _ hp.objs.size c := by
    simp only [List.mem_cons, List.not_mem_nil, or_false] at hc
    rcases hc with rfl | rfl | rfl | rfl | rfl <;> simp
  refine ⟨fun p hp' => ?_, by omega, ?_⟩
  · have := Heap.lt_size (N p hp').1
    have q : @LT.lt Nat _ p.1 hp.objs.size := this
    omega
  · cases e : h₀.get? c with
    | none => rfl
    | some o' =>
      have q : @LT.lt Nat _ c hp.objs.size := Heap.lt_size (Fq.keep c o' e)
      omega

/-- a comprehension over a zip of two lists, all its values good -/
theorem ListComp_Z {elt iter : Expr} {x x₂ : Str} {px px₂ tp : Pos} {xt} {scope : Scope} {cl : List (Str × Addr)} {pos : Pos} {Q : Value → Shared → Prop} {Good : Value → Prop} {l1 l2 : Addr} {xs ys : Array Value} {c1 c2 n : Nat} (hh : A.handled = none)
    (hclos : closureFor scope env = pure cl) (hcell : ∀ z ∈ scope.names, z.2 ≠ .cell) (hkind : scope.kind = .function)
    (hnames : ∀ z ∈ scope.names, z.2 = .local → scope.names.lookup z.1 = some .local) (hx : scope.names.lookup x = some .local) (hx₂ : scope.names.lookup x₂ = some .local) (hxx : x ≠ x₂)
    (m1 : (l1, listOf xs c1) ∈ news) (m2 : (l2, listOf ys c2) ∈ news) (s1 : xs.size = n) (s2 : ys.size = n) (hn : n ≤ 10000) (h12 : @Ne Nat l1 l2)
    (hs : ∀ x, foldedSetIterable iter env x = pure x)
    (h : wpAny (model prog w) A (eval iter env) (ZipNew h₀ L m news l1 l2 s) E s)
    (turn : ∀ (i : Nat) (a b : Value), xs[i]? = some a → ys[i]? = some b → ∀ oC C D m₂ vs hp tk E2, NsObj oC m₂ → m₂ x = some a → m₂ x₂ = some b → Fr h₀ L hp m → News h₀ L hp ((C, oC) :: (D, lst vs) :: news) → (∀ p ∈ news, @Ne Nat p.1 C ∧ @Ne Nat p.1 D) → @Ne Nat C D →
        wpAny (model prog w) A (eval elt (compEnvC scope cl C env)) (fun r s' => (∃ tk', s' = { s with heap := hp, toks := tk' }) ∧ Good r) E2 { s with heap := hp, toks := tk })
    (fin : ∀ vs D hp tk, (∀ v ∈ vs, Good v) → vs.length = n → Fr h₀ L hp m → News h₀ L hp ((D, lst vs) :: news) → Off1 D news → Q (.ref D) { s with heap := hp, toks := tk }) :
    wpAny (model prog w) A (eval (.ListComp elt [⟨.Tuple [.Name x px, .Name x₂ px₂] xt tp, iter, [], 0⟩] scope pos) env) Q E s := by
  rw [eval_ListComp]
  refine wpAny_comprehension_free (use := none) rfl hs hclos hkind hnames (wpAny_mono h (fun xv s₁ h₁ => ?_) fun _ _ e => e)
  obtain ⟨hq, tkq, z, TI, TO, i1, i2, rfl, rfl, ap, hz, hTI, ⟨ta, tb, hTO⟩, hi1, hi2, F, N, fr⟩ := h₁
  refine wpAny_pyIter_zip hz ?_
  refine wpAny_newObj_type (wpAny_newFunctionEnv hcell (by intro y hy; simp at hy) (fun h₁ hns₁ hsb₁ => ?_) hkind)
  dsimp only at hns₁ hsb₁ ⊢
  obtain ⟨D, hD⟩ : ∃ D : Nat, D = hq.objs.size := ⟨_, rfl⟩
  generalize hH2 : hq.push { cls := .type "list", dict := none, data := .seq ([] : List Value).toArray } = H2 at hns₁ hsb₁ ⊢
  have sz2 : H2.objs.size = D + 1 := by rw [← hH2, Heap.size_push, hD]
  rw [sz2] at hns₁ hsb₁ ⊢
  rw [← hD]
  obtain ⟨C, hC⟩ : ∃ C : Nat, C = D + 1 := ⟨_, rfl⟩
  rw [← hC] at hns₁ hsb₁ ⊢
  have nDC : @Ne Nat D C := by omega
  have lt : ∀ a o, hq.get? a = some o → @LT.lt Nat _ a D := fun a o e => hD ▸ Heap.lt_size e
  have below : ∀ b o, hq.get? b = some o → @Ne Nat b C ∧ @Ne Nat b D := fun b o e => by
    have := lt b o e
    constructor
    · omega
    · omega
  have old : ∀ b o, hq.get? b = some o → h₁.get? b = some o := fun b o e => hsb₁.extBut b o (below b o e).1 (Heap.get?_push_of_some _ (hH2 ▸ Heap.get?_push_of_some _ e))
  have hacc : h₁.get? D = some (lst []) := hsb₁.extBut _ _ nDC (Heap.get?_push_of_some _ (by rw [← hH2, hD]; exact Heap.get?_push_size _ rfl))
  have fresh : ∀ a, @LE.le Nat _ D a → h₀.get? a = none := fun a ha => by
    cases e : h₀.get? a with
    | none => rfl
    | some o' =>
      have := lt _ _ (F.keep a o' e)
      omega
  have lL : @LT.lt Nat _ L D := hD ▸ F.ns.lt
  have nCL : @Ne Nat C L := by omega
  have nDL : @Ne Nat D L := by omega
  have fC : h₀.get? C = none := fresh _ (by omega)
  have fD : h₀.get? D = none := fresh _ (Nat.le_refl _)
  have ln : ∀ p ∈ news, @LT.lt Nat _ p.1 D := fun p hp => lt _ _ (N p hp).1
  have lz : @LT.lt Nat _ z D := lt _ _ hz
  have lTI : @LT.lt Nat _ TI D := lt _ _ hTI
  have lTO : @LT.lt Nat _ TO D := lt _ _ hTO
  have li1 : @LT.lt Nat _ i1 D := by obtain ⟨o, e, _⟩ := hi1; exact lt _ _ e
  have li2 : @LT.lt Nat _ i2 D := by obtain ⟨o, e, _⟩ := hi2; exact lt _ _ e
  have offs : ∀ p ∈ news, @Ne Nat p.1 C ∧ @Ne Nat p.1 D := fun p hp => by
    have := ln p hp
    constructor
    · omega
    · omega
  have offz := fr z (by simp)
  have offTI := fr TI (by simp)
  have offTO := fr TO (by simp)
  have offi1 := fr i1 (by simp)
  have offi2 := fr i2 (by simp)
  -- all that lay before, but the zip's own moving parts, stays
  have loop : codeAny (model prog w) A (.compLoop (.ListComp elt [⟨.Tuple [.Name x px, .Name x₂ px₂] xt tp, iter, [], 0⟩] scope pos) 0 (.ref z) (.ref D) (compEnvC scope cl C env)) (compPost (model prog w) A E none Q (.ref D) C) { s with heap := h₁, toks := tkq + ([] : List (Str × Value)).length } := by
    refine codeAny_compLoop_pair
      (fun k s' => ∃ h' tk i vs m' a b, s' = { s with heap := h', toks := tk } ∧ i ≤ n ∧ k = n + 1 - i ∧ vs.length = i ∧ (∀ v ∈ vs, Good v) ∧ IsZip h' z TI TO .none ∧ IsPair h' TI (.ref i1) (.ref i2) ∧ IsPair h' TO a b ∧ h'.IsListIter i1 l1 i ∧ h'.IsListIter i2 l2 i ∧ Fr h₀ L h' m ∧ News h₀ L h' news ∧ h'.get? D = some (lst vs) ∧ h'.Ns C m') ?_ (n + 1)
      ⟨h₁, _, 0, [], _, ta, tb, rfl, Nat.zero_le _, rfl, rfl, fun v hv => (nomatch hv), old _ _ hz, old _ _ hTI, old _ _ hTO, by obtain ⟨o, e, r⟩ := hi1; exact ⟨o, old _ _ e, r⟩, by obtain ⟨o, e, r⟩ := hi2; exact ⟨o, old _ _ e, r⟩, F.keeps old, N.grown old, hacc, hns₁⟩
    rintro k s' ⟨h', tk, i, vs, m', ta', tb', rfl, hi, rfl, hvl, hg, hz', hTI', hTO', hi1', hi2', F', N', hD', hC'⟩
    have hl1 : h'.IsList l1 xs := ⟨_, (N' _ m1).1, rfl, _, rfl⟩
    have hl2 : h'.IsList l2 ys := ⟨_, (N' _ m2).1, rfl, _, rfl⟩
    by_cases hlt : i < n
    · have e1 : xs[i]? = some xs[i] := by simp [s1, hlt]
      have e2 : ys[i]? = some ys[i] := by simp [s2, hlt]
      refine wpAny_pyNext_zip_item ap hz' hTI' hTO' hi1' hi2' hl1 hl2 e1 e2 fun h2 hz2 hTO2 hi12 hi22 hT2 hsz2 k2 => ?_
      refine wpAny_letOwnedTupleGo_zip hz2 fun h3 hz3 hs3 => ?_
      have lD' : @LT.lt Nat _ D h'.objs.size := Heap.lt_size hD'
      have lC' : @LT.lt Nat _ C h'.objs.size := by obtain ⟨o, e⟩ := ns_some hC'; exact Heap.lt_size e
      have lz' : @LT.lt Nat _ z h'.objs.size := Heap.lt_size hz'
      have nTz : @Ne Nat h'.objs.size z := by omega
      have hT3 : IsTup h3 h'.objs.size #[xs[i], ys[i]] := ⟨_, hs3.extBut _ _ nTz hT2, rfl, _, rfl⟩
      refine assign_Tuple_tuple hh hT3 rfl rfl fun h5 he => ?_
      have he' : ∀ b o, h3.get? b = some o → h5.get? b = some o := fun b o e => he b o (Nat.ne_of_lt (Heap.lt_size e)) e
      -- what stays from h' to h5
      have kp : ∀ b o, @Ne Nat b z → @Ne Nat b TO → @Ne Nat b i1 → @Ne Nat b i2 → h'.get? b = some o → h5.get? b = some o := fun b o q1 q2 q3 q4 e => he' _ _ (hs3.extBut _ _ q1 (k2 b o q1 q2 q3 q4 e))
      have C5 : h5.Ns C m' := hC'.at' fun o e => kp C o (by omega) (by omega) (by omega) (by omega) e
      refine assignInOrder_cons (wpAny_assign_Name (wpAny_storeName_local (lookup_relabel_local hx) C5 (fun h6 hn6 hs6 => ?_) (by simp [compEnvC, relabel, hkind])))
      refine assignInOrder_cons (wpAny_assign_Name (wpAny_storeName_local (lookup_relabel_local hx₂) hn6 (fun h7 hn7 hs7 => ?_) (by simp [compEnvC, relabel, hkind])))
      refine assignInOrder_nil ?_
      have k57 : ∀ b o, @Ne Nat b C → h5.get? b = some o → h7.get? b = some o := fun b o q e => hs7.extBut b o q (hs6.extBut b o q e)
      have kp7 : ∀ b o, @Ne Nat b C → @Ne Nat b z → @Ne Nat b TO → @Ne Nat b i1 → @Ne Nat b i2 → h'.get? b = some o → h7.get? b = some o := fun b o q0 q1 q2 q3 q4 e => k57 b o q0 (kp b o q1 q2 q3 q4 e)
      have D7 : h7.get? D = some (lst vs) := kp7 D _ nDC (by omega) (by omega) (by omega) (by omega) hD'
      obtain ⟨oC, heC, hoC⟩ := ns_obj hn7
      have F7 : Fr h₀ L h7 m := ⟨F'.ns.at' fun o e => kp7 L o (Ne.symm nCL) offz.2.1 offTO.2.1 offi1.2.1 offi2.2.1 e, fun b o e => kp7 b o (fun q => by have q' : b = C := q; rw [q', fC] at e; cases e) (fun q => by have q' : b = z := q; rw [q', offz.2.2] at e; cases e) (fun q => by have q' : b = TO := q; rw [q', offTO.2.2] at e; cases e) (fun q => by have q' : b = i1 := q; rw [q', offi1.2.2] at e; cases e) (fun q => by have q' : b = i2 := q; rw [q', offi2.2.2] at e; cases e) (F'.keep b o e), F'.above⟩
      have N7 : News h₀ L h7 news := fun p hp => ⟨kp7 _ _ (offs p hp).1 (offz.1 p hp) (offTO.1 p hp) (offi1.1 p hp) (offi2.1 p hp) (N' p hp).1, (N' p hp).2⟩
      have NN : News h₀ L h7 ((C, oC) :: (D, lst vs) :: news) := fun p hp => by
        rcases List.mem_cons.mp hp with rfl | hp
        · exact ⟨heC, nCL, fC⟩
        rcases List.mem_cons.mp hp with rfl | hp
        · exact ⟨D7, nDL, fD⟩
        exact N7 p hp
      refine wpAny_mono (turn i _ _ e1 e2 oC C D _ vs h7 _ _ hoC (by simp [hxx]) (by simp) F7 NN offs (Ne.symm nDC)) (fun y s9 h9 => ?_) fun _ _ e => e
      obtain ⟨⟨tk9, rfl⟩, hy⟩ := h9
      refine append_at (hsz := by show vs.toArray.size ≤ sizeLine; rw [List.size_toArray, hvl, sizeLine_eq]; omega) D7 fun h8 hs8 hD8 => ?_
      have k8 : ∀ b o, @Ne Nat b D → h7.get? b = some o → h8.get? b = some o := fun b o q e => hs8.extBut b o q e
      have z7 : h7.get? z = _ := k57 _ _ (by omega) (he' _ _ hz3)
      have T7 : IsPair h7 TI (.ref i1) (.ref i2) := kp7 _ _ (by omega) ap.TIz ap.TITO ap.TIi1 ap.TIi2 hTI'
      have O7 : IsPair h7 TO xs[i] ys[i] := k57 _ _ (by omega) (he' _ _ (hs3.extBut _ _ ap.TOz hTO2))
      have I17 : h7.IsListIter i1 l1 (i + 1) := by obtain ⟨o, e, r⟩ := hi12; exact ⟨o, k57 _ _ (by omega) (he' _ _ (hs3.extBut _ _ ap.i1z e)), r⟩
      have I27 : h7.IsListIter i2 l2 (i + 1) := by obtain ⟨o, e, r⟩ := hi22; exact ⟨o, k57 _ _ (by omega) (he' _ _ (hs3.extBut _ _ ap.i2z e)), r⟩
      refine ⟨n + 1 - (i + 1), by omega, h8, _, i + 1, vs ++ [y], _, _, _, rfl, hlt, rfl, by rw [List.length_append, List.length_singleton, hvl], fun v hv => ?_, k8 _ _ (by omega) z7, k8 _ _ (by omega) T7, k8 _ _ (by omega) O7, ?_, ?_, F7.change hs8 nDL fD, fun p hp => ⟨k8 _ _ (offs p hp).2 (N7 p hp).1, (N7 p hp).2⟩, hD8.trans (congrArg some (lst_snoc vs y)), hn7.at' fun o e => k8 _ o (Ne.symm nDC) e⟩
      · rcases List.mem_append.mp hv with hv | hv
        · exact hg v hv
        · rw [List.mem_singleton.mp hv]; exact hy
      · obtain ⟨o, e, r⟩ := I17; exact ⟨o, k8 _ _ (by omega) e, r⟩
      · obtain ⟨o, e, r⟩ := I27; exact ⟨o, k8 _ _ (by omega) e, r⟩
    · obtain rfl : i = n := Nat.le_antisymm hi (Nat.not_lt.mp hlt)
      have e1 : xs[i]? = none := by simp [s1]
      refine wpAny_pyNext_zip_end hh ap hz' hTI' hTO' hi1' hi2' hl1 hl2 (.inl e1) fun h2 k2 => ?_
      have kp : ∀ b o, @Ne Nat b z → @Ne Nat b TO → @Ne Nat b i1 → @Ne Nat b i2 → h'.get? b = some o → h2.get? b = some o := fun b o q1 q2 q3 q4 e => k2 b o q1 q2 q3 q4 e
      have F9 : Fr h₀ L h2 m := ⟨F'.ns.at' fun o e => kp L o offz.2.1 offTO.2.1 offi1.2.1 offi2.2.1 e, fun b o e => kp b o (fun q => by have q' : b = z := q; rw [q', offz.2.2] at e; cases e) (fun q => by have q' : b = TO := q; rw [q', offTO.2.2] at e; cases e) (fun q => by have q' : b = i1 := q; rw [q', offi1.2.2] at e; cases e) (fun q => by have q' : b = i2 := q; rw [q', offi2.2.2] at e; cases e) (F'.keep b o e), F'.above⟩
      have C9 : h2.Ns C m' := hC'.at' fun o e => kp C o (by omega) (by omega) (by omega) (by omega) e
      have D9 : h2.get? D = some (lst vs) := kp D _ (by omega) (by omega) (by omega) (by omega) hD'
      refine ⟨m', C9, fun h'' hs'' => fin vs D h'' _ hg hvl (F9.change hs'' nCL fC) (fun p hp => ?_) (ListComp_C.off1_of fun p hp => (offs p hp).2)⟩
      rcases List.mem_cons.mp hp with rfl | hp
      · exact ⟨hs''.extBut _ _ nDC D9, nDL, fD⟩
      · exact ⟨hs''.extBut _ _ (offs p hp).1 (kp _ _ (offz.1 p hp) (offTO.1 p hp) (offi1.1 p hp) (offi2.1 p hp) (N' p hp).1), (N' p hp).2⟩
  exact codeAny_compStart_list loop (wpAny_pyIter_zip (old _ _ hz) loop)
end
end Mine
end
section
set_option maxRecDepth 100000
namespace Mine
open PySem PySem.W PySem.Spec PySem.Calls PyProof.Rows PyProof.V

/-- the law's own text, as the head tells it -/
abbrev recOf {q : Program} {loose : List Str} {XP : (Str → Option Value) → Heap → Prop} {YP : World → Heap → Prop} {r : RowW} {d : DefRec} {kwd : List (Str × Expr)} {P : Prop} (_ : WalkT q loose XP YP r d kwd → P) : DefRec := d

/-- entering the law from outside -/
theorem n_enterC {prog : Program} {w : World} {s : Shared} {R : Result → Shared → Prop} {f : Addr} {o : Obj} {d : DefRec} {pm cd doc dV kV : Value} {args : Args} {binds : List (Str × Value)}
    (ho : s.heap.get? f = some o) (hd : o.data = .func { docDef d.name d.params d.body d.scope pm cd doc with defaults := dV, kwdefaults := kV }) (hcd : s.heap.CodeRec cd d.name) (hnl : s.heap.NoLimit)
    (hbind : BindsTo s { docDef d.name d.params d.body d.scope pm cd doc with defaults := dV, kwdefaults := kV } args binds) (hkind : (binds.all fun y => d.scope.names.lookup y.1 == some .local || d.scope.names.lookup y.1 == some .cell) = true)
    (hnd : ((cellsFrom 0 d.scope.names []).map (·.1)).Nodup)
    (hco : d.scope.isCoroutine = false) (hgen : d.scope.isGenerator = false) (hk : d.scope.kind = .function)
    (h : ∀ h₁ tk cells, Fr s.heap s.heap.objs.size h₁ (bindL (envOfC d.name d.scope s.heap.objs.size f cd).kindOf binds fun _ => none) → News s.heap s.heap.objs.size h₁ cells →
      CellsAre (bindC (envOfC d.name d.scope s.heap.objs.size f cd).kindOf binds fun _ => none) (cellsFrom (s.heap.objs.size + 1) d.scope.names []) cells →
      wpN (model prog w) (callerA.deeper (envOfC d.name d.scope s.heap.objs.size f cd)) (execs d.body (envOfC d.name d.scope s.heap.objs.size f cd))
        (fun fl s' => R (.ok (.ret (match fl with | .ret v => v | _ => .none))) s')
        (fun e s' => wpAny (model prog w) (callerA.deeper (envOfC d.name d.scope s.heap.objs.size f cd)) (leaving (envOfC d.name d.scope s.heap.objs.size f cd) e) (fun _ s'' => R (.error e) s'') (fun e' s'' => R (.error e') s'') s')
        { s with heap := h₁, toks := tk }) : codeN (model prog w) callerA (.call (.ref f) args) R s := by
  refine n_function (fd := { docDef d.name d.params d.body d.scope pm cd doc with defaults := dV, kwdefaults := kV }) (body := d.body) (by decide) ho hd hco hgen rfl hcd (hbind _ _ _ _ ?_)
  refine wpAny_newFunctionEnv_cells hk (kindsX hkind _) fun env' he s' x => ?_
  subst he
  refine ⟨hnl.keeps x.toInCall.keep, n_func ?_⟩
  obtain ⟨h₁, tk, rfl, _⟩ := x.done
  have hk₁ := x.toInCall.keep
  obtain ⟨cells, NC, Y⟩ := Cl.news (h₀ := s.heap) (Nat.le_refl _) fun n c hm => ⟨x.cell n c (lookup_of_mem_nodup (cellsFrom_names d.scope.names 0 (s.heap.objs.size + 1) [] [] rfl ▸ hnd) hm), x.above n c hm⟩
  exact h h₁ tk cells ⟨x.toInCall.ns, hk₁, Nat.le_refl _⟩ NC Y
end Mine
end
section
set_option maxRecDepth 100000
namespace Mine
open PySem PySem.W PySem.Spec PySem.Calls PyProof.Rows PyProof.V
abbrev lawEnv (L fa : Addr) (cd : Value) : Env := envOfC (recOf Mine.LawTop.hd).name (recOf Mine.LawTop.hd).scope L fa cd
abbrev lawA (L fa : Addr) (cd : Value) : Around := callerA.deeper (lawEnv L fa cd)
/-- the body of the law's last loop -/
abbrev forBody (l : List Stmt) : List Stmt := match l with
  | .For _ _ b _ _ :: _ => b
  | _ => []
end Mine
end
section
set_option maxRecDepth 100000
namespace Mine
open PySem PySem.W PySem.Spec PySem.Calls PyProof.Rows PyProof.V PyProof.Rows.LCg PyProof.Rows.LCt
def bit (r : Int) (c : Nat) : Int := (r.fdiv (2 ^ c)).fmod 2
def rowSum (r : Int) : Int := ((List.range 5).map fun c => bit r c).sum
theorem ints_snoc {ws : List Value} {ds : List Int} {n : Int} {t : Tok} (h : IntsAre ws ds) : IntsAre (ws ++ [.int n t]) (ds ++ [n]) := by
  induction h with
  | nil => exact .cons _ _ .nil
  | cons n t _ ih => exact .cons _ _ ih
theorem ints_get {ws : List Value} {ds : List Int} {i : Nat} {v : Value} (h : IntsAre ws ds) (hv : ws[i]? = some v) : ∃ t, v = .int (ds.getD i 0) t := by
  induction h generalizing i with
  | nil => simp at hv
  | cons n t _ ih =>
    cases i with
    | zero => simp at hv; exact ⟨t, by rw [← hv]; rfl⟩
    | succ i => exact ih (by simpa using hv)
theorem int_at {ws : List Value} {ds : List Int} {k i : Nat} {v : Value} (h : IntsAre ws (ds.take k)) (hk : i < k) (hv : ws.toArray[i]? = some v) : ∃ t, v = .int (ds.getD i 0) t := by
  obtain ⟨t, e⟩ := ints_get h (by simpa using hv)
  refine ⟨t, ?_⟩
  rw [e]
  simp [List.getD_eq_getElem?_getD, List.getElem?_take, hk]
theorem take_snoc_map {ds : List Int} {i : Nat} (f : Int → Int) (hi : i < ds.length) : (ds.take (i + 1)).map f = (ds.take i).map f ++ [f (ds.getD i 0)] := by
  rw [List.take_add_one, List.map_append]
  simp [hi]
section
variable {prog : Program} {w : World} {A : Around} {E : Value → Shared → Prop} {s : Shared} {h₀ : Heap} {L : Addr} {m : Str → Option Value} {env : Env} {ct elt : Expr} {x : Str} {scope : Scope} {cl : List (Str × Addr)} {S : List (Addr × Obj) → Prop} {P : Nat → Value → Prop} {Fin : List Value → List (Addr × Obj) → Prop} {news : List (Addr × Obj)}
/-- a comprehension with a test, by an invariant, its ledger staying -/
theorem comp_loopT {n : Nat} (J : Nat → List Value → Prop) (hS : S news) (h0 : J 0 [])
    (turn : ∀ i ys, i < n → J i ys → ∀ v I oI C oC D m₂ h tk (E' : Value → Shared → Prop), P i v → NsObj oC m₂ → m₂ x = some v → Fr h₀ L h m → News h₀ L h ((I, oI) :: (C, oC) :: (D, lst ys) :: news) → Off3 I C D news → ((@Ne Nat I C) ∧ (@Ne Nat I D) ∧ (@Ne Nat C D)) →
      wpAny (model prog w) A (isTrue ct (compEnvC scope cl C env) (eval ct (compEnvC scope cl C env))) (fun ok s' => (∃ tk', s' = { s with heap := h, toks := tk' }) ∧ if ok = true then wpAny (model prog w) A (eval elt (compEnvC scope cl C env)) (fun y s'' => (∃ tk', s'' = { s with heap := h, toks := tk' }) ∧ J (i + 1) (ys ++ [y])) E' s' else J (i + 1) ys) E' { s with heap := h, toks := tk })
    (fin : ∀ ys, J n ys → Fin ys news) : CompRestT prog w A h₀ L m env ct elt x scope cl s S P Fin n 0 [] news := by
  have key : ∀ k i ys, i + k = n → J i ys → CompRestT prog w A h₀ L m env ct elt x scope cl s S P Fin k i ys news := by
    intro k
    induction k with
    | zero =>
      intro i ys e hJ
      have : i = n := by omega
      subst this
      exact fin ys hJ
    | succ k ih =>
      intro i ys e hJ
      refine CompRestT.succ fun v I oI C oC D m₂ h tk E' a1 a2 a3 a4 a5 a6 a7 => ?_
      refine wpAny_mono (turn i ys (by omega) hJ v I oI C oC D m₂ h tk E' a1 a2 a3 a4 a5 a6 a7) (fun ok s' hy => ?_) fun _ _ z => z
      obtain ⟨⟨tk', rfl⟩, b⟩ := hy
      cases ok with
      | true =>
        simp only [if_true] at b ⊢
        refine wpAny_mono b (fun y s'' hy => ?_) fun _ _ z => z
        obtain ⟨⟨tk2, rfl⟩, j⟩ := hy
        exact ⟨h, tk2, news, rfl, a4, a5, a6, hS, ih (i + 1) _ (by omega) j⟩
      | false =>
        simp only [Bool.false_eq_true, if_false] at b ⊢
        exact ⟨h, tk', news, rfl, a4, a5, a6, hS, ih (i + 1) _ (by omega) b⟩
  exact key n 0 [] (by omega) h0
end
end Mine
end
section
namespace Mine
/-- what a row of nodes takes from k others -/
def cap (as : List Nat) (k : Nat) : Nat := (as.map fun a => min a k).sum
def GR (f : Nat → Nat) (b : List Nat) : Prop := ∀ s r : List Nat, (s ++ r).Perm b → s.sum ≤ f s.length

theorem cap_nil (k : Nat) : cap [] k = 0 := rfl
theorem cap_cons (a : Nat) (as : List Nat) (k : Nat) : cap (a :: as) k = min a k + cap as k := rfl
theorem cap_append (as bs : List Nat) (k : Nat) : cap (as ++ bs) k = cap as k + cap bs k := by simp [cap]
theorem cap_mono (as : List Nat) {j k : Nat} (h : j ≤ k) : cap as j ≤ cap as k := by
  induction as with
  | nil => exact Nat.le_refl _
  | cons a as ih => rw [cap_cons, cap_cons]; omega
theorem cap_concave (as : List Nat) (k : Nat) : cap as k + cap as (k + 2) ≤ 2 * cap as (k + 1) := by
  induction as with
  | nil => exact Nat.le_refl _
  | cons a as ih => rw [cap_cons, cap_cons, cap_cons]; omega
theorem cap_le (as : List Nat) (k : Nat) : cap as k ≤ as.sum := by
  induction as with
  | nil => exact Nat.le_refl _
  | cons a as ih => rw [cap_cons, List.sum_cons]; omega

/-- a list cut in two, its parts cut likewise -/
theorem split_perm : ∀ {D R s r : List Nat}, (s ++ r).Perm (D ++ R) → ∃ s1 s2 r1 r2, s.Perm (s1 ++ s2) ∧ (s1 ++ r1).Perm D ∧ (s2 ++ r2).Perm R
  | [], R, s, r, h => ⟨[], s, [], r, .refl _, .refl _, h⟩
  | y :: D, R, s, r, h => by
    have hy : y ∈ s ++ r := h.mem_iff.mpr (by simp)
    rcases List.mem_append.mp hy with hs | hr
    · have e : s.Perm (y :: s.erase y) := List.perm_cons_erase hs
      have h2 : (s.erase y ++ r).Perm (D ++ R) := by
        have : (y :: (s.erase y ++ r)).Perm (y :: (D ++ R)) := ((e.append_right r).symm).trans h
        exact this.cons_inv
      obtain ⟨s1, s2, r1, r2, a, b, c⟩ := split_perm h2
      exact ⟨y :: s1, s2, r1, r2, e.trans (a.cons y), b.cons y, c⟩
    · have e : r.Perm (y :: r.erase y) := List.perm_cons_erase hr
      have h2 : (s ++ r.erase y).Perm (D ++ R) := by
        have h3 : (s ++ y :: r.erase y).Perm (y :: (D ++ R)) := ((e.append_left s).symm).trans h
        exact (List.perm_middle.symm.trans h3).cons_inv
      obtain ⟨s1, s2, r1, r2, a, b, c⟩ := split_perm h2
      exact ⟨s1, s2, y :: r1, r2, a, (List.perm_middle).trans (b.cons y), c⟩

theorem sum_pred : ∀ {l : List Nat}, (∀ v ∈ l, 1 ≤ v) → (l.map (· - 1)).sum + l.length = l.sum
  | [], _ => rfl
  | a :: l, h => by
    have := sum_pred (l := l) fun v hv => h v (List.mem_cons_of_mem _ hv)
    have h1 := h a List.mem_cons_self
    simp only [List.map_cons, List.sum_cons, List.length_cons]
    omega

/-- one step of Havel and Hakimi: the d greatest lose one -/
theorem step_exchange {f : Nat → Nat} {D R : List Nat} (conc : ∀ k, f k + f (k + 2) ≤ 2 * f (k + 1)) (top : ∀ y ∈ D, ∀ x ∈ R, x ≤ y) (pos : ∀ y ∈ D, 1 ≤ y)
    (H : ∀ s1 r1 s2 r2 : List Nat, (s1 ++ r1).Perm D → (s2 ++ r2).Perm R → s1.sum + s2.sum ≤ f (s1.length + s2.length) + min D.length (s1.length + s2.length)) :
    ∀ (n : Nat) (s1 r1 s2 r2 : List Nat), r1.length + s2.length = n → (s1 ++ r1).Perm D → (s2 ++ r2).Perm R → s1.sum + s2.sum ≤ f (s1.length + s2.length) + s1.length := by
  intro n
  induction n using Nat.strongRecOn with
  | ind n ih =>
    intro s1 r1 s2 r2 hn h1 h2
    have hl := h1.length_eq
    rw [List.length_append] at hl
    have h0 := H s1 r1 s2 r2 h1 h2
    cases s2 with
    | nil =>
      simp only [List.length_nil, Nat.add_zero] at h0 ⊢
      omega
    | cons x s2' =>
      cases r1 with
      | nil =>
        simp only [List.length_nil, Nat.add_zero] at hl
        omega
      | cons y r1' =>
        have hx : x ∈ R := h2.mem_iff.mp (by simp)
        have hy : y ∈ D := h1.mem_iff.mp (by simp)
        have hxy := top y hy x hx
        simp only [List.length_cons] at hn
        have p1 : ((y :: s1) ++ r1').Perm D := (List.perm_middle (a := y) (l₁ := s1) (l₂ := r1')).symm.trans h1
        have p2 : (s2' ++ (x :: r2)).Perm R := (List.perm_middle (a := x) (l₁ := s2') (l₂ := r2)).trans h2
        by_cases q : x < y
        · have a := ih (r1'.length + s2'.length) (by omega) (y :: s1) r1' s2' (x :: r2) rfl p1 p2
          simp only [List.sum_cons, List.length_cons] at a ⊢
          rw [show s1.length + 1 + s2'.length = s1.length + (s2'.length + 1) by omega] at a
          omega
        · have e : x = y := by omega
          have a := ih (r1'.length + 1 + s2'.length) (by omega) s1 (y :: r1') s2' (x :: r2) (by simp) h1 p2
          have b := ih (r1'.length + (s2'.length + 1)) (by omega) (y :: s1) r1' (x :: s2') r2 (by simp) p1 h2
          simp only [List.sum_cons, List.length_cons] at a b ⊢
          have c := conc (s1.length + s2'.length)
          rw [show s1.length + 1 + (s2'.length + 1) = s1.length + s2'.length + 2 by omega] at b
          rw [show s1.length + (s2'.length + 1) = s1.length + s2'.length + 1 by omega]
          omega
end Mine
end
section
namespace Mine
theorem perm_map_inv {α β : Type} (f : α → β) {l m : List β} (h : l.Perm m) : ∀ D : List α, D.map f = m → ∃ D' : List α, D'.Perm D ∧ D'.map f = l := by
  induction h with
  | nil => intro D hD; exact ⟨D, .refl _, hD⟩
  | cons a h ih =>
    intro D hD
    cases D with
    | nil => cases hD
    | cons d D =>
      simp only [List.map_cons, List.cons.injEq] at hD
      obtain ⟨D', p, e⟩ := ih D hD.2
      exact ⟨d :: D', p.cons d, by simp [hD.1, e]⟩
  | swap a b l =>
    intro D hD
    match D, hD with
    | [], hD => cases hD
    | [_], hD => simp at hD
    | d1 :: d2 :: D, hD =>
      simp only [List.map_cons, List.cons.injEq] at hD
      exact ⟨d2 :: d1 :: D, List.Perm.swap d1 d2 D, by simp [hD.1, hD.2.1, hD.2.2]⟩
  | trans h1 h2 ih1 ih2 =>
    intro D hD
    obtain ⟨D1, p1, e1⟩ := ih2 D hD
    obtain ⟨D2, p2, e2⟩ := ih1 D1 e1
    exact ⟨D2, p2.trans p1, e2⟩
theorem split_map {α β : Type} (f : α → β) {s r : List β} {D : List α} (h : (s ++ r).Perm (D.map f)) : ∃ s' r' : List α, (s' ++ r').Perm D ∧ s'.map f = s ∧ r'.map f = r := by
  obtain ⟨D', p, e⟩ := perm_map_inv f h D rfl
  obtain ⟨s', r', e1, e2, e3⟩ := List.map_eq_append_iff.mp e
  exact ⟨s', r', e1 ▸ p, e2, e3⟩

theorem GR_step {as D R : List Nat} (top : ∀ y ∈ D, ∀ x ∈ R, x ≤ y) (pos : ∀ y ∈ D, 1 ≤ y) :
    GR (cap (as ++ [D.length])) (D ++ R) ↔ GR (cap as) (D.map (· - 1) ++ R) := by
  constructor
  · intro h s r hp
    obtain ⟨s1', s2, r1', r2, a, b, c⟩ := split_perm hp
    obtain ⟨s1, r1, b1, e1, e2⟩ := split_map (· - 1) b
    have H : ∀ s1 r1 s2 r2 : List Nat, (s1 ++ r1).Perm D → (s2 ++ r2).Perm R → s1.sum + s2.sum ≤ cap as (s1.length + s2.length) + min D.length (s1.length + s2.length) := by
      intro s1 r1 s2 r2 h1 h2
      have z := h (s1 ++ s2) (r1 ++ r2) (by
        refine List.Perm.trans ?_ (h1.append h2)
        have e : (s1 ++ s2 ++ (r1 ++ r2)).Perm (s1 ++ (r1 ++ (s2 ++ r2))) := by
          rw [List.append_assoc]
          refine List.Perm.append_left s1 ?_
          rw [← List.append_assoc, ← List.append_assoc]
          exact List.Perm.append_right r2 List.perm_append_comm
        exact e.trans (by rw [List.append_assoc]))
      rw [List.sum_append, List.length_append, cap_append] at z
      simpa [cap] using z
    have x := step_exchange (cap_concave as) top pos H _ s1 r1 s2 r2 rfl b1 c
    have p1 := sum_pred (l := s1) fun v hv => pos v (b1.mem_iff.mp (by simp [hv]))
    rw [e1] at p1
    have el : s1.length = s1'.length := by rw [← e1, List.length_map]
    rw [a.sum_nat, a.length_eq, List.sum_append, List.length_append]
    rw [el] at x p1
    omega
  · intro h s r hp
    obtain ⟨s1, s2, r1, r2, a, b, c⟩ := split_perm hp
    have z := h (s1.map (· - 1) ++ s2) (r1.map (· - 1) ++ r2) (by
      refine List.Perm.trans ?_ ((b.map (· - 1)).append c)
      rw [List.map_append]
      have e : (s1.map (· - 1) ++ s2 ++ (r1.map (· - 1) ++ r2)).Perm (s1.map (· - 1) ++ (r1.map (· - 1) ++ (s2 ++ r2))) := by
        rw [List.append_assoc]
        refine List.Perm.append_left _ ?_
        rw [← List.append_assoc, ← List.append_assoc]
        exact List.Perm.append_right r2 List.perm_append_comm
      exact e.trans (by rw [List.append_assoc]))
    have p1 := sum_pred (l := s1) fun v hv => pos v (b.mem_iff.mp (by simp [hv]))
    have hl := b.length_eq
    rw [List.length_append] at hl
    rw [List.sum_append, List.length_append, List.length_map] at z
    rw [a.sum_nat, a.length_eq, List.sum_append, List.length_append, cap_append]
    simp only [cap, List.map_cons, List.map_nil, List.sum_cons, List.sum_nil] at z ⊢
    omega

theorem filter_sum (l : List Nat) : (l.filter fun v => decide (v ≠ 0)).sum = l.sum := by
  induction l with
  | nil => rfl
  | cons a l ih =>
    rw [List.filter_cons]
    by_cases h : a = 0
    · subst h; simpa using ih
    · have : decide (a ≠ 0) = true := by simp [h]
      rw [if_pos this, List.sum_cons, List.sum_cons, ih]
theorem GR_filter {f : Nat → Nat} (mono : ∀ {j k}, j ≤ k → f j ≤ f k) (b : List Nat) : GR f (b.filter fun v => decide (v ≠ 0)) ↔ GR f b := by
  constructor
  · intro h s r hp
    have z := h (s.filter fun v => decide (v ≠ 0)) (r.filter fun v => decide (v ≠ 0)) (by rw [← List.filter_append]; exact hp.filter _)
    rw [filter_sum] at z
    exact Nat.le_trans z (mono (List.length_filter_le _ _))
  · intro h s r hp
    exact h s (r ++ b.filter fun v => !(decide (v ≠ 0))) (by
      rw [← List.append_assoc]
      exact (hp.append_right _).trans (List.filter_append_perm (fun v => decide (v ≠ 0)) b))
theorem GR_perm {f : Nat → Nat} {b b' : List Nat} (h : b.Perm b') : GR f b ↔ GR f b' :=
  ⟨fun g s r hp => g s r (hp.trans h.symm), fun g s r hp => g s r (hp.trans h)⟩
theorem GR_short {as b : List Nat} {d : Nat} (hs : b.sum = as.sum + d) (h : b.length < d) : ¬ GR (cap (as ++ [d])) b := by
  intro g
  have z := g b [] (by simp)
  rw [cap_append] at z
  have := cap_le as b.length
  simp only [cap, List.map_cons, List.map_nil, List.sum_cons, List.sum_nil] at z this
  omega
theorem GR_nil (f : Nat → Nat) : GR f [] := by
  intro s r h
  have := h.length_eq
  simp only [List.length_append, List.length_nil] at this
  have : s = [] := List.length_eq_zero_iff.mp (by omega)
  subst this
  simp
end Mine
end
section
namespace Mine
theorem take_one_more {y : Nat} : ∀ {l : List Nat} (k : Nat), (∀ x ∈ l, x ≤ y) → (l.take (k + 1)).sum ≤ y + (l.take k).sum
  | [], k, _ => by simp
  | a :: l, 0, h => by simp; exact h a List.mem_cons_self
  | a :: l, k + 1, h => by
    have := take_one_more (l := l) k fun x hx => h x (List.mem_cons_of_mem _ hx)
    simp only [List.take_succ_cons, List.sum_cons]
    omega
theorem top_sum : ∀ {F : List Nat}, F.Pairwise (fun a b => b ≤ a) → ∀ {s r : List Nat}, (s ++ r).Perm F → s.sum ≤ (F.take s.length).sum
  | [], _, s, r, h => by
    have := h.length_eq
    simp only [List.length_append, List.length_nil] at this
    have : s = [] := List.length_eq_zero_iff.mp (by omega)
    subst this
    simp
  | y :: F, hF, s, r, h => by
    have hy : y ∈ s ++ r := h.mem_iff.mpr (by simp)
    have hle := (List.pairwise_cons.mp hF).1
    have hF' := (List.pairwise_cons.mp hF).2
    rcases List.mem_append.mp hy with hs | hr
    · have e : s.Perm (y :: s.erase y) := List.perm_cons_erase hs
      have h2 : (s.erase y ++ r).Perm F := ((((e.append_right r).symm).trans h)).cons_inv
      have z := top_sum hF' h2
      rw [e.sum_nat, e.length_eq, List.length_cons, List.take_succ_cons, List.sum_cons, List.sum_cons]
      omega
    · have e : r.Perm (y :: r.erase y) := List.perm_cons_erase hr
      have h2 : (s ++ r.erase y).Perm F := by
        have h3 : (s ++ y :: r.erase y).Perm (y :: F) := ((e.append_left s).symm).trans h
        exact (List.perm_middle.symm.trans h3).cons_inv
      have z := top_sum hF' h2
      cases hk : s.length with
      | zero =>
        have : s = [] := List.length_eq_zero_iff.mp hk
        subst this
        simp
      | succ k =>
        rw [hk] at z
        rw [List.take_succ_cons, List.sum_cons]
        exact Nat.le_trans z (take_one_more k hle)
theorem GR_falling {f : Nat → Nat} {F b : List Nat} (hF : F.Pairwise fun a b => b ≤ a) (hp : F.Perm b) : GR f b ↔ ∀ k, 1 ≤ k → k ≤ F.length → (F.take k).sum ≤ f k := by
  constructor
  · intro g k h1 h2
    have z := g (F.take k) (F.drop k) (by rw [List.take_append_drop]; exact hp)
    rwa [List.length_take, Nat.min_eq_left h2] at z
  · intro h s r hsr
    have h2 := hsr.trans hp.symm
    have hl := h2.length_eq
    rw [List.length_append] at hl
    have z := top_sum hF h2
    cases hk : s.length with
    | zero =>
      have : s = [] := List.length_eq_zero_iff.mp hk
      subst this
      simp
    | succ k =>
      rw [hk] at z
      exact Nat.le_trans z (h (k + 1) (by omega) (by omega))
end Mine
end
section
namespace Mine
theorem ins_ins (l : List Nat) (u : Nat) : ins (ins l u) u = ins l u := by
  have : u ∈ ins l u := mem_ins.mpr (.inr rfl)
  conv => lhs; unfold ins
  rw [if_pos]
  · rfl
  · exact this
theorem fold_e (u : Nat) (D : List Nat) : ∀ (s : St) (v : Nat), (D.foldl (St.step u) s).e v = s.e v - (D.count v : Nat) := by
  induction D with
  | nil => intro s v; simp
  | cons x D ih =>
    intro s v
    rw [List.foldl_cons, ih]
    show (if v = x then s.e x - 1 else s.e v) - _ = _
    rw [List.count_cons]
    by_cases q : v = x
    · subst q; simp; omega
    · have : (x == v) = false := by simp; exact fun e => q e.symm
      simp [q, this]
theorem fold_N (u : Nat) (D : List Nat) : u ∉ D → ∀ (s : St) (k : Nat), k ≠ u → (D.foldl (St.step u) s).N k = if k ∈ D then ins (s.N k) u else s.N k := by
  induction D with
  | nil => intro _ s k hk; simp
  | cons x D ih =>
    intro hu s k hk
    have hx : x ≠ u := fun e => hu (by simp [e])
    rw [List.foldl_cons, ih (fun h => hu (List.mem_cons_of_mem _ h)) _ k hk]
    have e1 : (s.step u x).N k = if k = x then ins (s.N x) u else s.N k := by
      show stepN s.N u x k = _
      unfold stepN
      rw [if_neg hk]
    rw [e1]
    by_cases q : k = x
    · subst q
      simp only [if_true, List.mem_cons, true_or]
      split
      · exact ins_ins _ _
      · rfl
    · simp only [q, if_false, List.mem_cons, false_or]
theorem fold_Nu (u : Nat) (D : List Nat) : ∀ (s : St), (D.foldl (St.step u) s).N u = D.foldl ins (s.N u) := by
  induction D with
  | nil => intro s; rfl
  | cons x D ih =>
    intro s
    rw [List.foldl_cons, List.foldl_cons, ih]
    congr 1
    show stepN s.N u x u = _
    unfold stepN
    rw [if_pos rfl]
theorem ins_len_le (D : List Nat) : ∀ l : List Nat, (D.foldl ins l).length ≤ l.length + D.length := by
  induction D with
  | nil => intro l; simp
  | cons x D ih =>
    intro l
    rw [List.foldl_cons]
    have a := ih (ins l x)
    have b := (ins_len (l := l) (v := x)).1
    simp only [List.length_cons]
    omega
theorem ins_mem (D : List Nat) : ∀ (l : List Nat) (k : Nat), k ∈ D.foldl ins l ↔ k ∈ l ∨ k ∈ D := by
  induction D with
  | nil => intro l k; simp
  | cons x D ih =>
    intro l k
    rw [List.foldl_cons, ih, mem_ins, List.mem_cons]
    constructor
    · rintro ((h | h) | h)
      · exact .inl h
      · exact .inr (.inl h)
      · exact .inr (.inr h)
    · rintro (h | h | h)
      · exact .inl (.inl h)
      · exact .inl (.inr h)
      · exact .inr h
theorem ins_fresh (D : List Nat) : ∀ l : List Nat, D.Nodup → (∀ v ∈ D, v ∉ l) → D.foldl ins l = l ++ D := by
  induction D with
  | nil => intro l _ _; simp
  | cons x D ih =>
    intro l hD hl
    rw [List.foldl_cons]
    have e : ins l x = l ++ [x] := by unfold ins; rw [if_neg (hl x List.mem_cons_self)]
    have hn := List.nodup_cons.mp hD
    rw [e, ih _ hn.2 (fun v hv h => by
      rcases List.mem_append.mp h with h | h
      · exact hl v (List.mem_cons_of_mem _ hv) h
      · exact hn.1 (List.mem_singleton.mp h ▸ hv))]
    simp

/-- what all three makers keep -/
structure PC (n na : Nat) (asked : Nat → Int) (as : List Nat) (st : St) : Prop where
  asn : as.Nodup
  asl : ∀ u ∈ as, u < na ∧ st.N u = [] ∧ st.e u = asked u
  asp : ∀ u, u < na → 0 ≤ asked u
  cross : ∀ v, v < n → ∀ k ∈ st.N v, (v < na ↔ na ≤ k)
  bndU : ∀ v, na ≤ v → v < n → ((st.N v).length : Int) + max (st.e v) 0 ≤ asked v
  bndL : ∀ v, v < na → ((st.N v).length : Int) ≤ asked v
  noin : ∀ u ∈ as, ∀ v, na ≤ v → v < n → u ∉ st.N v
theorem PC.step {n na u : Nat} {asked : Nat → Int} {as as2 D : List Nat} {st : St} {bs' : List Nat} (pc : PC n na asked as2 st) (hp : (as ++ [u]).Perm as2) (hn : na ≤ n) (hD : ∀ v ∈ D, na ≤ v ∧ v < n ∧ 1 ≤ st.e v) (hl : (D.length : Int) ≤ st.e u) :
    PC n na asked as (D.foldl (St.step u) { st with bs := bs' }) := by
  have hu2 : u ∈ as2 := hp.mem_iff.mp (by simp)
  have sub : ∀ k ∈ as, k ∈ as2 := fun k hk => hp.mem_iff.mp (by simp [hk])
  have hnd := (hp.nodup_iff).mpr pc.asn
  have hu := (pc.asl u hu2).1
  have hNu := (pc.asl u hu2).2.1
  have heu := (pc.asl u hu2).2.2
  have huD : u ∉ D := fun h => by have := (hD u h).1; omega
  have huas : u ∉ as := fun h => by
    rw [List.nodup_append] at hnd
    exact hnd.2.2 u h u (by simp) rfl
  constructor
  · exact (List.nodup_append.mp hnd).1
  · intro k hk
    have a := pc.asl k (sub k hk)
    have hku : k ≠ u := fun e => huas (e ▸ hk)
    have hkD : k ∉ D := fun h => by have := (hD k h).1; omega
    refine ⟨a.1, ?_, ?_⟩
    · rw [fold_N u D huD _ k hku, if_neg hkD]; exact a.2.1
    · rw [fold_e, List.count_eq_zero_of_not_mem hkD]
      show st.e k - _ = _
      rw [a.2.2]; simp
  · exact pc.asp
  · intro v hv k hk
    by_cases q : v = u
    · subst q
      rw [fold_Nu] at hk
      rcases (ins_mem D _ k).mp hk with h | h
      · have h : k ∈ st.N v := h
        rw [hNu] at h; exact nomatch h
      · have := hD k h
        constructor
        · intro _; exact this.1
        · intro _; exact hu
    · rw [fold_N u D huD _ v q] at hk
      split at hk
      · rename_i hvD
        rcases mem_ins.mp hk with h | h
        · exact pc.cross v hv k h
        · have := hD v hvD
          subst h
          constructor
          · intro h; omega
          · intro h; omega
      · exact pc.cross v hv k hk
  · intro v h1 h2
    have hvu : v ≠ u := by omega
    have b := pc.bndU v h1 h2
    rw [fold_N u D huD _ v hvu, fold_e]
    by_cases q : v ∈ D
    · rw [if_pos q]
      have c : 1 ≤ D.count v := List.count_pos_iff.mpr q
      have h3 := (hD v q).2.2
      have l := (ins_len (l := st.N v) (v := u)).1
      show ((ins (st.N v) u).length : Int) + max (st.e v - (D.count v : Nat)) 0 ≤ asked v
      omega
    · rw [if_neg q, List.count_eq_zero_of_not_mem q]
      show ((st.N v).length : Int) + max (st.e v - ((0 : Nat) : Int)) 0 ≤ asked v
      simpa using b
  · intro v hv
    by_cases q : v = u
    · subst q
      rw [fold_Nu]
      have l := ins_len_le D (st.N v)
      rw [hNu] at l
      show (((D.foldl ins (st.N v)).length : Nat) : Int) ≤ asked v
      rw [hNu, ← heu]
      simp only [List.length_nil] at l
      omega
    · have hvD : v ∉ D := fun h => by have := (hD v h).1; omega
      rw [fold_N u D huD _ v q, if_neg hvD]
      exact pc.bndL v hv
  · intro k hk v h1 h2
    have hvu : v ≠ u := by omega
    have a := pc.noin k (sub k hk) v h1 h2
    rw [fold_N u D huD _ v hvu]
    split
    · intro h
      rcases mem_ins.mp h with h | h
      · exact a h
      · exact huas (h ▸ hk)
    · exact a
end Mine
end
section
set_option maxRecDepth 100000
namespace Mine
open PySem PySem.W PySem.Calls PyProof.Rows PySem.Spec PyProof.V PyProof.Rows.LCg
def altZ (l s : List Nat) : Nat → List Nat
  | 0 => []
  | i + 1 => altZ l s i ++ [l.getD i 0, s.getD i 0]
theorem altZ_len (l s : List Nat) : ∀ i, (altZ l s i).length = 2 * i
  | 0 => rfl
  | i + 1 => by simp [altZ, altZ_len l s i]; omega
def altD (l s : List Nat) : List Nat := if (altZ l s (min l.length s.length)).length < s.length + l.length then altZ l s (min l.length s.length) ++ [l.getLastD 0] else altZ l s (min l.length s.length)
theorem altZ_mem {l s : List Nat} : ∀ {i : Nat}, i ≤ l.length → i ≤ s.length → ∀ v ∈ altZ l s i, v ∈ l ∨ v ∈ s
  | 0, _, _, v, hv => nomatch hv
  | i + 1, h1, h2, v, hv => by
    unfold altZ at hv
    rcases List.mem_append.mp hv with hv | hv
    · exact altZ_mem (by omega) (by omega) v hv
    · simp only [List.mem_cons, List.not_mem_nil, or_false] at hv
      rcases hv with e | e
      · left; rw [e, List.getD_eq_getElem?_getD, List.getElem?_eq_getElem (by omega)]; exact List.getElem_mem _
      · right; rw [e, List.getD_eq_getElem?_getD, List.getElem?_eq_getElem (by omega)]; exact List.getElem_mem _
theorem flat_alt (P : Nat → Nat) (l s : List Nat) : ∀ i, i ≤ l.length → i ≤ s.length → flatZ (refsOf P l) (refsOf P s) i = (altZ l s i).map fun v => Value.ref (P v)
  | 0, _, _ => rfl
  | i + 1, h1, h2 => by
    have a : (refsOf P l).getD i .none = .ref (P (l.getD i 0)) := by
      have : i < l.length := by omega
      simp [Array.getD, this]
    have b : (refsOf P s).getD i .none = .ref (P (s.getD i 0)) := by
      have : i < s.length := by omega
      simp [Array.getD, this]
    rw [flatZ, altZ, flat_alt P l s i (by omega) (by omega), a, b, List.map_append]; rfl
theorem lst_alt (P : Nat → Nat) (l s : List Nat) : lst (flatZ (refsOf P l) (refsOf P s) (min (refsOf P l).size (refsOf P s).size)) = listOf (refsOf P (altZ l s (min l.length s.length))) (2 * min l.length s.length) := by
  have e : min (refsOf P l).size (refsOf P s).size = min l.length s.length := by simp
  rw [e, flat_alt P l s _ (Nat.min_le_left _ _) (Nat.min_le_right _ _)]
  show listOf _ _ = listOf _ _
  rw [List.length_map, altZ_len]
theorem tail_of3 {h₀ h : Heap} {L : Addr} {a b c : Addr × Obj} {T : List (Addr × Obj)} (N : News h₀ L h (a :: b :: c :: T)) : ∃ T', T' = T ∧ News h₀ L h (a :: b :: c :: T') := ⟨T, rfl, N⟩
theorem altD_last {l lg s : List Nat} {v : Nat} (hl : l = lg ++ [v]) (h : (altZ l s (min l.length s.length)).length < s.length + l.length) : altD l s = altZ l s (min l.length s.length) ++ [v] := by
  unfold altD
  rw [if_pos h, hl]
  simp
theorem altD_even {l s : List Nat} (h : ¬ (altZ l s (min l.length s.length)).length < s.length + l.length) : altD l s = altZ l s (min l.length s.length) := by
  unfold altD
  rw [if_neg h]
theorem mem_altD {l s : List Nat} (hsl : s.length ≤ l.length) : ∀ v ∈ altD l s, v ∈ l ∨ v ∈ s := by
  intro v hv
  have key : ∀ v ∈ altZ l s (min l.length s.length), v ∈ l ∨ v ∈ s := altZ_mem (Nat.min_le_left _ _) (Nat.min_le_right _ _)
  unfold altD at hv
  split at hv
  · rcases List.mem_append.mp hv with h | h
    · exact key v h
    · rename_i hlt
      rw [altZ_len] at hlt
      rw [List.mem_singleton] at h
      rcases nil_or_last l with e | ⟨lg, u, e⟩
      · subst e
        simp only [List.length_nil] at hsl hlt
        exfalso
        omega
      · left; rw [h, e]; simp
  · exact key v hv
def IfMid (h₀ : Heap) (L : Addr) (s : Shared) (mm : Str → Option Value) (P : Nat → Nat) (D D2 D1 : Nat) (DD sm : List Nat) (T9 : List (Addr × Obj)) (f : Flow) (s' : Shared) : Prop :=
  f = .next ∧ ∃ h tk c c2 lg, s' = { s with heap := h, toks := tk } ∧ Fr h₀ L h mm ∧ News h₀ L h ((D, listOf (refsOf P DD) c) :: (D2, listOf (refsOf P lg) c2) :: (D1, listOf (refsOf P sm) 0) :: T9)
theorem IfMid.intro {h₀ h : Heap} {L : Addr} {s : Shared} {mm : Str → Option Value} {P : Nat → Nat} {D D2 D1 tk c c2 : Nat} {DD DD' sm lg : List Nat} {T9 : List (Addr × Obj)} (hd : DD = DD') (F : Fr h₀ L h mm)
    (N : News h₀ L h ((D, listOf (refsOf P DD') c) :: (D2, listOf (refsOf P lg) c2) :: (D1, listOf (refsOf P sm) 0) :: T9)) : IfMid h₀ L s mm P D D2 D1 DD sm T9 .next { s with heap := h, toks := tk } :=
  ⟨rfl, h, tk, c, c2, lg, rfl, F, hd ▸ N⟩
section
variable {prog : Program} {w : World} {A : Around} {E : Value → Shared → Prop} {s : Shared} {h₀ : Heap} {L : Addr} {m : Str → Option Value} {news : List (Addr × Obj)}
theorem len_stub {D : Addr} {P : Nat → Nat} {l : List Nat} {c : Nat} {Q : Value → Shared → Prop} (N : News h₀ L s.heap news) (hm : (D, listOf (refsOf P l) c) ∈ news) (hl : l.length ≤ 60)
    (h : Q (.int (l.length : Nat) (s.toks + 1)) { s with toks := s.toks + 1 + 1 }) : wpAny (model prog w) A (call (.builtin "len") [.ref D]) Q E s := by
  have e : (refsOf P l).size = l.length := by simp
  refine Calls.call_len_list (News.isList N hm) (by rw [e]; omega) ?_
  rw [e]
  exact h
theorem append_stub {D : Addr} {P : Nat → Nat} {l : List Nat} {n v : Nat} {g : Obj → List (Addr × Obj)} {Q : Value → Shared → Prop} (F : Fr h₀ L s.heap m) (N : News h₀ L s.heap news) (U : UpdF D (listOf (refsOf P l) n) news g) (hl : l.length ≤ 60)
    (h : ∀ h' c, Fr h₀ L h' m → News h₀ L h' (g (listOf (refsOf P (l ++ [v])) c)) → Q .none { s with heap := h' }) :
    wpAny (model prog w) A (call (.builtin "list.append") [.ref D, .ref (P v)]) Q E s := by
  obtain ⟨pre, post, e0, hg, x1, x2⟩ := U.split
  rw [e0] at N
  have z := N (D, listOf (refsOf P l) n) (List.mem_append_right _ (.head _))
  refine append_at z.1 (fun h' hs hD => ?_) (by simp; rw [sizeLine_eq]; omega)
  refine h h' (n + 1) (kas_fr F hs z.2.1 z.2.2) ?_
  rw [hg]
  refine news_set N x1 x2 hs ?_
  rw [hD]
  congr 2
  simp
end
end Mine
end
section
namespace Mine
def PEnd (n na : Nat) (asked : Nat → Int) (st : St) : Prop :=
  (∀ v, v < n → ∀ k ∈ st.N v, (v < na ↔ na ≤ k)) ∧ ∀ v, v < n → ((st.N v).length : Int) ≤ asked v
theorem PC.fin {n na : Nat} {asked : Nat → Int} {as : List Nat} {st : St} (pc : PC n na asked as st) : PEnd n na asked st :=
  ⟨pc.cross, fun v hv => by
    by_cases q : v < na
    · exact pc.bndL v q
    · have := pc.bndU v (by omega) hv
      omega⟩
theorem PC.start {n na : Nat} {asked : Nat → Int} {as bs : List Nat} (hp : as.Perm (List.range na)) (h0 : ∀ v, v < n → 0 ≤ asked v) (hn : na ≤ n) : PC n na asked as ⟨bs, asked, fun _ => []⟩ := by
  have hm : ∀ k, k ∈ as ↔ k < na := fun k => by rw [hp.mem_iff, List.mem_range]
  refine ⟨(hp.nodup_iff).mpr List.nodup_range, fun u hu => ⟨(hm u).mp hu, rfl, rfl⟩, fun u hu => h0 u (by omega), fun v hv k hk => (nomatch hk), fun v h1 h2 => ?_, fun v hv => ?_, fun u hu v h1 h2 h => (nomatch h)⟩
  · have := h0 v h2
    show (([] : List Nat).length : Int) + max (asked v) 0 ≤ asked v
    simp only [List.length_nil]
    omega
  · have := h0 v (by omega)
    simpa using this
/-- way 1: the least stubs first -/
theorem way1 {n na u : Nat} {asked : Nat → Int} {as : List Nat} {st : St} (hn : na ≤ n) (pc : PC n na asked (as ++ [u]) st) (ok : st.Ok n na) (h : st.e u ≠ 0) (hu : u < na) : PC n na asked as ((st.bs.take (st.e u).toNat).foldl (St.step u) st) := by
  have ha := pc.asl u (by simp)
  have hp := pc.asp u hu
  have key := pc.step (D := st.bs.take (st.e u).toNat) (bs' := st.bs) (.refl _) hn (fun v hv => by
    have hb := List.mem_of_mem_take hv
    have a := ok.bin v hb
    exact ⟨a.1, a.2, (ok.inb v a.1 a.2).mp hb⟩) (by rw [List.length_take]; have := ha.2.2; omega)
  exact key
theorem altD_len (l s : List Nat) : (altD l s).length ≤ l.length + s.length := by
  unfold altD
  split
  · rename_i h
    rw [List.length_append, List.length_singleton]
    omega
  · rw [altZ_len]; omega
/-- way 2: the least and the greatest by turns -/
theorem way2 {n na u : Nat} {asked : Nat → Int} {as as2 bs' : List Nat} {st : St} (hn : na ≤ n) (pc : PC n na asked as2 st) (hp : (as ++ [u]).Perm as2) (ok : st.Ok n na) (h : st.e u ≠ 0) (hu : u < na) (hb : bs'.Perm st.bs) :
    PC n na asked as ((altD (bs'.drop (bs'.length - ((st.e u).toNat - (st.e u).toNat / 2))) (bs'.take ((st.e u).toNat / 2))).foldl (St.step u) { st with bs := bs' }) := by
  have ha := pc.asl u (hp.mem_iff.mp (by simp))
  have hs := pc.asp u hu
  refine pc.step hp hn (fun v hv => ?_) ?_
  · have hv' : v ∈ bs' := by
      rcases mem_altD (by rw [List.length_take, List.length_drop]; omega) v hv with h | h
      · exact List.mem_of_mem_drop h
      · exact List.mem_of_mem_take h
    have hb' := hb.mem_iff.mp hv'
    have a := ok.bin v hb'
    exact ⟨a.1, a.2, (ok.inb v a.1 a.2).mp hb'⟩
  · have l := altD_len (bs'.drop (bs'.length - ((st.e u).toNat - (st.e u).toNat / 2))) (bs'.take ((st.e u).toNat / 2))
    rw [List.length_drop, List.length_take] at l
    have := ha.2.2
    omega
end Mine
end
section
namespace Mine
theorem count_one {l : List Nat} (h : l.Nodup) {v : Nat} (hv : v ∈ l) : l.count v = 1 := by
  induction l with
  | nil => exact nomatch hv
  | cons a l ih =>
    have hn := List.nodup_cons.mp h
    rw [List.count_cons]
    rcases List.mem_cons.mp hv with e | hv
    · subst e
      rw [List.count_eq_zero_of_not_mem hn.1]
      simp
    · have : a ≠ v := fun e => hn.1 (e ▸ hv)
      rw [ih hn.2 hv]
      simp [this]
theorem perm_nodup {l m : List Nat} (hl : l.Nodup) (hm : m.Nodup) (h : ∀ v, v ∈ l ↔ v ∈ m) : l.Perm m := by
  rw [List.perm_iff_count]
  intro v
  by_cases q : v ∈ l
  · rw [count_one hl q, count_one hm ((h v).mp q)]
  · rw [List.count_eq_zero_of_not_mem q, List.count_eq_zero_of_not_mem (fun z => q ((h v).mpr z))]
def valOf (e : Nat → Int) (v : Nat) : Nat := (e v).toNat
/-- all stubs met so far were laid whole -/
structure Ex (GR0 : Prop) (n na : Nat) (asked : Nat → Int) (as : List Nat) (st : St) : Prop where
  low : ∀ v, v < na → v ∉ as → ((st.N v).length : Int) = asked v
  up : ∀ v, na ≤ v → v < n → ((st.N v).length : Int) + st.e v = asked v ∧ 0 ≤ st.e v
  gr : GR0 ↔ GR (cap (as.map (valOf asked))) (st.bs.map (valOf st.e))
  sm : (as.map (valOf asked)).sum = (st.bs.map (valOf st.e)).sum
def Bad (GR0 : Prop) (n na : Nat) (asked : Nat → Int) (as : List Nat) (st : St) : Prop := ¬ GR0 ∧ ∃ v, v < na ∧ v ∉ as ∧ ((st.N v).length : Int) < asked v
def P0 (GR0 : Prop) (n na : Nat) (asked : Nat → Int) (as : List Nat) (st : St) : Prop := PC n na asked as st ∧ as.Pairwise (stubLt asked) ∧ (Ex GR0 n na asked as st ∨ Bad GR0 n na asked as st)
def PE0 (GR0 : Prop) (n na : Nat) (asked : Nat → Int) (st : St) : Prop := PEnd n na asked st ∧ ((∀ v, v < n → ((st.N v).length : Int) = asked v) ↔ GR0)

theorem P0.step {GR0 : Prop} {n na u : Nat} {asked : Nat → Int} {as bs' : List Nat} {st : St} (hn : na ≤ n) (p : P0 GR0 n na asked (as ++ [u]) st) (ok : st.Ok n na) (h : st.e u ≠ 0) (hu : u < na) (hb : bs'.Perm st.bs) (hsort : bs'.Pairwise (stubLt st.e)) :
    P0 GR0 n na asked as ((bs'.drop (bs'.length - (st.e u).toNat)).foldl (St.step u) { st with bs := bs' }) := by
  obtain ⟨pc, srt, ex⟩ := p
  have ha := pc.asl u (by simp)
  have hs := pc.asp u hu
  have hnd := pc.asn
  have huas : u ∉ as := fun hm => by
    rw [List.nodup_append] at hnd
    exact hnd.2.2 u hm u (by simp) rfl
  obtain ⟨D, hD⟩ : ∃ D, D = bs'.drop (bs'.length - (st.e u).toNat) := ⟨_, rfl⟩
  rw [← hD]
  have inb : ∀ v ∈ bs', na ≤ v ∧ v < n ∧ 1 ≤ st.e v := fun v hv => by
    have hb' := hb.mem_iff.mp hv
    have a := ok.bin v hb'
    exact ⟨a.1, a.2, (ok.inb v a.1 a.2).mp hb'⟩
  have inD : ∀ v ∈ D, na ≤ v ∧ v < n ∧ 1 ≤ st.e v := fun v hv => inb v (by rw [hD] at hv; exact List.mem_of_mem_drop hv)
  have nbs : bs'.Nodup := (hb.nodup_iff).mpr ok.bnd
  have nD : D.Nodup := by rw [hD]; exact nbs.sublist (List.drop_sublist _ _)
  have lD : D.length ≤ (st.e u).toNat := by rw [hD, List.length_drop]; omega
  have pc' := pc.step (D := D) (bs' := bs') (.refl _) hn inD (by have := ha.2.2; omega)
  have huD : u ∉ D := fun hm => by have := (inD u hm).1; omega
  have hNu : (D.foldl (St.step u) { st with bs := bs' }).N u = D := by
    rw [fold_Nu]
    show D.foldl ins (st.N u) = D
    rw [ha.2.1, ins_fresh D [] nD (fun _ _ hm => nomatch hm)]
    rfl
  have hNlow : ∀ v, v < na → v ≠ u → (D.foldl (St.step u) { st with bs := bs' }).N v = st.N v := fun v hv hne => by
    rw [fold_N u D huD _ v hne, if_neg (fun hm => by have := (inD v hm).1; omega)]
  refine ⟨pc', (List.pairwise_append.mp srt).1, ?_⟩
  rcases ex with ex | ⟨b1, v, b2, b3, b4⟩
  · by_cases hle : (st.e u).toNat ≤ bs'.length
    · left
      obtain ⟨R0, hR0⟩ : ∃ R0, R0 = bs'.take (bs'.length - (st.e u).toNat) := ⟨_, rfl⟩
      have hcut : R0 ++ D = bs' := by rw [hR0, hD, List.take_append_drop]
      have lDe : D.length = (st.e u).toNat := by rw [hD, List.length_drop]; omega
      obtain ⟨st', hst'⟩ : ∃ st', st' = D.foldl (St.step u) { st with bs := bs' } := ⟨_, rfl⟩
      rw [← hst'] at pc' hNu hNlow ⊢
      have okf : st'.Ok n na := by rw [hst']; exact St.Ok.fold (by omega) D _ (ok.perm hb) (fun v hv => ⟨(inD v hv).1, (inD v hv).2.1⟩)
      have e' : ∀ v, st'.e v = st.e v - (D.count v : Nat) := fun v => by rw [hst', fold_e]
      have cD : ∀ v, v ∈ D → D.count v = 1 := fun v hv => count_one nD hv
      have c0 : ∀ v, v ∉ D → D.count v = 0 := fun v hv => List.count_eq_zero_of_not_mem hv
      have nR : ∀ v ∈ R0, v ∉ D := fun v hv hm => by
        rw [← hcut, List.nodup_append] at nbs
        exact nbs.2.2 v hv v hm rfl
      have eD : ∀ v ∈ D, valOf st'.e v = valOf st.e v - 1 := fun v hv => by
        unfold valOf
        rw [e', cD v hv]
        omega
      have eR : ∀ v ∈ R0, valOf st'.e v = valOf st.e v := fun v hv => by
        unfold valOf
        rw [e', c0 v (nR v hv)]
        simp
      have hbs : st'.bs.Perm (bs'.filter fun v => decide (valOf st'.e v ≠ 0)) := by
        refine perm_nodup okf.bnd (nbs.sublist List.filter_sublist) fun v => ?_
        rw [List.mem_filter]
        constructor
        · intro hv
          have a := okf.bin v hv
          have b := (okf.inb v a.1 a.2).mp hv
          have c : 1 ≤ st.e v := by have := e' v; omega
          refine ⟨hb.mem_iff.mpr ((ok.inb v a.1 a.2).mpr c), decide_eq_true ?_⟩
          unfold valOf; omega
        · rintro ⟨hv, hz⟩
          have a := inb v hv
          have hz := of_decide_eq_true hz
          refine (okf.inb v a.1 a.2.1).mpr ?_
          unfold valOf at hz
          omega
      have hvals : (st'.bs.map (valOf st'.e)).Perm ((bs'.map (valOf st'.e)).filter fun v => decide (v ≠ 0)) := by
        rw [List.filter_map]
        exact hbs.map _
      have hall : (bs'.map (valOf st'.e)).Perm ((D.map (valOf st.e)).map (· - 1) ++ R0.map (valOf st.e)) := by
        rw [← hcut, List.map_append, List.map_map]
        have a1 : R0.map (valOf st'.e) = R0.map (valOf st.e) := List.map_congr_left eR
        have a2 : D.map (valOf st'.e) = D.map ((· - 1) ∘ valOf st.e) := List.map_congr_left eD
        rw [a1, a2]
        exact List.perm_append_comm
      have hold : (st.bs.map (valOf st.e)).Perm (D.map (valOf st.e) ++ R0.map (valOf st.e)) := by
        refine (hb.symm.map _).trans ?_
        rw [← hcut, List.map_append]
        exact List.perm_append_comm
      have e1 : valOf asked u = (st.e u).toNat := by unfold valOf; rw [ha.2.2]
      have pos : ∀ y ∈ D.map (valOf st.e), 1 ≤ y := by
        intro y hy
        obtain ⟨v, hv, rfl⟩ := List.mem_map.mp hy
        have := inD v hv
        unfold valOf; omega
      have top : ∀ y ∈ D.map (valOf st.e), ∀ x ∈ R0.map (valOf st.e), x ≤ y := by
        intro y hy x hx
        obtain ⟨v, hv, rfl⟩ := List.mem_map.mp hy
        obtain ⟨z, hz, rfl⟩ := List.mem_map.mp hx
        rw [← hcut, List.pairwise_append] at hsort
        have := hsort.2.2 z hz v hv
        unfold stubLt at this
        unfold valOf; omega
      refine ⟨fun v hv hna => ?_, fun v h1 h2 => ?_, ?_, ?_⟩
      · by_cases q : v = u
        · subst q
          rw [hNu, lDe]
          have := ha.2.2
          omega
        · rw [hNlow v hv q]
          exact ex.low v hv (fun hm => by
            rcases List.mem_append.mp hm with hm | hm
            · exact hna hm
            · exact q (List.mem_singleton.mp hm))
      · have b := ex.up v h1 h2
        have hvu : v ≠ u := by omega
        have hN : st'.N v = if v ∈ D then ins (st.N v) u else st.N v := by rw [hst', fold_N u D huD _ v hvu]
        rw [hN, e' v]
        by_cases q : v ∈ D
        · rw [if_pos q, cD v q]
          have hno := pc.noin u (by simp) v h1 h2
          have : (ins (st.N v) u).length = (st.N v).length + 1 := by unfold ins; rw [if_neg hno]; simp
          have := (inD v q).2.2
          constructor <;> omega
        · rw [if_neg q, c0 v q]
          simpa using b
      · rw [ex.gr, List.map_append]
        show GR (cap (as.map (valOf asked) ++ [valOf asked u])) _ ↔ _
        rw [e1, ← lDe, GR_perm hold]
        have z := GR_step (as := as.map (valOf asked)) top pos
        rw [List.length_map] at z
        rw [z, GR_perm hvals, GR_filter (cap_mono _), GR_perm hall]
      · have s0 := ex.sm
        rw [List.map_append, List.sum_append, hold.sum_nat, List.sum_append] at s0
        simp only [List.map_cons, List.map_nil, List.sum_cons, List.sum_nil] at s0
        rw [e1] at s0
        rw [hvals.sum_nat, filter_sum, hall.sum_nat, List.sum_append]
        have p1 := sum_pred pos
        rw [List.length_map, lDe] at p1
        omega
    · right
      refine ⟨?_, u, hu, huas, ?_⟩
      · rw [ex.gr, List.map_append]
        have e1 : valOf asked u = (st.e u).toNat := by unfold valOf; rw [ha.2.2]
        show ¬ GR (cap (as.map (valOf asked) ++ [valOf asked u])) _
        rw [e1]
        refine GR_short ?_ ?_
        · have := ex.sm
          rw [List.map_append, List.sum_append] at this
          show _ = _ + _
          simp only [List.map_cons, List.map_nil, List.sum_cons, List.sum_nil] at this
          rw [e1] at this
          omega
        · rw [List.length_map, ← hb.length_eq]; omega
      · rw [hNu]
        have : D.length ≤ bs'.length := by rw [hD, List.length_drop]; omega
        have := ha.2.2
        omega
  · right
    refine ⟨b1, v, b2, fun hm => b3 (List.mem_append_left _ hm), ?_⟩
    rw [hNlow v b2 (fun e => b3 (by rw [e]; simp))]
    exact b4
end Mine
end
section
namespace Mine
theorem cap_perm {as as' : List Nat} (h : as.Perm as') (k : Nat) : cap as k = cap as' k := by
  unfold cap
  exact (h.map _).sum_nat
theorem GR_cap_perm {as as' b : List Nat} (h : as.Perm as') : GR (cap as) b ↔ GR (cap as') b :=
  ⟨fun g s r hp => cap_perm h _ ▸ g s r hp, fun g s r hp => (cap_perm h _).symm ▸ g s r hp⟩
theorem P0.start {GR0 : Prop} {n na : Nat} {asked : Nat → Int} {as bs : List Nat} (hp : as.Perm (List.range na)) (hs : as.Pairwise (stubLt asked)) (h0 : ∀ v, v < n → 0 ≤ asked v) (hn : na ≤ n)
    (hg : GR0 ↔ GR (cap ((List.range na).map (valOf asked))) (bs.map (valOf asked))) (hsum : ((List.range na).map (valOf asked)).sum = (bs.map (valOf asked)).sum) :
    P0 GR0 n na asked as ⟨bs, asked, fun _ => []⟩ := by
  refine ⟨PC.start hp h0 hn, hs, .inl ⟨fun v hv hna => absurd (hp.mem_iff.mpr (List.mem_range.mpr hv)) hna, fun v h1 h2 => ?_, ?_, ?_⟩⟩
  · have := h0 v h2
    refine ⟨?_, this⟩
    show (([] : List Nat).length : Int) + asked v = asked v
    simp
  · rw [hg]; exact (GR_cap_perm (hp.map _)).symm
  · rw [(hp.map _).sum_nat, hsum]
theorem sum_zero {l : List Nat} (h : l.sum = 0) : ∀ v ∈ l, v = 0 := by
  induction l with
  | nil => intro v hv; exact nomatch hv
  | cons a l ih =>
    rw [List.sum_cons] at h
    intro v hv
    rcases List.mem_cons.mp hv with e | hv
    · omega
    · exact ih (by omega) v hv
theorem zero_sum {l : List Nat} (h : ∀ v ∈ l, v = 0) : l.sum = 0 := by
  induction l with
  | nil => rfl
  | cons a l ih =>
    rw [List.sum_cons, ih fun v hv => h v (List.mem_cons_of_mem _ hv), h a List.mem_cons_self]
theorem P0.fin {GR0 : Prop} {n na : Nat} {asked : Nat → Int} {as : List Nat} {st : St} (hn : na ≤ n) (p : P0 GR0 n na asked as st) (ok : st.Ok n na) (hz : ∀ w ∈ as, asked w = 0) : PE0 GR0 n na asked st := by
  obtain ⟨pc, srt, ex⟩ := p
  refine ⟨pc.fin, ?_⟩
  rcases ex with ex | ⟨b1, v, b2, b3, b4⟩
  · have z1 : (as.map (valOf asked)).sum = 0 := zero_sum fun v hv => by
      obtain ⟨w, hw, rfl⟩ := List.mem_map.mp hv
      unfold valOf; rw [hz w hw]; rfl
    have z2 := sum_zero (ex.sm ▸ z1 : (st.bs.map (valOf st.e)).sum = 0)
    have hbs : st.bs = [] := by
      cases hb : st.bs with
      | nil => rfl
      | cons v r =>
        exfalso
        have hv : v ∈ st.bs := by rw [hb]; simp
        have a := ok.bin v hv
        have b := (ok.inb v a.1 a.2).mp hv
        have c := z2 (valOf st.e v) (List.mem_map_of_mem hv)
        unfold valOf at c
        omega
    have eU : ∀ v, na ≤ v → v < n → st.e v = 0 := fun v h1 h2 => by
      have a := (ex.up v h1 h2).2
      have b : ¬ 1 ≤ st.e v := fun hh => by
        have := (ok.inb v h1 h2).mpr hh
        rw [hbs] at this
        exact nomatch this
      omega
    constructor
    · intro _
      rw [ex.gr, hbs]
      exact GR_nil _
    · intro _ v hv
      by_cases q : v < na
      · by_cases qa : v ∈ as
        · rw [(pc.asl v qa).2.1, hz v qa]; rfl
        · exact ex.low v q qa
      · have a := (ex.up v (by omega) hv).1
        rw [eU v (by omega) hv] at a
        omega
  · constructor
    · intro h
      have := h v (by omega)
      omega
    · intro h; exact absurd h b1
/-- the invariant of way 0 -/
def PP0 (GR0 : Prop) (n na : Nat) (asked : Nat → Int) (as : List Nat) (st : St) : Prop := P0 GR0 n na asked as st ∧ st.Ok n na
theorem PP0.zero {GR0 : Prop} {n na u : Nat} {asked : Nat → Int} {as : List Nat} {st : St} (hn : na ≤ n) (p : PP0 GR0 n na asked (as ++ [u]) st) (hz : st.e u = 0) : PE0 GR0 n na asked st := by
  obtain ⟨p, ok⟩ := p
  have pc := p.1
  have hu : asked u = 0 := by rw [← (pc.asl u (by simp)).2.2]; exact hz
  refine P0.fin hn p ok fun w hw => ?_
  rcases List.mem_append.mp hw with h | h
  · have a := (List.pairwise_append.mp p.2.1).2.2 w h u (by simp)
    have b := pc.asp w (pc.asl w hw).1
    unfold stubLt at a
    omega
  · rw [List.mem_singleton.mp h]; exact hu
theorem PP0.nil {GR0 : Prop} {n na : Nat} {asked : Nat → Int} {st : St} (hn : na ≤ n) (p : PP0 GR0 n na asked [] st) : PE0 GR0 n na asked st := P0.fin hn p.1 p.2 fun w hw => nomatch hw
theorem PP0.step {GR0 : Prop} {n na u : Nat} {asked : Nat → Int} {as bs' : List Nat} {st : St} (hn : na ≤ n) (p : PP0 GR0 n na asked (as ++ [u]) st) (h : st.e u ≠ 0) (hu : u < na) (hb : bs'.Perm st.bs) (hsort : bs'.Pairwise (stubLt st.e)) :
    PP0 GR0 n na asked as ((bs'.drop (bs'.length - (st.e u).toNat)).foldl (St.step u) { st with bs := bs' }) := by
  refine ⟨P0.step hn p.1 p.2 h hu hb hsort, St.Ok.fold (by omega) _ _ (p.2.perm hb) fun v hv => ?_⟩
  exact p.2.bin v (hb.mem_iff.mp (List.mem_of_mem_drop hv))
end Mine
end
section
namespace Mine
abbrev askedOf (as bs : List Int) : Nat → Int := fun v => if v < as.length then as.getD v 0 else bs.getD (v - as.length) 0
abbrev GRof (as bs : List Int) : Prop := GR (cap (as.map Int.toNat)) (bs.map Int.toNat)
/-- what a maker's graph answers -/
def LawPE (way : Int) (as bs : List Int) (st : St) : Prop :=
  PEnd (as.length + bs.length) as.length (askedOf as bs) st ∧ (way = 0 → ((∀ v, v < as.length + bs.length → ((st.N v).length : Int) = askedOf as bs v) ↔ GRof as bs))

section
variable {as bs : List Int}
theorem getD_at {l : List Int} {i : Nat} (h : i < l.length) : l.getD i 0 ∈ l := by
  have : l.getD i 0 = l[i] := by simp [h]
  rw [this]; exact List.getElem_mem h
theorem asked_nonneg (ha : ∀ y ∈ as, 0 ≤ y ∧ y ≤ 8) (hb : ∀ y ∈ bs, 1 ≤ y ∧ y ≤ 8) : ∀ v, v < as.length + bs.length → 0 ≤ askedOf as bs v := by
  intro v hv
  show 0 ≤ (if v < as.length then as.getD v 0 else bs.getD (v - as.length) 0)
  split
  · exact (ha _ (getD_at (by assumption))).1
  · have := (hb _ (getD_at (l := bs) (i := v - as.length) (by omega))).1
    omega
theorem map_range_getD (l : List Int) : (List.range l.length).map (fun i => l.getD i 0) = l := by
  apply List.ext_getElem
  · simp
  · intro i h1 h2; simp [h2]
theorem vals_low : (List.range as.length).map (valOf (askedOf as bs)) = as.map Int.toNat := by
  conv => rhs; rw [← map_range_getD as]
  rw [List.map_map]
  refine List.map_congr_left fun v hv => ?_
  have hv := List.mem_range.mp hv
  show (if v < as.length then as.getD v 0 else bs.getD (v - as.length) 0).toNat = _
  rw [if_pos hv]
  simp only [Function.comp_apply]
theorem vals_up : ((List.range bs.length).map fun v => as.length + v).map (valOf (askedOf as bs)) = bs.map Int.toNat := by
  conv => rhs; rw [← map_range_getD bs]
  rw [List.map_map, List.map_map]
  refine List.map_congr_left fun v hv => ?_
  show (if as.length + v < as.length then as.getD (as.length + v) 0 else bs.getD (as.length + v - as.length) 0).toNat = _
  rw [if_neg (by omega), Nat.add_sub_cancel_left]
  rfl
theorem toNat_sum : ∀ {l : List Int}, (∀ y ∈ l, 0 ≤ y) → ((l.map Int.toNat).sum : Int) = l.sum := by
  intro l
  induction l with
  | nil => intro _; rfl
  | cons y l ih =>
    intro h
    have a := ih fun z hz => h z (List.mem_cons_of_mem _ hz)
    have b := h y List.mem_cons_self
    rw [List.map_cons, List.sum_cons, List.sum_cons]
    omega
theorem start0 {as1 : List Nat} (ha : ∀ y ∈ as, 0 ≤ y ∧ y ≤ 8) (hb : ∀ y ∈ bs, 1 ≤ y ∧ y ≤ 8) (hs : as.sum = bs.sum) (hp : as1.Perm (List.range as.length)) (hw : as1.Pairwise (stubLt (askedOf as bs))) :
    PP0 (GRof as bs) (as.length + bs.length) as.length (askedOf as bs) as1 ⟨(List.range bs.length).map fun v => as.length + v, askedOf as bs, fun _ => []⟩ := by
  refine ⟨P0.start hp hw (asked_nonneg ha hb) (Nat.le_add_right _ _) ?_ ?_, ?_⟩
  · rw [vals_low, vals_up]
  · rw [vals_low, vals_up]
    have a := toNat_sum (l := as) fun y hy => (ha y hy).1
    have b := toNat_sum (l := bs) fun y hy => by have := (hb y hy).1; omega
    omega
  · exact ok_start (dgA := fun v => as.getD v 0) (dgB := fun v => bs.getD v 0) fun j hj => (hb _ (getD_at hj)).1
theorem sum_pos {l : List Int} (h : ∀ y ∈ l, 1 ≤ y) (hs : l.sum = 0) : l = [] := by
  cases l with
  | nil => rfl
  | cons a l =>
    exfalso
    have key : ∀ l : List Int, (∀ y ∈ l, 1 ≤ y) → 0 ≤ l.sum := by
      intro l
      induction l with
      | nil => intro _; simp
      | cons a l ih =>
        intro h
        have := h a List.mem_cons_self
        have := ih fun z hz => h z (List.mem_cons_of_mem _ hz)
        rw [List.sum_cons]; omega
    have := h a List.mem_cons_self
    have := key l fun z hz => h z (List.mem_cons_of_mem _ hz)
    rw [List.sum_cons] at hs; omega
theorem sum_all_zero {l : List Int} (h : ∀ y ∈ l, y = 0) : l.sum = 0 := by
  induction l with
  | nil => rfl
  | cons a l ih => rw [List.sum_cons, ih fun z hz => h z (List.mem_cons_of_mem _ hz), h a List.mem_cons_self]; rfl
theorem zero_end {way : Int} (ha : ∀ y ∈ as, 0 ≤ y ∧ y ≤ 8) (hb : ∀ y ∈ bs, 1 ≤ y ∧ y ≤ 8) (hs : as.sum = bs.sum) (hz : ∀ y ∈ as, y = 0) (bs1 : List Nat) (e : Nat → Int) : LawPE way as bs ⟨bs1, e, fun _ => []⟩ := by
  have hbn : bs = [] := sum_pos (fun y hy => (hb y hy).1) (by rw [← hs]; exact sum_all_zero hz)
  have hn := asked_nonneg ha hb
  refine ⟨⟨fun v hv k hk => (nomatch hk), fun v hv => hn v hv⟩, fun _ => ?_⟩
  subst hbn
  constructor
  · intro _; exact GR_nil _
  · intro _ v hv
    have hv : v < as.length := by simpa using hv
    show ((0 : Nat) : Int) = (if v < as.length then as.getD v 0 else ([] : List Int).getD (v - as.length) 0)
    rw [if_pos hv, hz _ (getD_at hv)]
    rfl
theorem LawPE.of0 {st : St} (p : PE0 (GRof as bs) (as.length + bs.length) as.length (askedOf as bs) st) : LawPE 0 as bs st := ⟨p.1, fun _ => p.2⟩
theorem LawPE.of12 {way : Int} (hw : way ≠ 0) {asx : List Nat} {st : St} (p : PC (as.length + bs.length) as.length (askedOf as bs) asx st) : LawPE way as bs st := ⟨p.fin, fun h => absurd h hw⟩
theorem PC.use {n na : Nat} {asked : Nat → Int} {as : List Nat} {st : St} (p : PC n na asked as st) : as.Nodup ∧ ∀ u ∈ as, u < na ∧ 0 ≤ st.e u :=
  ⟨p.asn, fun u hu => ⟨(p.asl u hu).1, by rw [(p.asl u hu).2.2]; exact p.asp u (p.asl u hu).1⟩⟩
end
end Mine
end
section
namespace Mine
theorem set_sum : ∀ {l : List Int} {i : Nat} {v : Int}, i < l.length → (l.set i v).sum = l.sum - l.getD i 0 + v
  | [], i, v, h => absurd h (Nat.not_lt_zero _)
  | a :: l, 0, v, _ => by simp only [List.set_cons_zero, List.sum_cons, List.getD_cons_zero]; omega
  | a :: l, i + 1, v, h => by
    have := set_sum (l := l) (i := i) (v := v) (by simpa using h)
    simp only [List.set_cons_succ, List.sum_cons, List.getD_cons_succ]
    omega
theorem mem_set {l : List Int} {i : Nat} {v y : Int} (h : y ∈ l.set i v) : y = v ∨ y ∈ l := by
  rcases List.mem_or_eq_of_mem_set h with h | h
  · exact .inr h
  · exact .inl h
/-- some units moved from one place to another -/
theorem moved_ok {es e1 e2 : List Int} {g t : Nat} {mv : Int} (heb : ∀ y ∈ es, 1 ≤ y ∧ y ≤ 5) (hg : g < es.length) (ht : t < es.length) (h0 : 0 ≤ mv) (h1 : mv ≤ es.getD g 0 - 1) (h3 : mv ≤ 3) (q1 : e1 = es.set g (es.getD g 0 - mv)) (q2 : e2 = e1.set t (e1.getD t 0 + mv)) :
    e2.length = es.length ∧ (∀ y ∈ e2, 1 ≤ y ∧ y ≤ 8) ∧ e2.sum = es.sum := by
  have l1 : e1.length = es.length := by rw [q1, List.length_set]
  have b1 : ∀ y ∈ e1, 1 ≤ y ∧ y ≤ 5 := fun y hy => by
    rw [q1] at hy
    rcases mem_set hy with h | h
    · have := heb _ (getD_at hg)
      omega
    · exact heb y h
  have bt := b1 _ (getD_at (l := e1) (i := t) (by omega))
  refine ⟨by rw [q2, List.length_set, l1], fun y hy => ?_, ?_⟩
  · rw [q2] at hy
    rcases mem_set hy with h | h
    · omega
    · have := b1 y h
      omega
  · have s2 : e2.sum = e1.sum - e1.getD t 0 + (e1.getD t 0 + mv) := by rw [q2]; exact set_sum (by omega)
    have s1 : e1.sum = es.sum - es.getD g 0 + (es.getD g 0 - mv) := by rw [q1]; exact set_sum hg
    omega
theorem filter_sum' (l : List Int) : (l.filter fun z => decide (z ≠ 0)).sum = l.sum := by
  induction l with
  | nil => rfl
  | cons a l ih =>
    rw [List.filter_cons]
    by_cases h : a = 0
    · subst h
      simp only [ne_eq, not_true_eq_false, decide_false, Bool.false_eq_true, if_false, List.sum_cons]
      rw [ih]; omega
    · simp only [ne_eq, h, not_false_eq_true, decide_true, if_true, List.sum_cons]
      rw [ih]
end Mine
end
section
set_option maxRecDepth 100000
namespace Mine
open PySem PySem.W PySem.Spec PySem.Calls PyProof.Rows PyProof.V PyProof.Rows.LCg
theorem fr_dup {h₀ h : Heap} {L : Addr} {x : Str} {v v' : Option Value} {g : Str → Option Value} (F : Fr h₀ L h (fun y => if y = x then v else if y = x then v' else g y)) : Fr h₀ L h (fun y => if y = x then v else g y) := by
  have e : (fun y => if y = x then v else if y = x then v' else g y) = (fun y => if y = x then v else g y) := by
    funext y
    by_cases q : y = x
    · simp only [q, if_true]
    · simp only [q, if_false]
  rw [e] at F
  exact F
theorem back_G {S G es l : List (Addr × Obj)} (hU : Uniq G) (hes : ∀ p ∈ es, p ∈ G) (hS : ∀ p ∈ S, p ∈ l) (hE : ∀ p ∈ es, p ∈ l) (hR : ∀ p ∈ rms G (es.map (·.1)), p ∈ l) : ∀ p ∈ S ++ G, p ∈ l := fun p hp => by
  rcases List.mem_append.mp hp with hp | hp
  · exact hS p hp
  · by_cases q : p.1 ∈ es.map (·.1)
    · obtain ⟨e, he, eq⟩ := List.mem_map.mp q
      have := hU (hes e he) hp eq
      exact this ▸ hE e he
    · exact hR p (mem_rms hp q)
abbrev tupObj (x y : Value) : Obj := { cls := .type "tuple", data := .seq #[x, y] }
/-- the tuples of a dict's items -/
def tps (n : Nat) (P : Nat → Nat) (T : Nat → Tok) (g : Nat → Value) : List (Addr × Obj) := (List.range n).map fun j => (P j, tupObj (.int (j : Int) (T j)) (g j))
section
variable {prog : Program} {w : World} {A : Around} {E : Value → Shared → Prop} {s : Shared} {h₀ : Heap} {L : Addr} {m : Str → Option Value} {news : List (Addr × Obj)}
theorem list_items {r d : Addr} {od : Obj} {n : Nat} {g : Nat → Value} {Q : Value → Shared → Prop} (hh : A.handled = none) (F : Fr h₀ L s.heap m) (N : News h₀ L s.heap news) (hv : (r, ({ cls := .type "dict_items", data := .fields #[.ref d] } : Obj)) ∈ news) (hm : (d, od) ∈ news)
    (hd : od.IsDictOf (PySem.intKind prog w) (rows n g)) (hn : n ≤ 10000)
    (h : ∀ B P T c h' tk, Fr h₀ L h' m → News h₀ L h' ((B, listOf (refs P n).toArray c) :: (tps n P T g ++ news)) → Q (.ref B) { s with heap := h', toks := tk }) :
    wpAny (model prog w) A (call (.type "list") [.ref r]) Q E s := by
  obtain ⟨ep, hat⟩ := KdkAt.of hd
  refine kdx_call (knd := PySem.intKind prog w) (kvs := rows n g) (ep := ep) hh ⟨_, (N _ hv).1, rfl, rfl⟩ (hat.dictAt (N _ hm).1) (by rw [rows_length, sizeLine_eq]; omega) fun h' tk acc c as hk hS hl hG hacc => ?_
  rw [rows_length] at hl
  have key : ∀ j : Nat, ∃ t : Tok, j < n → h'.get? (as.getD j 0) = some (tupObj (.int (j : Int) t) (g j)) := fun j => by
    by_cases hj : j < n
    · have e1 : as[j]? = some (as.getD j 0) := by simp [hl, hj]
      obtain ⟨ky, k, x, q1, q2, q3⟩ := hG.pairs j _ e1
      obtain ⟨t, rfl⟩ : ∃ t, ky = .int k t := Value.isInt_shape q2
      have e2 : (rows n g)[j]? = some ((j : Int), g j) := by simp [rows, hj]
      rw [e2] at q1
      cases q1
      exact ⟨t, fun _ => q3⟩
    · exact ⟨0, fun h => absurd h hj⟩
  obtain ⟨T, hT⟩ := Classical.axiomOfChoice key
  have ea : acc = (refs (fun j => as.getD j 0) n).toArray := by
    have e3 : acc.toList = refs (fun j => as.getD j 0) n := by
      rw [hacc]
      apply List.ext_getElem?
      intro j
      by_cases hj : j < n
      · simp [refs, hl, hj]
      · simp [refs, hl, hj]
    rw [← e3, Array.toArray_toList]
  refine h s.heap.objs.size (fun j => as.getD j 0) T c h' tk (F.keeps hk) fun p hp => ?_
  rcases List.mem_cons.mp hp with rfl | hp
  · exact ⟨by rw [hS, ea], kdx_fresh F (Nat.le_refl _)⟩
  · rcases List.mem_append.mp hp with hp | hp
    · obtain ⟨j, hj, rfl⟩ := List.mem_map.mp hp
      have hj := List.mem_range.mp hj
      refine ⟨hT j hj, kdx_fresh F (Nat.le_of_lt (hG.above _ ?_))⟩
      show as.getD j 0 ∈ as
      have : as.getD j 0 = as[j] := by simp [hl, hj]
      rw [this]
      exact List.getElem_mem _
    · exact ⟨hk _ _ (N p hp).1, (N p hp).2⟩
end
end Mine
end
section
open PySem PySem.W PySem.Calls PyProof.Rows
set_option maxRecDepth 100000
set_option maxHeartbeats 4000000
namespace Mine
theorem fresh_E3 : True := by
  w_top off
  trivial
abbrev csF (nm : List (Str × NameKind)) (ig ic : Bool) (mo : List (Str × Const)) : Scope := { kind := .function, names := nm, isGenerator := ig, isCoroutine := ic, more := mo }
local macro_rules | `(tactic| k_room) => `(tactic| ktr_room)
local macro_rules | `(tactic| walk_at "getAttr ref") => `(tactic| (k_here; k_dflt (first
  | refine' get_ownS ?k1 ?k2 ?k3 ?k4 ?k5 ?k6 ?k7 ?k8 ?k9 ?_; (case k1 => k_asm); (case k2 => k_asm); (case k3 => k_inst); (case k4 => k_is); (case k5 => k_is); (case k6 => k_is); (case k7 => k_is); (case k8 => k_get); (case k9 => k_handed); k_whole
  | refine' get_ownD ?k1 ?k2 ?k3 ?k4 ?k5 ?k6 ?k7 ?kt ?k8 ?k9 ?_; (case k1 => k_asm); (case k2 => k_asm); (case k3 => k_inst); (case k4 => k_is); (case k5 => k_is); (case k6 => k_is); (case k7 => k_is); (case kt => k_is); (case k8 => k_get); (case k9 => k_handed); k_whole)))
local macro_rules | `(tactic| walk_at "getMethod ref") => `(tactic| (k_here; k_dflt (first
  | refine' method_instS ?k1 ?k2 ?k3 ?k4 ?k5 ?k6 ?k7 ?_; (case k1 => k_asm); (case k2 => k_asm); (case k3 => k_inst); (case k4 => k_is); (case k5 => k_is); (case k6 => k_is); (case k7 => k_get); k_whole
  | refine' method_getS ?k1 ?k2 ?_; (case k1 => k_asm); (case k2 => k_mem); k_whole)))
local macro_rules | `(tactic| k_all) => `(tactic| exact far_of (by assumption) (by omega))
local macro_rules | `(tactic| walk_at "call builtin:dict.get") => `(tactic| (k_here; k_dflt (refine' getS_miss ?k1 ?k2 ?k3 ?k4 ?k5 ?_; (case k1 => k_asm); (case k2 => k_mem); (case k3 => k_keys); (case k4 => k_get); (case k5 => k_asm); k_whole)))
local macro_rules | `(tactic| walk_at "setItem ref str") => `(tactic| (k_here; k_dflt (refine' setS_new ?k1 ?k2 ?k3 ?k4 ?k5 ?k6 ?_; (case k1 => k_asm); (case k2 => k_asm); (case k6 => k_upd); (case k3 => k_keys); (case k4 => k_get); (case k5 => (rw [sizeLine_eq]; exact Nat.le_of_ble_eq_true (by with_unfolding_all rfl))); k_whole; intro h' F' N'; (try dsimp only [List.cons_append, List.nil_append] at N'); (try k_sweep))))
local macro_rules | `(tactic| walk_at "call builtin:dict.clear") => `(tactic| (k_here; k_dflt (refine' clear_K (knd := PySem.strKind _ _) ?k1 ?k2 ?k3 ?k4 ?_; (case k1 => k_asm); (case k2 => k_asm); (case k3 => k_updF); (case k4 => assumption); k_whole; intro h' o' F' N' hd'; (try dsimp only [List.cons_append, List.nil_append] at N'); (try k_sweep))))
local macro_rules | `(tactic| k_ne) => `(tactic| (refine neN ?_; (try dsimp only); first | with_reducible assumption | (refine Ne.symm ?_; with_reducible assumption)))
theorem add_nodes_nil {w : World} {p : Program} {loose : List Str} {mean : ExcName → Option Value} {mg mb : Str → Option Value} {dp un : Nat} {gd : Option (List Code)} {cn : Str} {nm} {ig ic : Bool} {mo : List (Str × Const)} {a : Addr} {ccd : Value} {cl : List (Str × Addr)} {outer : List Env} {A₀ : Around} {base h₀ : Heap} {L : Addr} {m : Str → Option Value} {news : List (Addr × Obj)} {s : Shared}
    {Q E : Value → Shared → Prop} {x l c : Nat} {ys : List Value} {ns : List Int} :
    Below A₀ base outer h₀ → Fr h₀ L s.heap m → (Mine.LawTop.hd.heap_39 w.params).In h₀ → News h₀ L s.heap news → Top p loose mean mg mb h₀ → dp + 10 < recursionLimit → un + 100 < cLine →
    (l, listOf ys.toArray c) ∈ news → IntsAre ys ns → ns = [] →
    (∀ h' tk, Fr h₀ L h' m → News h₀ L h' news → Q .none { s with heap := h', toks := tk }) →
    wpAny (model PySem.Challenge.rw_ez0195_01.row.prog w) (ktrTop dp un gd cn (csF nm ig ic mo) L a ccd cl outer) (call (.ref 433) [.ref x, .ref l] []) Q E s := by
  k_fill
  intro B F X N T hd hu e1 e2 e3 done
  have e4 : ys = [] := List.length_eq_zero_iff.mp (by rw [e2.length, e3]; rfl)
  subst e4
  clear e2 e3
  k_steps
  refine' for_own ?F ?hx ?hp ?_
  case F => k_asm
  case hx => exact rfl
  case hp => rfl
  k_steps
  refine' loop_none ["newnode", "newdict", "ndict"] ?hh ?hF ?hN ?hm ?_
  case hh => rfl
  case hF => k_asm
  case hN => k_asm
  case hm => exact List.mem_cons_of_mem _ e1
  intro u h tk F' N'
  k_steps
  exact done _ _ (by assumption) (News.tail' (by assumption))
end Mine
end
section
open PySem PySem.W PySem.Calls PyProof.Rows
set_option maxRecDepth 100000
set_option maxHeartbeats 4000000
namespace Mine
theorem fresh_E1 : True := by
  w_top off
  trivial
local macro_rules | `(tactic| walk_at "nought") => `(tactic| fail)
local macro_rules | `(tactic| k_room) => `(tactic| ktr_room)
local macro_rules | `(tactic| walk_at "getAttr ref") => `(tactic| (k_here; k_dflt (first
  | refine' get_ownS ?k1 ?k2 ?k3 ?k4 ?k5 ?k6 ?k7 ?k8 ?k9 ?_; (case k1 => k_asm); (case k2 => k_asm); (case k3 => k_inst); (case k4 => k_is); (case k5 => k_is); (case k6 => k_is); (case k7 => k_is); (case k8 => k_get); (case k9 => k_handed); k_whole
  | refine' get_ownD ?k1 ?k2 ?k3 ?k4 ?k5 ?k6 ?k7 ?kt ?k8 ?k9 ?_; (case k1 => k_asm); (case k2 => k_asm); (case k3 => k_inst); (case k4 => k_is); (case k5 => k_is); (case k6 => k_is); (case k7 => k_is); (case kt => k_is); (case k8 => k_get); (case k9 => k_handed); k_whole)))
local macro_rules | `(tactic| walk_at "getMethod ref") => `(tactic| (k_here; k_dflt (first
  | refine' method_instS ?k1 ?k2 ?k3 ?k4 ?k5 ?k6 ?k7 ?_; (case k1 => k_asm); (case k2 => k_asm); (case k3 => k_inst); (case k4 => k_is); (case k5 => k_is); (case k6 => k_is); (case k7 => k_get); k_whole
  | refine' method_getS ?k1 ?k2 ?_; (case k1 => k_asm); (case k2 => k_mem); k_whole)))
local macro_rules | `(tactic| k_all) => `(tactic| exact far_of (by assumption) (by omega))
local macro_rules | `(tactic| walk_at "call builtin:dict.get") => `(tactic| (k_here; k_dflt (refine' getS_miss ?k1 ?k2 ?k3 ?k4 ?k5 ?_; (case k1 => k_asm); (case k2 => k_mem); (case k3 => k_keys); (case k4 => k_get); (case k5 => k_asm); k_whole)))
local macro_rules | `(tactic| walk_at "setItem ref str") => `(tactic| (k_here; k_dflt (refine' setS_new ?k1 ?k2 ?k3 ?k4 ?k5 ?k6 ?_; (case k1 => k_asm); (case k2 => k_asm); (case k6 => k_upd); (case k3 => k_keys); (case k4 => k_get); (case k5 => (rw [sizeLine_eq]; exact Nat.le_of_ble_eq_true (by with_unfolding_all rfl))); k_whole; intro h' F' N'; (try dsimp only [List.cons_append, List.nil_append] at N'); (try k_sweep))))
local macro_rules | `(tactic| walk_at "call builtin:dict.clear") => `(tactic| (k_here; k_dflt (refine' clear_K (knd := PySem.strKind _ _) ?k1 ?k2 ?k3 ?k4 ?_; (case k1 => k_asm); (case k2 => k_asm); (case k3 => k_updF); (case k4 => assumption); k_whole; intro h' o' F' N' hd'; (try dsimp only [List.cons_append, List.nil_append] at N'); (try k_sweep))))
local macro_rules | `(tactic| k_all) => `(tactic| with_reducible assumption)
local macro_rules | `(tactic| k_ne) => `(tactic| (refine neN ?_; (try dsimp only); first | with_reducible assumption | (refine Ne.symm ?_; with_reducible assumption)))

theorem get_adj_N {w : World} {p : Program} {loose : List Str} {mean : ExcName → Option Value} {mg mb : Str → Option Value} {dp un : Nat} {gd : Option (List Code)} {cn : Str} {nm} {ig ic : Bool} {mo : List (Str × Const)} {a : Addr} {ccd : Value} {cl : List (Str × Addr)} {outer : List Env} {A₀ : Around} {base h₀ : Heap} {L : Addr} {m : Str → Option Value} {news : List (Addr × Obj)} {s : Shared}
    {Q E : Value → Shared → Prop} {x d ag an aa : Nat} {oag oan oaa : Obj} {t0 t1 t2 : Tok} :
    Below A₀ base outer h₀ → Fr h₀ L s.heap m → (Mine.LawTop.hd.heap_39 w.params).In h₀ → News h₀ L s.heap ((aa, oaa) :: (an, oan) :: (ag, oag) :: (x, instObj 617 d) :: (d, dictOf [kE w "graph" t0 ag, kE w "_node" t1 an, kE w "_adj" t2 aa] 3) :: news) → Top p loose mean mg mb h₀ → dp + 10 < recursionLimit → un + 100 < cLine →
    (d == sysModules) = false →
    d < x → x < ag → ag < an → an < aa → (∀ p ∈ news, p.1 ≠ d) → (∀ p ∈ news, p.1 ≠ x) → (∀ p ∈ news, p.1 ≠ ag) → (∀ p ∈ news, p.1 ≠ an) → (∀ p ∈ news, p.1 ≠ aa) →
    (∀ h' tk t3, Fr h₀ L h' m → News h₀ L h' ((aa, oaa) :: (an, oan) :: (ag, oag) :: (x, instObj 617 d) :: (d, dictS [kE w "graph" t0 ag, kE w "_node" t1 an, kE w "_adj" t2 aa, kE w "adj" t3 aa] 4) :: news) → Q (.ref aa) { s with heap := h', toks := tk }) →
    wpN (model PySem.Challenge.rw_ez0195_01.row.prog w) (ktrTop dp un gd cn (csF nm ig ic mo) L a ccd cl outer) (call (.ref 309) [.ref 390, .ref x, .ref 617] []) Q E s := by
  k_fill
  intro B F X N T hd hu g4 l1 l2 l3 l4 l5 l6 l7 l8 l9 done
  refine n_call ?_
  refine' n_def ?k1 ?k2 ?k3 ?k4 ?k5 ?kA ?kF ?kK ?k6 ?k7 ?k8 ?k9 ?kB ?_ ?c2 ?c3 ?c4 ?c5; (case kA => exact rfl); (case kF => exact rfl); (case kK => exact rfl); (case k1 => k_asm); (case k2 => k_asm); (case k3 => k_asm); (case k4 => k_asm); (case k5 => k_asm); (case k6 => k_is); (case k7 => k_is); (case k8 => k_room); (case k9 => first | exact BindsTo.of_eq rfl | exact binds_K (by k_in) rfl (by k_is) rfl rfl rfl | fail "k_enter: no rule for these arguments"); (case c5 => decide); (case kB => exact locs rfl); (case c2 => exact rfl); (case c3 => exact rfl); (case c4 => exact rfl)
  intro g' L' h' FG' F' N' B' X' T'
  try dsimp only
  refine n_step ?_
  k_steps
  refine n_step ?_
  k_steps
  refine n_last (n_try_except (n_execs (n_assign (n_attrName ?_))))
  k_steps
  refine' n_getDict (K := Mine.LawTop.hd.heap_39 w.params) (C := 617) ?F ?X ?N ?h1 ?h2 ?a1 ?a2 ?a3 ?a4 ?a5 ?a6 ?a7 ?a8 ?a9 ?b1 ?b2 ?b3 ?b4 ?_
  case F => k_asm
  case X => k_asm
  case N => k_asm
  case h1 => k_mem
  case h2 => k_mem
  case a1 => k_dflt k_is
  case a2 => k_dflt k_is
  case a3 => k_dflt k_is
  case a4 => k_dflt k_is
  case a5 => k_dflt k_is
  case a6 => k_dflt k_is
  case a7 => k_dflt k_is
  case a8 => k_dflt k_is
  case a9 => k_dflt k_is
  case b1 => k_dflt k_is
  case b2 => exact marked_dict _ _
  case b3 => rfl
  case b4 => k_upd
  intro h' F' N'
  try dsimp only
  k_fold
  k_steps
  refine n_execs_nil ?_
  dsimp only
  k_fold
  k_steps
  exact done _ _ _ (by k_asm) (by k_asm)

end Mine
end
section
open PySem PySem.W PySem.Calls PyProof.Rows
set_option maxRecDepth 100000
set_option maxHeartbeats 4000000
namespace Mine
theorem fresh_E2 : True := by
  w_top off
  trivial
local macro_rules | `(tactic| walk_at "nought") => `(tactic| fail)
local macro_rules | `(tactic| k_room) => `(tactic| ktr_room)
local macro_rules | `(tactic| walk_at "getAttr ref") => `(tactic| (k_here; k_dflt (first
  | refine' get_ownS ?k1 ?k2 ?k3 ?k4 ?k5 ?k6 ?k7 ?k8 ?k9 ?_; (case k1 => k_asm); (case k2 => k_asm); (case k3 => k_inst); (case k4 => k_is); (case k5 => k_is); (case k6 => k_is); (case k7 => k_is); (case k8 => k_get); (case k9 => k_handed); k_whole
  | refine' get_ownD ?k1 ?k2 ?k3 ?k4 ?k5 ?k6 ?k7 ?kt ?k8 ?k9 ?_; (case k1 => k_asm); (case k2 => k_asm); (case k3 => k_inst); (case k4 => k_is); (case k5 => k_is); (case k6 => k_is); (case k7 => k_is); (case kt => k_is); (case k8 => k_get); (case k9 => k_handed); k_whole)))
local macro_rules | `(tactic| walk_at "getMethod ref") => `(tactic| (k_here; k_dflt (first
  | refine' method_instS ?k1 ?k2 ?k3 ?k4 ?k5 ?k6 ?k7 ?_; (case k1 => k_asm); (case k2 => k_asm); (case k3 => k_inst); (case k4 => k_is); (case k5 => k_is); (case k6 => k_is); (case k7 => k_get); k_whole
  | refine' method_getS ?k1 ?k2 ?_; (case k1 => k_asm); (case k2 => k_mem); k_whole)))
local macro_rules | `(tactic| k_all) => `(tactic| exact far_of (by assumption) (by omega))
local macro_rules | `(tactic| walk_at "call builtin:dict.get") => `(tactic| (k_here; k_dflt (refine' getS_miss ?k1 ?k2 ?k3 ?k4 ?k5 ?_; (case k1 => k_asm); (case k2 => k_mem); (case k3 => k_keys); (case k4 => k_get); (case k5 => k_asm); k_whole)))
local macro_rules | `(tactic| walk_at "setItem ref str") => `(tactic| (k_here; k_dflt (refine' setS_new ?k1 ?k2 ?k3 ?k4 ?k5 ?k6 ?_; (case k1 => k_asm); (case k2 => k_asm); (case k6 => k_upd); (case k3 => k_keys); (case k4 => k_get); (case k5 => (rw [sizeLine_eq]; exact Nat.le_of_ble_eq_true (by with_unfolding_all rfl))); k_whole; intro h' F' N'; (try dsimp only [List.cons_append, List.nil_append] at N'); (try k_sweep))))
local macro_rules | `(tactic| walk_at "call builtin:dict.clear") => `(tactic| (k_here; k_dflt (refine' clear_K (knd := PySem.strKind _ _) ?k1 ?k2 ?k3 ?k4 ?_; (case k1 => k_asm); (case k2 => k_asm); (case k3 => k_updF); (case k4 => assumption); k_whole; intro h' o' F' N' hd'; (try dsimp only [List.cons_append, List.nil_append] at N'); (try k_sweep))))
local macro_rules | `(tactic| walk_at "call ref") => `(tactic| (k_here; (with_reducible show wpAny _ _ (call (Value.ref 433) [Value.ref _, Value.ref _] []) _ _ _); k_dflt (refine' add_nodes_nil ?h1 ?h2 ?h3 ?h4 ?h5 ?h6 ?h7 ?h8 ?h9 ?h10 ?_; (case h1 => k_asm); (case h2 => k_asm); (case h3 => k_asm); (case h4 => k_asm); (case h5 => k_asm); (case h6 => ktr_room); (case h7 => ktr_units); (case h8 => k_mem); (case h9 => assumption); (case h10 => rfl); k_whole); intro h' tk' F' N'; walk_say "CONTRACT add_nodes_nil"))
local macro_rules | `(tactic| k_all) => `(tactic| with_reducible assumption)
local macro_rules | `(tactic| k_ne) => `(tactic| (refine neN ?_; (try dsimp only); first | with_reducible assumption | (refine Ne.symm ?_; with_reducible assumption)))
theorem empty_graph_N {w : World} {p : Program} {loose : List Str} {mean : ExcName → Option Value} {mg mb : Str → Option Value} {dp un : Nat} {gd : Option (List Code)} {cn : Str} {nm} {ig ic : Bool} {mo : List (Str × Const)} {a : Addr} {ccd : Value} {cl : List (Str × Addr)} {outer : List Env} {A₀ : Around} {base h₀ : Heap} {L : Addr} {m : Str → Option Value} {news : List (Addr × Obj)} {s : Shared}
    {Q E : Value → Shared → Prop} {x d ag an aa : Nat} {oag oan oaa : Obj} {t0 t1 t2 tz : Tok} :
    Below A₀ base outer h₀ → Fr h₀ L s.heap m → (Mine.LawTop.hd.heap_39 w.params).In h₀ → News h₀ L s.heap ((aa, oaa) :: (an, oan) :: (ag, oag) :: (x, instObj 617 d) :: (d, dictOf [kE w "graph" t0 ag, kE w "_node" t1 an, kE w "_adj" t2 aa] 3) :: news) → Top p loose mean mg mb h₀ → dp + 30 < recursionLimit → un + 300 < cLine →
    oag.IsDictOf (PySem.strKind PySem.Challenge.rw_ez0195_01.row.prog w) [] → oan.IsDictOf (PySem.strKind PySem.Challenge.rw_ez0195_01.row.prog w) [] → oaa.IsDictOf (PySem.strKind PySem.Challenge.rw_ez0195_01.row.prog w) [] → 
    (aa == sysModules) = false → (an == sysModules) = false → (ag == sysModules) = false → (d == sysModules) = false →
    d < x → x < ag → ag < an → an < aa → (∀ p ∈ news, p.1 ≠ d) → (∀ p ∈ news, p.1 ≠ x) → (∀ p ∈ news, p.1 ≠ ag) → (∀ p ∈ news, p.1 ≠ an) → (∀ p ∈ news, p.1 ≠ aa) →
    (∀ h' tk t3 og on oa, Fr h₀ L h' m → News h₀ L h' ((aa, oa) :: (an, on) :: (ag, og) :: (x, instObj 617 d) :: (d, dictS [kE w "graph" t0 ag, kE w "_node" t1 an, kE w "_adj" t2 aa, kE w "adj" t3 aa] 4) :: news) → og.IsDictOf (PySem.strKind PySem.Challenge.rw_ez0195_01.row.prog w) [] → on.IsDictOf (PySem.intKind PySem.Challenge.rw_ez0195_01.row.prog w) [] → oa.IsDictOf (PySem.intKind PySem.Challenge.rw_ez0195_01.row.prog w) [] → Q (.ref x) { s with heap := h', toks := tk }) →
    wpN (model PySem.Challenge.rw_ez0195_01.row.prog w) (ktrTop dp un gd cn (csF nm ig ic mo) L a ccd cl outer) (call (.ref 647) [.int 0 tz, .ref x] []) Q E s := by
  k_fill
  intro B F X N T hd hu e1 e2 e3 g1 g2 g3 g4 l1 l2 l3 l4 l5 l6 l7 l8 l9 done
  have fl0 : PyProof.V.FlatPairs (K := PySem.Str) PyData.str [] [] := flat_nil _
  refine n_call ?_
  refine' n_def ?k1 ?k2 ?k3 ?k4 ?k5 ?kA ?kF ?kK ?k6 ?k7 ?k8 ?k9 ?kB ?_ ?c2 ?c3 ?c4 ?c5; (case kA => exact rfl); (case kF => exact rfl); (case kK => exact rfl); (case k1 => k_asm); (case k2 => k_asm); (case k3 => k_asm); (case k4 => k_asm); (case k5 => k_asm); (case k6 => k_is); (case k7 => k_is); (case k8 => k_room); (case k9 => first | exact BindsTo.of_eq rfl | exact binds_K (by k_in) rfl (by k_is) rfl rfl rfl | fail "k_enter: no rule for these arguments"); (case c5 => decide); (case kB => exact locs rfl); (case c2 => exact rfl); (case c3 => exact rfl); (case c4 => exact rfl)
  intro g' L' h' FG' F' N' B' X' T'
  try dsimp only
  refine n_last (n_if ?_)
  k_steps
  refine n_last (n_ifN (n_isTrueNot (n_callName ?_)))
  k_steps
  refine n_callB ?_
  k_steps
  refine' n_hasattr (K := Mine.LawTop.hd.heap_39 w.params) (C := 617) (name := PySem.Str.ofString "adj") ?X ?I ?ga ?f ?k ?mo ?_
  case X => k_in
  case I => k_inst
  case ga => k_dflt k_is
  case k => k_dflt k_is
  case mo => k_dflt k_is
  case f =>
    refine' findObj_ndata ?a1 ?a2 ?a3 ?a4 ?a5 ?a6
    case a1 => k_dflt k_is
    case a2 => k_dflt k_is
    case a3 => k_dflt k_is
    case a4 => k_dflt k_is
    case a5 => decide +kernel
    case a6 => (rw [lookIn_dict]; k_dflt k_get)
  refine' get_adj_N ?h1 ?h2 ?h3 ?h4 ?h5 ?h6 ?h7 ?h8 ?h9 ?h10 ?h11 ?h12 ?h13 ?h14 ?h15 ?h16 ?h17 ?h18
  case h1 => k_asm
  case h2 => k_asm
  case h3 => k_asm
  case h4 => k_asm
  case h5 => k_asm
  case h6 => ktr_room
  case h7 => ktr_units
  case h8 => assumption
  case h9 => assumption
  case h10 => assumption
  case h11 => assumption
  case h12 => assumption
  case h13 => assumption
  case h14 => assumption
  case h15 => assumption
  case h16 => assumption
  case h17 => assumption
  intro h' tk t3 F' N'
  refine ⟨rfl, ?_⟩
  k_fold
  k_steps
  exact done _ _ _ _ _ _ (by assumption) (News.tail' (News.tail' (by assumption))) (by assumption) (empty_kind (by assumption)) (empty_kind (by assumption))
end Mine
end
section
open PySem PySem.W PySem.Calls PyProof.Rows
set_option maxRecDepth 100000
set_option maxHeartbeats 4000000
namespace Mine
theorem fresh_E4 : True := by
  w_top off
  trivial
local macro_rules | `(tactic| k_room) => `(tactic| ktr_room)
local macro_rules | `(tactic| walk_at "getAttr ref") => `(tactic| (k_here; k_dflt (first
  | refine' get_ownS ?k1 ?k2 ?k3 ?k4 ?k5 ?k6 ?k7 ?k8 ?k9 ?_; (case k1 => k_asm); (case k2 => k_asm); (case k3 => k_inst); (case k4 => k_is); (case k5 => k_is); (case k6 => k_is); (case k7 => k_is); (case k8 => k_get); (case k9 => k_handed); k_whole
  | refine' get_ownD ?k1 ?k2 ?k3 ?k4 ?k5 ?k6 ?k7 ?kt ?k8 ?k9 ?_; (case k1 => k_asm); (case k2 => k_asm); (case k3 => k_inst); (case k4 => k_is); (case k5 => k_is); (case k6 => k_is); (case k7 => k_is); (case kt => k_is); (case k8 => k_get); (case k9 => k_handed); k_whole)))
local macro_rules | `(tactic| walk_at "getMethod ref") => `(tactic| (k_here; k_dflt (first
  | refine' method_instS ?k1 ?k2 ?k3 ?k4 ?k5 ?k6 ?k7 ?_; (case k1 => k_asm); (case k2 => k_asm); (case k3 => k_inst); (case k4 => k_is); (case k5 => k_is); (case k6 => k_is); (case k7 => k_get); k_whole
  | refine' method_getS ?k1 ?k2 ?_; (case k1 => k_asm); (case k2 => k_mem); k_whole)))
local macro_rules | `(tactic| k_all) => `(tactic| exact far_of (by assumption) (by omega))
local macro_rules | `(tactic| walk_at "call builtin:dict.get") => `(tactic| (k_here; k_dflt (refine' getS_miss ?k1 ?k2 ?k3 ?k4 ?k5 ?_; (case k1 => k_asm); (case k2 => k_mem); (case k3 => k_keys); (case k4 => k_get); (case k5 => k_asm); k_whole)))
local macro_rules | `(tactic| walk_at "setItem ref str") => `(tactic| (k_here; k_dflt (refine' setS_new ?k1 ?k2 ?k3 ?k4 ?k5 ?k6 ?_; (case k1 => k_asm); (case k2 => k_asm); (case k6 => k_upd); (case k3 => k_keys); (case k4 => k_get); (case k5 => (rw [sizeLine_eq]; exact Nat.le_of_ble_eq_true (by with_unfolding_all rfl))); k_whole; intro h' F' N'; (try dsimp only [List.cons_append, List.nil_append] at N'); (try k_sweep))))
local macro_rules | `(tactic| walk_at "call builtin:dict.clear") => `(tactic| (k_here; k_dflt (refine' clear_K (knd := PySem.strKind _ _) ?k1 ?k2 ?k3 ?k4 ?_; (case k1 => k_asm); (case k2 => k_asm); (case k3 => k_updF); (case k4 => assumption); k_whole; intro h' o' F' N' hd'; (try dsimp only [List.cons_append, List.nil_append] at N'); (try k_sweep))))
local macro_rules | `(tactic| k_all) => `(tactic| ((repeat (first | exact far_of (allLt_all (by with_reducible assumption)) (by omega) | exact far_of (allLt_all (And.right (by with_reducible assumption))) (by omega) | exact far_of (allLt_all (And.right (And.right (by with_reducible assumption)))) (by omega) | exact far_of (allLt_all (And.right (And.right (And.right (by with_reducible assumption))))) (by omega) | exact far_of (allLt_all (And.right (And.right (And.right (And.right (by with_reducible assumption)))))) (by omega) | exact far_of (allLt_all (And.right (And.right (And.right (And.right (And.right (by with_reducible assumption))))))) (by omega) | exact far_of (allLt_all (And.right (And.right (And.right (And.right (And.right (And.right (by with_reducible assumption)))))))) (by omega) | exact far_of (allLt_all (And.right (And.right (And.right (And.right (And.right (And.right (And.right (by with_reducible assumption))))))))) (by omega) | exact far_of (allLt_all (And.right (And.right (And.right (And.right (And.right (And.right (And.right (And.right (by with_reducible assumption)))))))))) (by omega) | exact far_of (allLt_all (And.right (And.right (And.right (And.right (And.right (And.right (And.right (And.right (And.right (by with_reducible assumption))))))))))) (by omega) | (rename _ ∧ _ => kZ; clear kZ))); done))
local macro_rules | `(tactic| k_all) => `(tactic| assumption)
local macro_rules | `(tactic| walk_at "subscriptTail") => `(tactic| (k_here; k_dflt (refine kda_item (knd := PySem.intKind _ _) (by k_asm) (by k_mem) (by k_asm) (intKind_is _ _ _ _) (by first | assumption | exact valueAt_stored_self _ _ _) ?_)))
local macro_rules | `(tactic| walk_at "compareOp NotIn int ref") => `(tactic| (k_here; k_dflt (first
  | refine kdg_notin (knd := PySem.intKind _ _) (by k_asm) (by k_mem) (by k_asm) (by k_asm) (intKind_is _ _ _ _) true (by assumption) ?_
  | refine kdg_notin (knd := PySem.intKind _ _) (by k_asm) (by k_mem) (by k_asm) (by k_asm) (intKind_is _ _ _ _) false (by assumption) ?_); (try dsimp only [Bool.not_true, Bool.not_false])))
local macro_rules | `(tactic| walk_at "setItem ref int") => `(tactic| (k_here; k_dflt (refine' kda_set (knd := PySem.intKind _ _) ?F ?N ?U ?d (intKind_is _ _ _ _) ?z ?_; (case F => k_asm); (case N => k_asm); (case U => k_updF); (case d => k_asm); (case z => assumption)); intro h' o' F' N' hd'; (try dsimp only at N')))
local macro_rules | `(tactic| walk_at "getItem ref int") => `(tactic| (k_here; k_dflt (refine kdt_getItem (knd := PySem.intKind _ _) (by k_asm) (by k_mem) (by k_asm) (intKind_is _ _ _ _) (by first | assumption | exact valueAt_stored_self _ _ _) ?_)))
local macro_rules | `(tactic| k_ne) => `(tactic| (refine neN ?_; (try dsimp only); first | with_reducible assumption | (refine Ne.symm ?_; with_reducible assumption)))
theorem add_nodes_range {w : World} {p : Program} {loose : List Str} {mean : ExcName → Option Value} {mg mb : Str → Option Value} {dp un : Nat} {gd : Option (List Code)} {cn : Str} {nm} {ig ic : Bool} {mo : List (Str × Const)} {a : Addr} {ccd : Value} {cl : List (Str × Addr)} {outer : List Env} {A₀ : Around} {base h₀ : Heap} {L : Addr} {m : Str → Option Value} {S G : List (Addr × Obj)} {s : Shared}
    {Q E : Value → Shared → Prop} {x d ag an aa r : Nat} {t0 t1 t2 t3 ta tb tc : Tok} {n : Nat} {f : Nat → Nat} :
    Below A₀ base outer h₀ → Fr h₀ L s.heap m → (Mine.LawTop.hd.heap_39 w.params).In h₀ → News h₀ L s.heap ((r, rangeObj 0 n ta tb tc) :: (S ++ G)) → Top p loose mean mg mb h₀ → dp + 10 < recursionLimit → un + 100 < cLine →
    n ≤ 60 → Apart S G → GI PySem.Challenge.rw_ez0195_01.row.prog w G x d ag an aa [kE w "graph" t0 ag, kE w "_node" t1 an, kE w "_adj" t2 aa, kE w "adj" t3 aa] 4 f 0 (fun _ => []) (fun _ => []) [] →
    (∀ h' tk G' f', Fr h₀ L h' m → News h₀ L h' (S ++ G') → Apart S G' → GI PySem.Challenge.rw_ez0195_01.row.prog w G' x d ag an aa [kE w "graph" t0 ag, kE w "_node" t1 an, kE w "_adj" t2 aa, kE w "adj" t3 aa] 4 f' n (fun _ => []) (fun _ => []) [] → Q .none { s with heap := h', toks := tk }) →
    wpAny (model PySem.Challenge.rw_ez0195_01.row.prog w) (ktrTop dp un gd cn (csF nm ig ic mo) L a ccd cl outer) (call (.ref 433) [.ref x, .ref r] []) Q E s := by
  k_fill
  intro B F X N T hd hu hn ap gi done
  k_steps
  refine' for_own ?F ?hx ?hp ?_
  case F => k_asm
  case hx => exact rfl
  case hp => rfl
  k_steps
  rename_i D oD g' L' h' tk0 loD hsD fsD FG F1 N1 B1 X1 T1 l1
  have h0ap : Apart ((D, oD) :: S) G := fun p hp q hq => by
    rcases List.mem_cons.mp hp with e | hp
    · rw [e]; exact Nat.ne_of_gt (allLt_all (allLt_append l1.2).2 q hq)
    · exact ap p hp q hq
  refine' loop_range ["newnode", "newdict", "ndict"] (n := n) (fun I i u n' => ∃ G' f', n' = (D, oD) :: (S ++ G') ∧ Apart ((D, oD) :: S) G' ∧ GI PySem.Challenge.rw_ez0195_01.row.prog w G' x d ag an aa [kE w "graph" t0 ag, kE w "_node" t1 an, kE w "_adj" t2 aa, kE w "adj" t3 aa] 4 f' i (fun _ => []) (fun _ => []) []) ?hh ?hr ?hs ?hn ?hF ?hN ?h0 ?turn ?done
  case hh => rfl
  case hr => exact News.get N1 (List.mem_cons_of_mem _ List.mem_cons_self)
  case hs => exact small_one (by omega) (by omega) (by omega) (by omega)
  case hn => rw [rangeSize_nat]; omega
  case hF => k_asm
  case hN => exact News.perm N1 (fun p hp => (List.mem_cons.mp hp).elim (fun e => e ▸ List.mem_cons_self) (fun h => List.mem_cons_of_mem _ (List.mem_cons_of_mem _ h)))
  case h0 => exact fun I hI => ⟨G, f, rfl, h0ap, gi⟩
  case turn =>
    intro I i t u h tk oI news₁ hI hi hJ F2 N2 hnI
    obtain ⟨G', f', rfl, apG, gi'⟩ := hJ
    rw [Int.zero_add] at F2
    clear N1 F1 N F hI
    obtain ⟨oa, ma, da⟩ := gi'.adj
    obtain ⟨on, mn, dn⟩ := gi'.nod
    obtain ⟨R, hR⟩ : ∃ R, R = (I, oI) :: (S ++ rms G' [aa, an, x, d]) := ⟨_, rfl⟩
    have rr : ∀ c ∈ [aa, an, x, d], ∀ p ∈ R, p.1 ≠ c := by
      intro c hc p hp
      have hcG : ∃ o, (c, o) ∈ G' := by
        simp only [List.mem_cons, List.not_mem_nil, or_false] at hc
        rcases hc with e | e | e | e <;> rw [e]
        · exact ⟨_, ma⟩
        · exact ⟨_, mn⟩
        · exact ⟨_, gi'.inst⟩
        · exact ⟨_, gi'.dict⟩
      obtain ⟨oc, hoc⟩ := hcG
      rw [hR] at hp
      rcases List.mem_cons.mp hp with e | hp
      · rw [e]; exact fun q => hnI _ (List.mem_cons_of_mem _ (List.mem_append_right _ hoc)) q.symm
      · rcases List.mem_append.mp hp with hp | hp
        · exact apG p (List.mem_cons_of_mem _ hp) _ hoc
        · exact rms_ne hc p hp
    have N3 : News g' L' h ((D, oD) :: (aa, oa) :: (an, on) :: (x, instObj 617 d) :: (d, dictS [kE w "graph" t0 ag, kE w "_node" t1 an, kE w "_adj" t2 aa, kE w "adj" t3 aa] 4) :: R) := by
      have ms := gi'.inst
      have md := gi'.dict
      refine News.perm N2 fun p hp => ?_
      rw [hR] at hp
      simp only [List.mem_cons, List.mem_append] at hp ⊢
      rcases hp with e | e | e | e | e | e | e | e
      · exact .inr (.inl e)
      · exact .inr (.inr (.inr (e ▸ ma)))
      · exact .inr (.inr (.inr (e ▸ mn)))
      · exact .inr (.inr (.inr (e ▸ ms)))
      · exact .inr (.inr (.inr (e ▸ md)))
      · exact .inl e
      · exact .inr (.inr (.inl e))
      · exact .inr (.inr (.inr (rms_sub p e)))
    have r2 : ∀ p ∈ R, p.1 ≠ aa := rr aa (by simp)
    have r3 : ∀ p ∈ R, p.1 ≠ an := rr an (by simp)
    have r4 : ∀ p ∈ R, p.1 ≠ x := rr x (by simp)
    have r5 : ∀ p ∈ R, p.1 ≠ d := rr d (by simp)
    have q1 : @Ne Nat D aa := apG _ List.mem_cons_self _ ma
    have q2 : @Ne Nat D an := apG _ List.mem_cons_self _ mn
    have q3 : @Ne Nat D x := apG _ List.mem_cons_self _ gi'.inst
    have q4 : @Ne Nat D d := apG _ List.mem_cons_self _ gi'.dict
    have hap := gi'.apart2
    have q5 : @Ne Nat aa an := fun e => hap.2.2.2 e.symm
    have q6 : @Ne Nat aa x := fun e => hap.1.2.2.2 e.symm
    have q7 : @Ne Nat aa d := fun e => hap.2.1.2.2 e.symm
    have q8 : @Ne Nat an x := fun e => hap.1.2.2.1 e.symm
    have q9 : @Ne Nat an d := fun e => hap.2.1.2.1 e.symm
    have q10 : @Ne Nat x d := hap.1.1
    clear hap rr
    have v1 : (valueAt (rows i fun v => .ref (f' (2 * v + 1))) (i : Int)).isSome = false := by rw [valueAt_rows_none (Nat.lt_irrefl i)]; rfl
    have z1 : (rows i fun v => .ref (f' (2 * v + 1))).length ≤ sizeLine := by rw [rows_length, sizeLine_eq]; omega
    have z2 : (rows i fun v => .ref (f' (2 * v))).length ≤ sizeLine := by rw [rows_length, sizeLine_eq]; omega
    have loan : (an == sysModules) = false := gi'.low _ (by simp)
    have loaa : (aa == sysModules) = false := gi'.low _ (by simp)
    clear N2
    k_steps
    obtain ⟨G'', f'', n1, n2, n3, n4⟩ := add_step gi' apG hnI hR (by assumption) (by assumption) (by assumption) (by assumption) (by assumption) (by assumption) (by assumption) (by assumption) (by assumption) (by assumption)
    refine ⟨_, _, _, _, rfl, by assumption, n1, n2, ?_, G'', f'', rfl, n3, n4⟩
    intro y h1 h2
    simp only [List.contains_eq_mem, List.mem_cons, List.not_mem_nil, or_false, decide_eq_false_iff_not, not_or] at h2
    simp [h1, h2]
  intro I u h tk news' hI hJ F' N' hnI
  obtain ⟨G', f', rfl, apG, gi'⟩ := hJ
  k_steps
  exact done _ _ _ _ (by assumption) (News.tail' (by assumption)) (fun p hp => apG p (List.mem_cons_of_mem _ hp)) gi'
end Mine
end
section
open PySem PySem.W PySem.Calls PyProof.Rows
set_option maxRecDepth 100000
set_option maxHeartbeats 4000000
namespace Mine
theorem fresh_E6 : True := by
  w_top off
  trivial
local macro_rules | `(tactic| k_room) => `(tactic| ktr_room)
local macro_rules | `(tactic| walk_at "getAttr ref") => `(tactic| (k_here; k_dflt (first
  | refine' get_ownS ?k1 ?k2 ?k3 ?k4 ?k5 ?k6 ?k7 ?k8 ?k9 ?_; (case k1 => k_asm); (case k2 => k_asm); (case k3 => k_inst); (case k4 => k_is); (case k5 => k_is); (case k6 => k_is); (case k7 => k_is); (case k8 => k_get); (case k9 => k_handed); k_whole
  | refine' get_ownD ?k1 ?k2 ?k3 ?k4 ?k5 ?k6 ?k7 ?kt ?k8 ?k9 ?_; (case k1 => k_asm); (case k2 => k_asm); (case k3 => k_inst); (case k4 => k_is); (case k5 => k_is); (case k6 => k_is); (case k7 => k_is); (case kt => k_is); (case k8 => k_get); (case k9 => k_handed); k_whole)))
local macro_rules | `(tactic| walk_at "getMethod ref") => `(tactic| (k_here; k_dflt (first
  | refine' method_instS ?k1 ?k2 ?k3 ?k4 ?k5 ?k6 ?k7 ?_; (case k1 => k_asm); (case k2 => k_asm); (case k3 => k_inst); (case k4 => k_is); (case k5 => k_is); (case k6 => k_is); (case k7 => k_get); k_whole
  | refine' method_getS ?k1 ?k2 ?_; (case k1 => k_asm); (case k2 => k_mem); k_whole)))
local macro_rules | `(tactic| k_all) => `(tactic| exact far_of (by assumption) (by omega))
local macro_rules | `(tactic| walk_at "call builtin:dict.get") => `(tactic| (k_here; k_dflt (refine' getS_miss ?k1 ?k2 ?k3 ?k4 ?k5 ?_; (case k1 => k_asm); (case k2 => k_mem); (case k3 => k_keys); (case k4 => k_get); (case k5 => k_asm); k_whole)))
local macro_rules | `(tactic| walk_at "setItem ref str") => `(tactic| (k_here; k_dflt (refine' setS_new ?k1 ?k2 ?k3 ?k4 ?k5 ?k6 ?_; (case k1 => k_asm); (case k2 => k_asm); (case k6 => k_upd); (case k3 => k_keys); (case k4 => k_get); (case k5 => (rw [sizeLine_eq]; exact Nat.le_of_ble_eq_true (by with_unfolding_all rfl))); k_whole; intro h' F' N'; (try dsimp only [List.cons_append, List.nil_append] at N'); (try k_sweep))))
local macro_rules | `(tactic| walk_at "call builtin:dict.clear") => `(tactic| (k_here; k_dflt (refine' clear_K (knd := PySem.strKind _ _) ?k1 ?k2 ?k3 ?k4 ?_; (case k1 => k_asm); (case k2 => k_asm); (case k3 => k_updF); (case k4 => assumption); k_whole; intro h' o' F' N' hd'; (try dsimp only [List.cons_append, List.nil_append] at N'); (try k_sweep))))
local macro_rules | `(tactic| k_all) => `(tactic| ((repeat (first | exact far_of (allLt_all (by with_reducible assumption)) (by omega) | exact far_of (allLt_all (And.right (by with_reducible assumption))) (by omega) | exact far_of (allLt_all (And.right (And.right (by with_reducible assumption)))) (by omega) | exact far_of (allLt_all (And.right (And.right (And.right (by with_reducible assumption))))) (by omega) | exact far_of (allLt_all (And.right (And.right (And.right (And.right (by with_reducible assumption)))))) (by omega) | exact far_of (allLt_all (And.right (And.right (And.right (And.right (And.right (by with_reducible assumption))))))) (by omega) | exact far_of (allLt_all (And.right (And.right (And.right (And.right (And.right (And.right (by with_reducible assumption)))))))) (by omega) | exact far_of (allLt_all (And.right (And.right (And.right (And.right (And.right (And.right (And.right (by with_reducible assumption))))))))) (by omega) | exact far_of (allLt_all (And.right (And.right (And.right (And.right (And.right (And.right (And.right (And.right (by with_reducible assumption)))))))))) (by omega) | exact far_of (allLt_all (And.right (And.right (And.right (And.right (And.right (And.right (And.right (And.right (And.right (by with_reducible assumption))))))))))) (by omega) | (rename _ ∧ _ => kZ; clear kZ))); done))
local macro_rules | `(tactic| k_all) => `(tactic| assumption)
local macro_rules | `(tactic| walk_at "subscriptTail") => `(tactic| (k_here; k_dflt (refine kda_item (knd := PySem.intKind _ _) (by k_asm) (by k_mem) (by k_asm) (intKind_is _ _ _ _) (by first | assumption | exact valueAt_stored_self _ _ _) ?_)))
local macro_rules | `(tactic| walk_at "compareOp NotIn int ref") => `(tactic| (k_here; k_dflt (first
  | refine kdg_notin (knd := PySem.intKind _ _) (by k_asm) (by k_mem) (by k_asm) (by k_asm) (intKind_is _ _ _ _) true (by assumption) ?_
  | refine kdg_notin (knd := PySem.intKind _ _) (by k_asm) (by k_mem) (by k_asm) (by k_asm) (intKind_is _ _ _ _) false (by assumption) ?_); (try dsimp only [Bool.not_true, Bool.not_false])))
local macro_rules | `(tactic| walk_at "setItem ref int") => `(tactic| (k_here; k_dflt (refine' kda_set (knd := PySem.intKind _ _) ?F ?N ?U ?d (intKind_is _ _ _ _) ?z ?_; (case F => k_asm); (case N => k_asm); (case U => k_updF); (case d => k_asm); (case z => assumption)); intro h' o' F' N' hd'; (try dsimp only at N')))
local macro_rules | `(tactic| walk_at "getItem ref int") => `(tactic| (k_here; k_dflt (refine kdt_getItem (knd := PySem.intKind _ _) (by k_asm) (by k_mem) (by k_asm) (intKind_is _ _ _ _) (by first | assumption | exact valueAt_stored_self _ _ _) ?_)))
local macro_rules | `(tactic| walk_at "call type:range") => `(tactic| (k_here; k_dflt (first | refine range1_K (by k_asm) (by k_asm) ?_ | refine range2_K (by k_asm) (by k_asm) ?_); intro r' h' tk' t1' u1' v1' F' N' l1'; (try k_lt l1')))
local macro_rules | `(tactic| walk_at "call type:zip") => `(tactic| (k_here; k_dflt (refine' zip_K ?k1 ?k2 ?k3 ?k4 ?k5 ?k6 ?_; (case k1 => k_asm); (case k2 => k_asm); (case k3 => exact News.get (by k_asm) (by k_mem)); (case k4 => assumption); (case k5 => with_reducible assumption); (case k6 => with_reducible assumption); k_whole); intro z' h' F' N' Z'))
local macro_rules | `(tactic| walk_at "call type:dict") => `(tactic| (k_here; k_dflt (refine' dict_zip_K ?k0 ?k1 ?k2 ?k3 ?k4 ?k5 ?k6 ?k7 ?_; (case k0 => rfl); (case k1 => k_asm); (case k2 => k_asm); (case k3 => exact modules_low (Top.nolimit (by k_asm))); (case k4 => assumption); (case k5 => exact rep_size _ _); (case k6 => exact rep_get _ _); (case k7 => (rw [sizeLine_eq]; omega)); k_whole); intro h' tk' o' F' N' l1' lo' hd'; (try k_lt l1')))
local macro_rules | `(tactic| walk_at "getAttr ref") => `(tactic| (k_here; (with_reducible show wpAny _ _ (getAttr (Value.ref _) (Str.ofString "__dict__") _) _ _ _); k_dflt (refine' a_getDictS (K := Mine.LawTop.hd.heap_39 _) (C := 617) ?F ?X ?N ?h1 ?h2 ?a1 ?a2 ?a3 ?a4 ?a5 ?a6 ?a7 ?a8 ?a9 ?_; (case F => k_asm); (case X => k_asm); (case N => k_asm); (case h1 => k_mem); (case h2 => k_mem); (case a1 => k_is); (case a2 => k_is); (case a3 => k_is); (case a4 => k_is); (case a5 => k_is); (case a6 => k_is); (case a7 => k_is); (case a8 => k_is); (case a9 => k_is); k_whole); intro h' F' N'; (try k_sweep)))
local macro_rules | `(tactic| k_ne) => `(tactic| (refine neN ?_; (try dsimp only); first | with_reducible assumption | (refine Ne.symm ?_; with_reducible assumption)))
theorem nodes_first {w : World} {p : Program} {loose : List Str} {mean : ExcName → Option Value} {mg mb : Str → Option Value} {dp un : Nat} {gd : Option (List Code)} {cn : Str} {nm} {ig ic : Bool} {mo : List (Str × Const)} {a : Addr} {ccd : Value} {cl : List (Str × Addr)} {outer : List Env} {A₀ : Around} {base h₀ : Heap} {L : Addr} {m : Str → Option Value} {news : List (Addr × Obj)} {s : Shared}
    {Q E : Value → Shared → Prop} {x d ag an aa : Nat} {t0 t1 t2 t3 : Tok} :
    Below A₀ base outer h₀ → Fr h₀ L s.heap m → (Mine.LawTop.hd.heap_39 w.params).In h₀ → News h₀ L s.heap ((x, instObj 617 d) :: (d, dictS [kE w "graph" t0 ag, kE w "_node" t1 an, kE w "_adj" t2 aa, kE w "adj" t3 aa] 4) :: news) → Top p loose mean mg mb h₀ → dp + 10 < recursionLimit → un + 100 < cLine →
    @Ne Nat x d → (∀ p ∈ news, p.1 ≠ d) → (d == sysModules) = false →
    (∀ h' tk nv nd, Fr h₀ L h' m → News h₀ L h' ((nv, nvObj nd an) :: (nd, dictOf [] 0) :: (x, instObj 617 d) :: (d, dictS [kE w "graph" t0 ag, kE w "_node" t1 an, kE w "_adj" t2 aa, kE w "adj" t3 aa, kE w "nodes" 777 nv] 5) :: news) → @LT.lt Nat _ nd nv → @LT.lt Nat _ x nd → @LT.lt Nat _ d nd → (∀ p ∈ news, @LT.lt Nat _ p.1 nd) → Q (.ref nv) { s with heap := h', toks := tk }) →
    wpAny (model PySem.Challenge.rw_ez0195_01.row.prog w) (ktrTop dp un gd cn (csF nm ig ic mo) L a ccd cl outer) (call (.ref 309) [.ref 456, .ref x, .ref 617] []) Q E s := by
  k_fill
  intro B F X N T hd hu hxd r1 g4 done
  k_steps
  rename (_ ∧ _) => l1
  exact done _ _ _ _ (by assumption) (by assumption) (by omega) l1.1 l1.2.1 (allLt_all l1.2.2)
theorem nodes_at {w : World} {p : Program} {loose : List Str} {mean : ExcName → Option Value} {mg mb : Str → Option Value} {dp un : Nat} {gd : Option (List Code)} {cn : Str} {nm} {ig ic : Bool} {mo : List (Str × Const)} {a : Addr} {ccd : Value} {cl : List (Str × Addr)} {outer : List Env} {A₀ : Around} {base h₀ : Heap} {L : Addr} {m : Str → Option Value} {news : List (Addr × Obj)} {s : Shared}
    {Q E : Value → Shared → Prop} {x d ag an aa : Nat} {t0 t1 t2 t3 : Tok} {g : Obj → List (Addr × Obj)} :
    Below A₀ base outer h₀ → Fr h₀ L s.heap m → (Mine.LawTop.hd.heap_39 w.params).In h₀ → News h₀ L s.heap news → Top p loose mean mg mb h₀ → dp + 10 < recursionLimit → un + 100 < cLine →
    (x, instObj 617 d) ∈ news → UpdF d (dictS [kE w "graph" t0 ag, kE w "_node" t1 an, kE w "_adj" t2 aa, kE w "adj" t3 aa] 4) news g → @Ne Nat x d → (d == sysModules) = false →
    (∀ h' tk nv nd, Fr h₀ L h' m → News h₀ L h' ((nv, nvObj nd an) :: (nd, dictOf [] 0) :: g (dictS [kE w "graph" t0 ag, kE w "_node" t1 an, kE w "_adj" t2 aa, kE w "adj" t3 aa, kE w "nodes" 777 nv] 5)) → @LT.lt Nat _ nd nv → (∀ p ∈ news, @LT.lt Nat _ p.1 nd) → Q (.ref nv) { s with heap := h', toks := tk }) →
    wpAny (model PySem.Challenge.rw_ez0195_01.row.prog w) (ktrTop dp un gd cn (csF nm ig ic mo) L a ccd cl outer) (call (.ref 309) [.ref 456, .ref x, .ref 617] []) Q E s := by
  intro B F X N T hd hu hx U hne hs done
  obtain ⟨pre, post, rfl, hg, a1, a2⟩ := U.split
  have N' : News h₀ L s.heap ((x, instObj 617 d) :: (d, dictS [kE w "graph" t0 ag, kE w "_node" t1 an, kE w "_adj" t2 aa, kE w "adj" t3 aa] 4) :: (pre ++ post)) := News.perm N fun p hp => by
    simp only [List.mem_cons, List.mem_append] at hp ⊢
    rcases hp with e | e | e | e
    · rw [e]; simpa using hx
    · exact .inr (.inl e)
    · exact .inl e
    · exact .inr (.inr e)
  refine nodes_first B F X N' T hd hu hne (fun p hp => (List.mem_append.mp hp).elim (a1 p) (a2 p)) hs fun h' tk nv nd F' N' l1 l2 l3 l4 => done h' tk nv nd F' ?_ l1 fun p hp => ?_
  · rw [hg]
    refine News.perm N' fun p hp => ?_
    simp only [List.mem_cons, List.mem_append] at hp ⊢
    rcases hp with e | e | e | e | e
    · exact .inl e
    · exact .inr (.inl e)
    · exact .inr (.inr (.inr (.inr (.inl e))))
    · exact .inr (.inr (.inr (.inl e)))
    · exact .inr (.inr (.inr (.inr (.inr e))))
  · simp only [List.mem_cons, List.mem_append] at hp
    rcases hp with e | e | e
    · exact l4 p (List.mem_append_left _ e)
    · rw [e]; exact l3
    · exact l4 p (List.mem_append_right _ e)
end Mine
end
section
open PySem PySem.W PySem.Calls PyProof.Rows
set_option maxRecDepth 100000
set_option maxHeartbeats 4000000
namespace Mine
theorem fresh_E7 : True := by
  w_top off
  trivial
local macro_rules | `(tactic| k_room) => `(tactic| ktr_room)
local macro_rules | `(tactic| walk_at "getAttr ref") => `(tactic| (k_here; k_dflt (first
  | refine' get_ownS ?k1 ?k2 ?k3 ?k4 ?k5 ?k6 ?k7 ?k8 ?k9 ?_; (case k1 => k_asm); (case k2 => k_asm); (case k3 => k_inst); (case k4 => k_is); (case k5 => k_is); (case k6 => k_is); (case k7 => k_is); (case k8 => k_get); (case k9 => k_handed); k_whole
  | refine' get_ownD ?k1 ?k2 ?k3 ?k4 ?k5 ?k6 ?k7 ?kt ?k8 ?k9 ?_; (case k1 => k_asm); (case k2 => k_asm); (case k3 => k_inst); (case k4 => k_is); (case k5 => k_is); (case k6 => k_is); (case k7 => k_is); (case kt => k_is); (case k8 => k_get); (case k9 => k_handed); k_whole)))
local macro_rules | `(tactic| walk_at "getMethod ref") => `(tactic| (k_here; k_dflt (first
  | refine' method_instS ?k1 ?k2 ?k3 ?k4 ?k5 ?k6 ?k7 ?_; (case k1 => k_asm); (case k2 => k_asm); (case k3 => k_inst); (case k4 => k_is); (case k5 => k_is); (case k6 => k_is); (case k7 => k_get); k_whole
  | refine' method_getS ?k1 ?k2 ?_; (case k1 => k_asm); (case k2 => k_mem); k_whole)))
local macro_rules | `(tactic| k_all) => `(tactic| exact far_of (by assumption) (by omega))
local macro_rules | `(tactic| walk_at "call builtin:dict.get") => `(tactic| (k_here; k_dflt (refine' getS_miss ?k1 ?k2 ?k3 ?k4 ?k5 ?_; (case k1 => k_asm); (case k2 => k_mem); (case k3 => k_keys); (case k4 => k_get); (case k5 => k_asm); k_whole)))
local macro_rules | `(tactic| walk_at "setItem ref str") => `(tactic| (k_here; k_dflt (refine' setS_new ?k1 ?k2 ?k3 ?k4 ?k5 ?k6 ?_; (case k1 => k_asm); (case k2 => k_asm); (case k6 => k_upd); (case k3 => k_keys); (case k4 => k_get); (case k5 => (rw [sizeLine_eq]; exact Nat.le_of_ble_eq_true (by with_unfolding_all rfl))); k_whole; intro h' F' N'; (try dsimp only [List.cons_append, List.nil_append] at N'); (try k_sweep))))
local macro_rules | `(tactic| walk_at "call builtin:dict.clear") => `(tactic| (k_here; k_dflt (refine' clear_K (knd := PySem.strKind _ _) ?k1 ?k2 ?k3 ?k4 ?_; (case k1 => k_asm); (case k2 => k_asm); (case k3 => k_updF); (case k4 => assumption); k_whole; intro h' o' F' N' hd'; (try dsimp only [List.cons_append, List.nil_append] at N'); (try k_sweep))))
local macro_rules | `(tactic| k_all) => `(tactic| ((repeat (first | exact far_of (allLt_all (by with_reducible assumption)) (by omega) | exact far_of (allLt_all (And.right (by with_reducible assumption))) (by omega) | exact far_of (allLt_all (And.right (And.right (by with_reducible assumption)))) (by omega) | exact far_of (allLt_all (And.right (And.right (And.right (by with_reducible assumption))))) (by omega) | exact far_of (allLt_all (And.right (And.right (And.right (And.right (by with_reducible assumption)))))) (by omega) | exact far_of (allLt_all (And.right (And.right (And.right (And.right (And.right (by with_reducible assumption))))))) (by omega) | exact far_of (allLt_all (And.right (And.right (And.right (And.right (And.right (And.right (by with_reducible assumption)))))))) (by omega) | exact far_of (allLt_all (And.right (And.right (And.right (And.right (And.right (And.right (And.right (by with_reducible assumption))))))))) (by omega) | exact far_of (allLt_all (And.right (And.right (And.right (And.right (And.right (And.right (And.right (And.right (by with_reducible assumption)))))))))) (by omega) | exact far_of (allLt_all (And.right (And.right (And.right (And.right (And.right (And.right (And.right (And.right (And.right (by with_reducible assumption))))))))))) (by omega) | (rename _ ∧ _ => kZ; clear kZ))); done))
local macro_rules | `(tactic| k_all) => `(tactic| assumption)
local macro_rules | `(tactic| walk_at "subscriptTail") => `(tactic| (k_here; k_dflt (refine kda_item (knd := PySem.intKind _ _) (by k_asm) (by k_mem) (by k_asm) (intKind_is _ _ _ _) (by first | assumption | exact valueAt_stored_self _ _ _) ?_)))
local macro_rules | `(tactic| walk_at "compareOp NotIn int ref") => `(tactic| (k_here; k_dflt (first
  | refine kdg_notin (knd := PySem.intKind _ _) (by k_asm) (by k_mem) (by k_asm) (by k_asm) (intKind_is _ _ _ _) true (by assumption) ?_
  | refine kdg_notin (knd := PySem.intKind _ _) (by k_asm) (by k_mem) (by k_asm) (by k_asm) (intKind_is _ _ _ _) false (by assumption) ?_); (try dsimp only [Bool.not_true, Bool.not_false])))
local macro_rules | `(tactic| walk_at "setItem ref int") => `(tactic| (k_here; k_dflt (refine' kda_set (knd := PySem.intKind _ _) ?F ?N ?U ?d (intKind_is _ _ _ _) ?z ?_; (case F => k_asm); (case N => k_asm); (case U => k_updF); (case d => k_asm); (case z => assumption)); intro h' o' F' N' hd'; (try dsimp only at N')))
local macro_rules | `(tactic| walk_at "getItem ref int") => `(tactic| (k_here; k_dflt (refine kdt_getItem (knd := PySem.intKind _ _) (by k_asm) (by k_mem) (by k_asm) (intKind_is _ _ _ _) (by first | assumption | exact valueAt_stored_self _ _ _) ?_)))
local macro_rules | `(tactic| walk_at "call type:range") => `(tactic| (k_here; k_dflt (first | refine range1_K (by k_asm) (by k_asm) ?_ | refine range2_K (by k_asm) (by k_asm) ?_); intro r' h' tk' t1' u1' v1' F' N' l1'; (try k_lt l1')))
local macro_rules | `(tactic| walk_at "call type:zip") => `(tactic| (k_here; k_dflt (refine' zip_K ?k1 ?k2 ?k3 ?k4 ?k5 ?k6 ?_; (case k1 => k_asm); (case k2 => k_asm); (case k3 => exact News.get (by k_asm) (by k_mem)); (case k4 => assumption); (case k5 => with_reducible assumption); (case k6 => with_reducible assumption); k_whole); intro z' h' F' N' Z'))
local macro_rules | `(tactic| walk_at "call type:dict") => `(tactic| (k_here; k_dflt (refine' dict_zip_K ?k0 ?k1 ?k2 ?k3 ?k4 ?k5 ?k6 ?k7 ?_; (case k0 => rfl); (case k1 => k_asm); (case k2 => k_asm); (case k3 => exact modules_low (Top.nolimit (by k_asm))); (case k4 => assumption); (case k5 => exact rep_size _ _); (case k6 => exact rep_get _ _); (case k7 => (rw [sizeLine_eq]; omega)); k_whole); intro h' tk' o' F' N' l1' lo' hd'; (try k_lt l1')))
local macro_rules | `(tactic| walk_at "getAttr ref") => `(tactic| (k_here; (with_reducible show wpAny _ _ (getAttr (Value.ref _) (Str.ofString "__dict__") _) _ _ _); k_dflt (refine' a_getDictS (K := Mine.LawTop.hd.heap_39 _) (C := 617) ?F ?X ?N ?h1 ?h2 ?a1 ?a2 ?a3 ?a4 ?a5 ?a6 ?a7 ?a8 ?a9 ?_; (case F => k_asm); (case X => k_asm); (case N => k_asm); (case h1 => k_mem); (case h2 => k_mem); (case a1 => k_is); (case a2 => k_is); (case a3 => k_is); (case a4 => k_is); (case a5 => k_is); (case a6 => k_is); (case a7 => k_is); (case a8 => k_is); (case a9 => k_is); k_whole); intro h' F' N'; (try k_sweep)))
local macro_rules | `(tactic| walk_at "getAttr ref") => `(tactic| (k_here; (with_reducible show wpAny _ _ (getAttr (Value.ref _) (Str.ofString "nodes") _) _ _ _); k_dflt (refine' get_bind (K := Mine.LawTop.hd.heap_39 _) (C := 617) ?X ?I ?ga ?f ?k ?_; (case X => k_in); (case I => k_inst); (case ga => k_is); (case f => (refine' findObj_ndata ?a1 ?a2 ?a3 ?a4 ?a5 ?a6; (case a1 => k_is); (case a2 => k_is); (case a3 => k_is); (case a4 => k_is); (case a5 => decide +kernel); (case a6 => (rw [lookIn_dict']; k_get)))); (case k => k_is)); walk_say "NODES"))
local macro_rules | `(tactic| walk_at "call ref") => `(tactic| (k_here; (with_reducible show wpAny _ _ (call (Value.ref 309) _ _) _ _ _); k_dflt (refine' nodes_at ?h1 ?h2 ?h3 ?h4 ?h5 ?h6 ?h7 ?h8 ?h9 ?h10 ?h11 ?_; (case h1 => k_asm); (case h2 => k_asm); (case h3 => k_asm); (case h4 => k_asm); (case h5 => k_asm); (case h6 => ktr_room); (case h7 => ktr_units); (case h8 => k_mem); (case h9 => k_updF); (case h10 => omega); (case h11 => k_asm); k_whole); intro h' tk' nv' nd' F' N' l1' l2'; (try dsimp only at N'); (try k_sweep); (try k_lt l2'); refine handed_K ?_; walk_say "CONTRACT nodes"))
local macro_rules | `(tactic| walk_at "getMethod ref") => `(tactic| (k_here; (with_reducible show wpAny _ _ (getMethod (Value.ref _) (Str.ofString "items") _) _ _ _); k_dflt (refine method_items (knd := PySem.intKind _ _) (by k_asm) (by k_mem) (by k_asm) ?_)))
local macro_rules | `(tactic| walk_at "call builtin:dict.items") => `(tactic| (k_here; k_dflt (refine' items_K (knd := PySem.intKind _ _) ?k1 ?k2 ?k3 ?k4 ?k5 ?_; (case k1 => k_asm); (case k2 => k_asm); (case k3 => k_mem); (case k4 => k_asm); (case k5 => k_asm); k_whole); intro vw' h' V' F' N'))
local macro_rules | `(tactic| walk_at "compareOp In int ref") => `(tactic| (k_here; k_dflt (first
  | refine kda_in (knd := PySem.intKind _ _) (by k_asm) (by k_mem) (by k_asm) (by k_asm) (intKind_is _ _ _ _) true (by assumption) ?_
  | refine kda_in (knd := PySem.intKind _ _) (by k_asm) (by k_mem) (by k_asm) (by k_asm) (intKind_is _ _ _ _) false (by assumption) ?_)))
local macro_rules | `(tactic| walk_at "call builtin:isinstance") => `(tactic| (k_here; (with_reducible show wpAny _ _ (call _ [Value.ref _, Value.type _]) _ _ _); k_dflt (refine isinst_dict (knd := PySem.intKind _ _) (by k_asm) (by k_mem) (by k_asm) ?_)))
local macro_rules | `(tactic| walk_at "setItem ref str") => `(tactic| (k_here; k_dflt (refine' kda_set (knd := PySem.strKind _ _) (kvs := []) ?F ?N ?U ?d (strKind_is _ _ _ _) ?z ?_; (case F => k_asm); (case N => k_asm); (case U => k_updF); (case d => k_asm); (case z => exact Nat.zero_le _)); intro h' o' F' N' hd'; (try dsimp only at N')))
local macro_rules | `(tactic| k_ne) => `(tactic| (refine neN ?_; (try dsimp only); first | with_reducible assumption | (refine Ne.symm ?_; with_reducible assumption)))
theorem set_attrs {w : World} {p : Program} {loose : List Str} {mean : ExcName → Option Value} {mg mb : Str → Option Value} {dp un : Nat} {gd : Option (List Code)} {cn : Str} {nm} {ig ic : Bool} {mo : List (Str × Const)} {a : Addr} {ccd : Value} {cl : List (Str × Addr)} {outer : List Env} {A₀ : Around} {base h₀ : Heap} {L : Addr} {m : Str → Option Value} {S G : List (Addr × Obj)} {s : Shared}
    {Q E : Value → Shared → Prop} {x d ag an aa b : Nat} {ob : Obj} {t0 t1 t2 t3 tb : Tok} {n : Nat} {f : Nat → Nat} {vals : Nat → Value} :
    Below A₀ base outer h₀ → Fr h₀ L s.heap m → (Mine.LawTop.hd.heap_39 w.params).In h₀ → News h₀ L s.heap (S ++ G) → Top p loose mean mg mb h₀ → dp + 20 < recursionLimit → un + 200 < cLine →
    (b, ob) ∈ S → ob.IsDictOf (PySem.intKind PySem.Challenge.rw_ez0195_01.row.prog w) (rows n vals) → (b == sysModules) = false → n ≤ 60 → 1 ≤ n →
    Apart S G → GI PySem.Challenge.rw_ez0195_01.row.prog w G x d ag an aa [kE w "graph" t0 ag, kE w "_node" t1 an, kE w "_adj" t2 aa, kE w "adj" t3 aa] 4 f n (fun _ => []) (fun _ => []) [] →
    (∀ h' tk G' nv, Fr h₀ L h' m → News h₀ L h' (S ++ G') → Apart S G' → GI PySem.Challenge.rw_ez0195_01.row.prog w G' x d ag an aa [kE w "graph" t0 ag, kE w "_node" t1 an, kE w "_adj" t2 aa, kE w "adj" t3 aa, kE w "nodes" 777 nv] 5 f n (fun _ => []) (fun v => [(Str.ofString "bipartite", vals v)]) [] → Q .none { s with heap := h', toks := tk }) →
    wpAny (model PySem.Challenge.rw_ez0195_01.row.prog w) (ktrTop dp un gd cn (csF nm ig ic mo) L a ccd cl outer) (call (.ref 639) [.ref x, .ref b, .str (Str.ofString "bipartite") tb] []) Q E s := by
  k_fill
  intro B F X N T hd hu hb hob hbs hn h1n ap gi done
  have hbm := List.mem_append_left G hb
  k_steps
  refine' for_pair (hs := ?hs) ?_
  case hs => intro _; rfl
  k_steps
  rename ItemsView _ _ _ => V1
  rename Top _ _ _ _ _ _ => T1
  rename Frag.In _ _ => X1
  rename_i g' L' h1 FG F1 N1 B1 vw h2 F2 N2
  refine' loop_items (knd := PySem.intKind _ _) [] (fun i u n' => ∃ G', n' = S ++ G' ∧ Apart S G' ∧ ((i = 0 ∧ GI PySem.Challenge.rw_ez0195_01.row.prog w G' x d ag an aa [kE w "graph" t0 ag, kE w "_node" t1 an, kE w "_adj" t2 aa, kE w "adj" t3 aa] 4 f n (fun _ => []) (fun _ => []) []) ∨ (0 < i ∧ ∃ nv nd, (nv, nvObj nd an) ∈ G' ∧ (nd, dictOf [] 0) ∈ G' ∧ (∀ k, k < 2 * n → f k ≠ nv ∧ f k ≠ nd) ∧ GI PySem.Challenge.rw_ez0195_01.row.prog w G' x d ag an aa [kE w "graph" t0 ag, kE w "_node" t1 an, kE w "_adj" t2 aa, kE w "adj" t3 aa, kE w "nodes" 777 nv] 5 f n (fun _ => []) (fun v => if v < i then [(Str.ofString "bipartite", vals v)] else []) []))) ?hh ?hxk ?hxv ?hp V1 ?hF ?hN ?hm ?hd ?h0 ?turn ?done ?hE
  case hh => rfl
  case hxk => exact rfl
  case hxv => exact rfl
  case hp => rfl
  case hF => k_asm
  case hN => k_asm
  case hm => exact hbm
  case hd => exact hob
  case h0 => exact ⟨G, rfl, ap, .inl ⟨rfl, gi⟩⟩
  case hE => passes_own
  case turn =>
    intro I i k key v u h tk oI news₁ hkv hkey hJ F4 N4 hnI hlt
    obtain ⟨hi, rfl, rfl⟩ := rows_get hkv
    obtain ⟨t, rfl⟩ := Value.isInt_shape hkey
    obtain ⟨G', rfl, apG, hJ⟩ := hJ
    clear N F ap gi hlt hkv hkey N1 N2 F1 F2 V1
    have NG : Uniq G' := fun hp hq e => News.uniq N4 (by simp [hp]) (by simp [hq]) e
    have hI4 : (I, oI) ∈ (I, oI) :: (b, ob) :: (S ++ G') := List.mem_cons_self
    have hS4 : ∀ p ∈ S ++ G', p ∈ (I, oI) :: (b, ob) :: (S ++ G') := fun p hp => List.mem_cons_of_mem _ (List.mem_cons_of_mem _ hp)
    rcases hJ with ⟨rfl, gi'⟩ | ⟨h0i, nv, nd, hnv, hnd, hfo, gi'⟩
    · obtain ⟨on, mn, dn⟩ := gi'.nod
      obtain ⟨o0, m0, d0⟩ := gi'.ndv 0 hi
      have hes : ∀ p ∈ [((f (2 * 0 + 1) : Addr), o0), (an, on), (x, instObj 617 d), (d, dictS [kE w "graph" t0 ag, kE w "_node" t1 an, kE w "_adj" t2 aa, kE w "adj" t3 aa] 4)], p ∈ G' := by
        intro p hp
        simp only [List.mem_cons, List.not_mem_nil, or_false] at hp
        rcases hp with e | e | e | e <;> rw [e]
        · exact m0
        · exact mn
        · exact gi'.inst
        · exact gi'.dict
      obtain ⟨R, hR⟩ : ∃ R, R = (I, oI) :: (S ++ rms G' [f (2 * 0 + 1), an, x, d]) := ⟨_, rfl⟩
      have N3 : News g' L' h (((f (2 * 0 + 1) : Addr), o0) :: (an, on) :: (x, instObj 617 d) :: (d, dictS [kE w "graph" t0 ag, kE w "_node" t1 an, kE w "_adj" t2 aa, kE w "adj" t3 aa] 4) :: R) := by rw [hR]; exact front_G N4 hI4 hS4 hes
      have rr : ∀ q ∈ [((f (2 * 0 + 1) : Addr), o0), (an, on), (x, instObj 617 d), (d, dictS [kE w "graph" t0 ag, kE w "_node" t1 an, kE w "_adj" t2 aa, kE w "adj" t3 aa] 4)], ∀ p ∈ R, p.1 ≠ q.1 := by rw [hR]; exact front_ne (oI := oI) hnI apG hes
      have r1 : ∀ p ∈ R, p.1 ≠ f (2 * 0 + 1) := rr (_, o0) (by simp)
      have r2 : ∀ p ∈ R, p.1 ≠ an := rr (_, on) (by simp)
      have r3 : ∀ p ∈ R, p.1 ≠ x := rr (x, instObj 617 d) (by simp)
      have r4 : ∀ p ∈ R, p.1 ≠ d := rr (d, dictS [kE w "graph" t0 ag, kE w "_node" t1 an, kE w "_adj" t2 aa, kE w "adj" t3 aa] 4) (by simp)
      have ho1 := gi'.off (2 * 0 + 1) (by omega)
      simp only [List.mem_cons, List.not_mem_nil, or_false, not_or] at ho1
      have hap := gi'.apart2
      have q1 : @Ne Nat (f (2 * 0 + 1)) an := ho1.2.2.2.1
      have q2 : @Ne Nat (f (2 * 0 + 1)) x := ho1.1
      have q3 : @Ne Nat (f (2 * 0 + 1)) d := ho1.2.1
      have q4 : @Ne Nat an x := fun e => hap.1.2.2.1 e.symm
      have q5 : @Ne Nat an d := fun e => hap.2.1.2.1 e.symm
      have q6 : @Ne Nat x d := hap.1.1
      have hva : valueAt (rows n fun v => .ref (f (2 * v + 1))) ((0 : Nat) : Int) = some (.ref (f (2 * 0 + 1))) := valueAt_rows hi
      have hvs : (valueAt (rows n fun v => .ref (f (2 * v + 1))) ((0 : Nat) : Int)).isSome = true := by rw [hva]; rfl
      have loan : (an == sysModules) = false := gi'.low _ (by simp)
      have lod : (d == sysModules) = false := gi'.low _ (by simp)
      clear N4 hap ho1 rr hes
      k_steps
      obtain ⟨G'', n1, n2, n3, n4, n5, n6, n7⟩ := set_end0 gi' hi apG hnI hb NG hR mn (by assumption) (by assumption) (by assumption) (by assumption)
      refine ⟨_, _, _, _, rfl, by assumption, n1, n2, ?_, G'', rfl, n3, .inr ⟨by omega, _, _, n4, n5, n6, ?_⟩⟩
      · intro y h1 h2 h3
        simp [h1, h2]
      · have e : (fun v => if v < 0 + 1 then [(Str.ofString "bipartite", vals v)] else []) = fun u => if u = 0 then [(Str.ofString "bipartite", vals 0)] else [] := by
          funext v
          by_cases q : v = 0
          · simp [q]
          · have : ¬ v < 0 + 1 := by omega
            simp [q]
        rw [e]
        exact n7
    · obtain ⟨on, mn, dn⟩ := gi'.nod
      obtain ⟨o0, m0, d0⟩ := gi'.ndv i hi
      have hes : ∀ p ∈ [((f (2 * i + 1) : Addr), o0), (an, on), (x, instObj 617 d), (d, dictS [kE w "graph" t0 ag, kE w "_node" t1 an, kE w "_adj" t2 aa, kE w "adj" t3 aa, kE w "nodes" 777 nv] 5), (nv, nvObj nd an), (nd, dictOf [] 0)], p ∈ G' := by
        intro p hp
        simp only [List.mem_cons, List.not_mem_nil, or_false] at hp
        rcases hp with e | e | e | e | e | e <;> rw [e]
        · exact m0
        · exact mn
        · exact gi'.inst
        · exact gi'.dict
        · exact hnv
        · exact hnd
      obtain ⟨R, hR⟩ : ∃ R, R = (I, oI) :: (S ++ rms G' [f (2 * i + 1), an, x, d, nv, nd]) := ⟨_, rfl⟩
      have N3 : News g' L' h (((f (2 * i + 1) : Addr), o0) :: (an, on) :: (x, instObj 617 d) :: (d, dictS [kE w "graph" t0 ag, kE w "_node" t1 an, kE w "_adj" t2 aa, kE w "adj" t3 aa, kE w "nodes" 777 nv] 5) :: (nv, nvObj nd an) :: (nd, dictOf [] 0) :: R) := by rw [hR]; exact front_G N4 hI4 hS4 hes
      have rr : ∀ q ∈ [((f (2 * i + 1) : Addr), o0), (an, on), (x, instObj 617 d), (d, dictS [kE w "graph" t0 ag, kE w "_node" t1 an, kE w "_adj" t2 aa, kE w "adj" t3 aa, kE w "nodes" 777 nv] 5), (nv, nvObj nd an), (nd, dictOf [] 0)], ∀ p ∈ R, p.1 ≠ q.1 := by rw [hR]; exact front_ne (oI := oI) hnI apG hes
      have r1 : ∀ p ∈ R, p.1 ≠ f (2 * i + 1) := rr (_, o0) (by simp)
      have ho1 := gi'.off (2 * i + 1) (by omega)
      simp only [List.mem_cons, List.not_mem_nil, or_false, not_or] at ho1
      have q1 : @Ne Nat (f (2 * i + 1)) an := ho1.2.2.2.1
      have q2 : @Ne Nat (f (2 * i + 1)) x := ho1.1
      have q3 : @Ne Nat (f (2 * i + 1)) d := ho1.2.1
      have q4 : @Ne Nat (f (2 * i + 1)) nv := (hfo _ (by omega)).1
      have q5 : @Ne Nat (f (2 * i + 1)) nd := (hfo _ (by omega)).2
      have hva : valueAt (rows n fun v => .ref (f (2 * v + 1))) (i : Int) = some (.ref (f (2 * i + 1))) := valueAt_rows hi
      have hvs : (valueAt (rows n fun v => .ref (f (2 * v + 1))) (i : Int)).isSome = true := by rw [hva]; rfl
      have hB : (if i < i then [(Str.ofString "bipartite", vals i)] else []) = ([] : List (Str × Value)) := if_neg (Nat.lt_irrefl i)
      rw [hB] at d0
      have loan : (an == sysModules) = false := gi'.low _ (by simp)
      clear N4 ho1 rr hB hes
      k_steps
      obtain ⟨G'', n1, n2, n3, n4, n5, n7⟩ := set_end1 gi' hi apG hnI hb NG hR mn hnv hnd (by assumption) (by assumption)
      refine ⟨_, _, _, _, rfl, by assumption, n1, n2, ?_, G'', rfl, n3, .inr ⟨by omega, _, _, n4, n5, hfo, ?_⟩⟩
      · intro y h1 h2 h3
        simp [h1, h2]
      · have e : (fun v => if v < i + 1 then [(Str.ofString "bipartite", vals v)] else []) = fun u => if u = i then [(Str.ofString "bipartite", vals i)] else if u < i then [(Str.ofString "bipartite", vals u)] else [] := by
          funext v
          by_cases q : v = i
          · simp [q]
          · by_cases q' : v < i
            · have : v < i + 1 := by omega
              simp [q, q', this]
            · have : ¬ v < i + 1 := by omega
              simp [q, q', this]
        rw [e]
        exact n7
  intro u h tk news' hJ F' N'
  obtain ⟨G', rfl, apG, hJ⟩ := hJ
  rw [rows_length] at hJ
  rcases hJ with ⟨e, _⟩ | ⟨_, nv, nd, hnv, hnd, hfo, gi'⟩
  · omega
  · k_steps
    refine done _ _ G' nv (by assumption) (by assumption) apG ?_
    exact GI.congrB gi' fun v hv => if_pos hv
end Mine
end
section
open PySem PySem.W PySem.Calls PyProof.Rows
set_option maxRecDepth 100000
set_option maxHeartbeats 4000000
namespace Mine
theorem fresh_E5 : True := by
  w_top off
  trivial
local macro_rules | `(tactic| k_room) => `(tactic| ktr_room)
local macro_rules | `(tactic| walk_at "getAttr ref") => `(tactic| (k_here; k_dflt (first
  | refine' get_ownS ?k1 ?k2 ?k3 ?k4 ?k5 ?k6 ?k7 ?k8 ?k9 ?_; (case k1 => k_asm); (case k2 => k_asm); (case k3 => k_inst); (case k4 => k_is); (case k5 => k_is); (case k6 => k_is); (case k7 => k_is); (case k8 => k_get); (case k9 => k_handed); k_whole
  | refine' get_ownD ?k1 ?k2 ?k3 ?k4 ?k5 ?k6 ?k7 ?kt ?k8 ?k9 ?_; (case k1 => k_asm); (case k2 => k_asm); (case k3 => k_inst); (case k4 => k_is); (case k5 => k_is); (case k6 => k_is); (case k7 => k_is); (case kt => k_is); (case k8 => k_get); (case k9 => k_handed); k_whole)))
local macro_rules | `(tactic| walk_at "getMethod ref") => `(tactic| (k_here; k_dflt (first
  | refine' method_instS ?k1 ?k2 ?k3 ?k4 ?k5 ?k6 ?k7 ?_; (case k1 => k_asm); (case k2 => k_asm); (case k3 => k_inst); (case k4 => k_is); (case k5 => k_is); (case k6 => k_is); (case k7 => k_get); k_whole
  | refine' method_getS ?k1 ?k2 ?_; (case k1 => k_asm); (case k2 => k_mem); k_whole)))
local macro_rules | `(tactic| k_all) => `(tactic| exact far_of (by assumption) (by omega))
local macro_rules | `(tactic| walk_at "call builtin:dict.get") => `(tactic| (k_here; k_dflt (refine' getS_miss ?k1 ?k2 ?k3 ?k4 ?k5 ?_; (case k1 => k_asm); (case k2 => k_mem); (case k3 => k_keys); (case k4 => k_get); (case k5 => k_asm); k_whole)))
local macro_rules | `(tactic| walk_at "setItem ref str") => `(tactic| (k_here; k_dflt (refine' setS_new ?k1 ?k2 ?k3 ?k4 ?k5 ?k6 ?_; (case k1 => k_asm); (case k2 => k_asm); (case k6 => k_upd); (case k3 => k_keys); (case k4 => k_get); (case k5 => (rw [sizeLine_eq]; exact Nat.le_of_ble_eq_true (by with_unfolding_all rfl))); k_whole; intro h' F' N'; (try dsimp only [List.cons_append, List.nil_append] at N'); (try k_sweep))))
local macro_rules | `(tactic| walk_at "call builtin:dict.clear") => `(tactic| (k_here; k_dflt (refine' clear_K (knd := PySem.strKind _ _) ?k1 ?k2 ?k3 ?k4 ?_; (case k1 => k_asm); (case k2 => k_asm); (case k3 => k_updF); (case k4 => assumption); k_whole; intro h' o' F' N' hd'; (try dsimp only [List.cons_append, List.nil_append] at N'); (try k_sweep))))
local macro_rules | `(tactic| k_all) => `(tactic| ((repeat (first | exact far_of (allLt_all (by with_reducible assumption)) (by omega) | exact far_of (allLt_all (And.right (by with_reducible assumption))) (by omega) | exact far_of (allLt_all (And.right (And.right (by with_reducible assumption)))) (by omega) | exact far_of (allLt_all (And.right (And.right (And.right (by with_reducible assumption))))) (by omega) | exact far_of (allLt_all (And.right (And.right (And.right (And.right (by with_reducible assumption)))))) (by omega) | exact far_of (allLt_all (And.right (And.right (And.right (And.right (And.right (by with_reducible assumption))))))) (by omega) | exact far_of (allLt_all (And.right (And.right (And.right (And.right (And.right (And.right (by with_reducible assumption)))))))) (by omega) | exact far_of (allLt_all (And.right (And.right (And.right (And.right (And.right (And.right (And.right (by with_reducible assumption))))))))) (by omega) | exact far_of (allLt_all (And.right (And.right (And.right (And.right (And.right (And.right (And.right (And.right (by with_reducible assumption)))))))))) (by omega) | exact far_of (allLt_all (And.right (And.right (And.right (And.right (And.right (And.right (And.right (And.right (And.right (by with_reducible assumption))))))))))) (by omega) | (rename _ ∧ _ => kZ; clear kZ))); done))
local macro_rules | `(tactic| k_all) => `(tactic| assumption)
local macro_rules | `(tactic| walk_at "subscriptTail") => `(tactic| (k_here; k_dflt (refine kda_item (knd := PySem.intKind _ _) (by k_asm) (by k_mem) (by k_asm) (intKind_is _ _ _ _) (by first | assumption | exact valueAt_stored_self _ _ _) ?_)))
local macro_rules | `(tactic| walk_at "compareOp NotIn int ref") => `(tactic| (k_here; k_dflt (first
  | refine kdg_notin (knd := PySem.intKind _ _) (by k_asm) (by k_mem) (by k_asm) (by k_asm) (intKind_is _ _ _ _) true (by assumption) ?_
  | refine kdg_notin (knd := PySem.intKind _ _) (by k_asm) (by k_mem) (by k_asm) (by k_asm) (intKind_is _ _ _ _) false (by assumption) ?_); (try dsimp only [Bool.not_true, Bool.not_false])))
local macro_rules | `(tactic| walk_at "setItem ref int") => `(tactic| (k_here; k_dflt (refine' kda_set (knd := PySem.intKind _ _) ?F ?N ?U ?d (intKind_is _ _ _ _) ?z ?_; (case F => k_asm); (case N => k_asm); (case U => k_updF); (case d => k_asm); (case z => assumption)); intro h' o' F' N' hd'; (try dsimp only at N')))
local macro_rules | `(tactic| walk_at "getItem ref int") => `(tactic| (k_here; k_dflt (refine kdt_getItem (knd := PySem.intKind _ _) (by k_asm) (by k_mem) (by k_asm) (intKind_is _ _ _ _) (by first | assumption | exact valueAt_stored_self _ _ _) ?_)))
local macro_rules | `(tactic| walk_at "call type:range") => `(tactic| (k_here; k_dflt (first | refine range1_K (by k_asm) (by k_asm) ?_ | refine range2_K (by k_asm) (by k_asm) ?_); intro r' h' tk' t1' u1' v1' F' N' l1'; (try k_lt l1')))
local macro_rules | `(tactic| walk_at "call type:zip") => `(tactic| (k_here; k_dflt (refine' zip_K ?k1 ?k2 ?k3 ?k4 ?k5 ?k6 ?_; (case k1 => k_asm); (case k2 => k_asm); (case k3 => exact News.get (by k_asm) (by k_mem)); (case k4 => assumption); (case k5 => with_reducible assumption); (case k6 => with_reducible assumption); k_whole); intro z' h' F' N' Z'))
local macro_rules | `(tactic| walk_at "call type:dict") => `(tactic| (k_here; k_dflt (refine' dict_zip_K ?k0 ?k1 ?k2 ?k3 ?k4 ?k5 ?k6 ?k7 ?_; (case k0 => rfl); (case k1 => k_asm); (case k2 => k_asm); (case k3 => exact modules_low (Top.nolimit (by k_asm))); (case k4 => assumption); (case k5 => exact rep_size _ _); (case k6 => exact rep_get _ _); (case k7 => (rw [sizeLine_eq]; omega)); k_whole); intro h' tk' o' F' N' l1' lo' hd'; (try k_lt l1')))
local macro_rules | `(tactic| walk_at "call ref") => `(tactic| (k_here; (with_reducible show wpAny _ _ (call (Value.ref 433) [Value.ref _, Value.ref _] []) _ _ _); k_dflt (refine' add_nodes_range (G := ‹List (Addr × Obj)›) ?h1 ?h2 ?h3 ?h4 ?h5 ?h6 ?h7 ?h8 ?h9 ?h10 ?_; (case h1 => k_asm); (case h2 => k_asm); (case h3 => k_asm); (case h4 => k_asm); (case h5 => k_asm); (case h6 => ktr_room); (case h7 => ktr_units); (case h8 => omega); (case h9 => assumption); (case h10 => assumption); k_whole); intro h' tk' G' f' F' N' ap' gi'; walk_say "CONTRACT add_nodes_range"))
local macro_rules | `(tactic| walk_at "getMethod ref") => `(tactic| (k_here; (with_reducible show wpAny _ _ (getMethod (Value.ref _) (Str.ofString "update") _) _ _ _); k_dflt (refine method_update (knd := PySem.intKind _ _) (by k_asm) (by k_mem) (by k_asm) ?_)))
local macro_rules | `(tactic| walk_at "call builtin:dict.update") => `(tactic| (k_here; k_dflt (refine' update_K (knd := PySem.intKind _ _) ?k1 ?k2 ?k3 ?k4 ?k5 ?k6 ?k7 ?k8 ?k9 ?_; (case k1 => k_asm); (case k2 => k_asm); (case k3 => k_updF); (case k4 => k_asm); (case k5 => k_mem); (case k6 => k_asm); (case k7 => omega); (case k8 => k_asm); (case k9 => (rw [sizeLine_eq]; simp only [rowsFrom_len]; omega)); k_whole); intro h' o' F' N' hd'; (try dsimp only at N')))
local macro_rules | `(tactic| walk_at "call ref") => `(tactic| (k_here; (with_reducible show wpAny _ _ (call (Value.ref 639) _ _) _ _ _); refine Stop.mk ?_))
local macro_rules | `(tactic| k_ne) => `(tactic| (refine neN ?_; (try dsimp only); first | with_reducible assumption | (refine Ne.symm ?_; with_reducible assumption)))
theorem label {w : World} {p : Program} {loose : List Str} {mean : ExcName → Option Value} {mg mb : Str → Option Value} {dp un : Nat} {gd : Option (List Code)} {cn : Str} {nm} {ig ic : Bool} {mo : List (Str × Const)} {a : Addr} {ccd : Value} {cl : List (Str × Addr)} {outer : List Env} {A₀ : Around} {base h₀ : Heap} {L : Addr} {m : Str → Option Value} {S G : List (Addr × Obj)} {s : Shared}
    {Q E : Value → Shared → Prop} {x d ag an aa : Nat} {t0 t1 t2 t3 t4 t5 : Tok} {na nb : Nat} {f : Nat → Nat} :
    Below A₀ base outer h₀ → Fr h₀ L s.heap m → (Mine.LawTop.hd.heap_39 w.params).In h₀ → News h₀ L s.heap (S ++ G) → Top p loose mean mg mb h₀ → dp + 30 < recursionLimit → un + 300 < cLine →
    1 ≤ na → na ≤ 20 → nb ≤ 20 → Apart S G → GI PySem.Challenge.rw_ez0195_01.row.prog w G x d ag an aa [kE w "graph" t0 ag, kE w "_node" t1 an, kE w "_adj" t2 aa, kE w "adj" t3 aa] 4 f 0 (fun _ => []) (fun _ => []) [] →
    (∀ h' tk G' f' nv ta tb, Fr h₀ L h' m → News h₀ L h' (S ++ G') → Apart S G' → GI PySem.Challenge.rw_ez0195_01.row.prog w G' x d ag an aa [kE w "graph" t0 ag, kE w "_node" t1 an, kE w "_adj" t2 aa, kE w "adj" t3 aa, kE w "nodes" 777 nv] 5 f' (na + nb) (fun _ => []) (fun v => [(Str.ofString "bipartite", if v < na then .int 0 ta else .int 1 tb)]) [] → Q (.ref x) { s with heap := h', toks := tk }) →
    wpAny (model PySem.Challenge.rw_ez0195_01.row.prog w) (ktrTop dp un gd cn (csF nm ig ic mo) L a ccd cl outer) (call (.ref 672) [.ref x, .int na t4, .int nb t5] []) Q E s := by
  k_fill
  intro B F X N T hd hu e0 e1 e2 ap gi done
  have ms := List.mem_append_right S gi.inst
  have md := List.mem_append_right S gi.dict
  have hsm1 : Builtin.Range.small 0 (na : Int) 1 = true := small_one (by omega) (by omega) (by omega) (by omega)
  have hsm2 : Builtin.Range.small (na : Int) ((na : Int) + (nb : Int)) 1 = true := small_one (by omega) (by omega) (by omega) (by omega)
  have hrs1 : Builtin.Range.rangeSize 0 (na : Int) 1 = (na : Int) := by rw [rangeSize_nat]; omega
  have hrs2 : Builtin.Range.rangeSize (na : Int) ((na : Int) + (nb : Int)) 1 = (nb : Int) := by rw [rangeSize_nat]; omega
  k_steps
  refine Stop.out ?_
  rename Apart _ _ => ap2
  rename GI _ _ _ _ _ _ _ _ _ _ _ _ _ _ _ => gi2
  rename Obj.IsDictOf _ _ (merged _ _) => hdm
  rw [merged_rows] at hdm
  refine' set_attrs (S := (_, _) :: S) ?h1 ?h2 ?h3 ?h4 ?h5 ?h6 ?h7 ?h8 hdm ?h10 ?h11 ?h12 ?h13 gi2 ?_
  case h1 => k_asm
  case h2 => k_asm
  case h3 => k_asm
  case h8 => exact List.mem_cons_self
  case h4 => exact News.perm (by k_asm) (by
      intro p hp
      simp only [List.cons_append, List.mem_cons, List.mem_append] at hp ⊢
      rcases hp with h | h | h <;> simp [h])
  case h5 => k_asm
  case h6 => ktr_room
  case h7 => ktr_units
  case h10 => k_asm
  case h11 => omega
  case h12 => omega
  case h13 =>
    intro p hp q hq
    rcases List.mem_cons.mp hp with e | hp
    · rename _ ∧ _ ∧ AllLt _ _ => lb
      rw [e]
      exact Nat.ne_of_gt (allLt_all (allLt_append lb.2.2).2 q hq)
    · exact ap2 p hp q hq
  intro h' tk' G' nv F' N' ap3 gi3
  k_steps
  exact done _ _ G' _ nv _ _ (by assumption) (News.perm (by assumption) (fun p hp => List.mem_cons_of_mem _ hp)) (fun p hp => ap3 p (List.mem_cons_of_mem _ hp)) gi3
end Mine
end
section
open PySem PySem.W PySem.Calls PyProof.Rows
set_option maxRecDepth 100000
set_option maxHeartbeats 4000000
namespace Mine
theorem fresh_E8 : True := by
  w_top off
  trivial
local macro_rules | `(tactic| k_room) => `(tactic| ktr_room)
local macro_rules | `(tactic| walk_at "getAttr ref") => `(tactic| (k_here; k_dflt (first
  | refine' get_ownS ?k1 ?k2 ?k3 ?k4 ?k5 ?k6 ?k7 ?k8 ?k9 ?_; (case k1 => k_asm); (case k2 => k_asm); (case k3 => k_inst); (case k4 => k_is); (case k5 => k_is); (case k6 => k_is); (case k7 => k_is); (case k8 => k_get); (case k9 => k_handed); k_whole
  | refine' get_ownD ?k1 ?k2 ?k3 ?k4 ?k5 ?k6 ?k7 ?kt ?k8 ?k9 ?_; (case k1 => k_asm); (case k2 => k_asm); (case k3 => k_inst); (case k4 => k_is); (case k5 => k_is); (case k6 => k_is); (case k7 => k_is); (case kt => k_is); (case k8 => k_get); (case k9 => k_handed); k_whole)))
local macro_rules | `(tactic| walk_at "getMethod ref") => `(tactic| (k_here; k_dflt (first
  | refine' method_instS ?k1 ?k2 ?k3 ?k4 ?k5 ?k6 ?k7 ?_; (case k1 => k_asm); (case k2 => k_asm); (case k3 => k_inst); (case k4 => k_is); (case k5 => k_is); (case k6 => k_is); (case k7 => k_get); k_whole
  | refine' method_getS ?k1 ?k2 ?_; (case k1 => k_asm); (case k2 => k_mem); k_whole)))
local macro_rules | `(tactic| k_all) => `(tactic| exact far_of (by assumption) (by omega))
local macro_rules | `(tactic| walk_at "call builtin:dict.get") => `(tactic| (k_here; k_dflt (refine' getS_miss ?k1 ?k2 ?k3 ?k4 ?k5 ?_; (case k1 => k_asm); (case k2 => k_mem); (case k3 => k_keys); (case k4 => k_get); (case k5 => k_asm); k_whole)))
local macro_rules | `(tactic| walk_at "setItem ref str") => `(tactic| (k_here; k_dflt (refine' setS_new ?k1 ?k2 ?k3 ?k4 ?k5 ?k6 ?_; (case k1 => k_asm); (case k2 => k_asm); (case k6 => k_upd); (case k3 => k_keys); (case k4 => k_get); (case k5 => (rw [sizeLine_eq]; exact Nat.le_of_ble_eq_true (by with_unfolding_all rfl))); k_whole; intro h' F' N'; (try dsimp only [List.cons_append, List.nil_append] at N'); (try k_sweep))))
local macro_rules | `(tactic| walk_at "call builtin:dict.clear") => `(tactic| (k_here; k_dflt (refine' clear_K (knd := PySem.strKind _ _) ?k1 ?k2 ?k3 ?k4 ?_; (case k1 => k_asm); (case k2 => k_asm); (case k3 => k_updF); (case k4 => assumption); k_whole; intro h' o' F' N' hd'; (try dsimp only [List.cons_append, List.nil_append] at N'); (try k_sweep))))
local macro_rules | `(tactic| k_all) => `(tactic| ((repeat (first | exact far_of (allLt_all (by with_reducible assumption)) (by omega) | exact far_of (allLt_all (And.right (by with_reducible assumption))) (by omega) | exact far_of (allLt_all (And.right (And.right (by with_reducible assumption)))) (by omega) | exact far_of (allLt_all (And.right (And.right (And.right (by with_reducible assumption))))) (by omega) | exact far_of (allLt_all (And.right (And.right (And.right (And.right (by with_reducible assumption)))))) (by omega) | exact far_of (allLt_all (And.right (And.right (And.right (And.right (And.right (by with_reducible assumption))))))) (by omega) | exact far_of (allLt_all (And.right (And.right (And.right (And.right (And.right (And.right (by with_reducible assumption)))))))) (by omega) | exact far_of (allLt_all (And.right (And.right (And.right (And.right (And.right (And.right (And.right (by with_reducible assumption))))))))) (by omega) | exact far_of (allLt_all (And.right (And.right (And.right (And.right (And.right (And.right (And.right (And.right (by with_reducible assumption)))))))))) (by omega) | exact far_of (allLt_all (And.right (And.right (And.right (And.right (And.right (And.right (And.right (And.right (And.right (by with_reducible assumption))))))))))) (by omega) | (rename _ ∧ _ => kZ; clear kZ))); done))
local macro_rules | `(tactic| k_all) => `(tactic| assumption)
local macro_rules | `(tactic| walk_at "subscriptTail") => `(tactic| (k_here; k_dflt (refine kda_item (knd := PySem.intKind _ _) (by k_asm) (by k_mem) (by k_asm) (intKind_is _ _ _ _) (by first | assumption | exact valueAt_stored_self _ _ _) ?_)))
local macro_rules | `(tactic| walk_at "compareOp NotIn int ref") => `(tactic| (k_here; k_dflt (first
  | refine kdg_notin (knd := PySem.intKind _ _) (by k_asm) (by k_mem) (by k_asm) (by k_asm) (intKind_is _ _ _ _) true (by assumption) ?_
  | refine kdg_notin (knd := PySem.intKind _ _) (by k_asm) (by k_mem) (by k_asm) (by k_asm) (intKind_is _ _ _ _) false (by assumption) ?_); (try dsimp only [Bool.not_true, Bool.not_false])))
local macro_rules | `(tactic| walk_at "setItem ref int") => `(tactic| (k_here; k_dflt (refine' kda_set (knd := PySem.intKind _ _) ?F ?N ?U ?d (intKind_is _ _ _ _) ?z ?_; (case F => k_asm); (case N => k_asm); (case U => k_updF); (case d => k_asm); (case z => assumption)); intro h' o' F' N' hd'; (try dsimp only at N')))
local macro_rules | `(tactic| walk_at "getItem ref int") => `(tactic| (k_here; k_dflt (refine kdt_getItem (knd := PySem.intKind _ _) (by k_asm) (by k_mem) (by k_asm) (intKind_is _ _ _ _) (by first | assumption | exact valueAt_stored_self _ _ _) ?_)))
local macro_rules | `(tactic| walk_at "call type:range") => `(tactic| (k_here; k_dflt (first | refine range1_K (by k_asm) (by k_asm) ?_ | refine range2_K (by k_asm) (by k_asm) ?_); intro r' h' tk' t1' u1' v1' F' N' l1'; (try k_lt l1')))
local macro_rules | `(tactic| walk_at "call type:zip") => `(tactic| (k_here; k_dflt (refine' zip_K ?k1 ?k2 ?k3 ?k4 ?k5 ?k6 ?_; (case k1 => k_asm); (case k2 => k_asm); (case k3 => exact News.get (by k_asm) (by k_mem)); (case k4 => assumption); (case k5 => with_reducible assumption); (case k6 => with_reducible assumption); k_whole); intro z' h' F' N' Z'))
local macro_rules | `(tactic| walk_at "call type:dict") => `(tactic| (k_here; k_dflt (refine' dict_zip_K ?k0 ?k1 ?k2 ?k3 ?k4 ?k5 ?k6 ?k7 ?_; (case k0 => rfl); (case k1 => k_asm); (case k2 => k_asm); (case k3 => exact modules_low (Top.nolimit (by k_asm))); (case k4 => assumption); (case k5 => exact rep_size _ _); (case k6 => exact rep_get _ _); (case k7 => (rw [sizeLine_eq]; omega)); k_whole); intro h' tk' o' F' N' l1' lo' hd'; (try k_lt l1')))
local macro_rules | `(tactic| walk_at "getMethod ref") => `(tactic| (k_here; (with_reducible show wpAny _ _ (getMethod (Value.ref _) (Str.ofString "get") _) _ _ _); k_dflt (refine kdg_method (knd := PySem.intKind _ _) (by k_asm) (by k_mem) (by k_asm) ?_)))
local macro_rules | `(tactic| walk_at "call builtin:dict.get") => `(tactic| (k_here; k_dflt (refine kdg_get2 (knd := PySem.intKind _ _) (by k_asm) (by k_mem) (by k_asm) (by k_asm) (intKind_is _ _ _ _) none (by assumption) ?_); (try dsimp only [Option.getD])))
local macro_rules | `(tactic| k_ne) => `(tactic| (refine neN ?_; (try dsimp only); first | with_reducible assumption | (refine Ne.symm ?_; with_reducible assumption)))
theorem add_edge {w : World} {p : Program} {loose : List Str} {mean : ExcName → Option Value} {mg mb : Str → Option Value} {dp un : Nat} {gd : Option (List Code)} {cn : Str} {nm} {ig ic : Bool} {mo : List (Str × Const)} {a : Addr} {ccd : Value} {cl : List (Str × Addr)} {outer : List Env} {A₀ : Around} {base h₀ : Heap} {L : Addr} {m : Str → Option Value} {S G : List (Addr × Obj)} {s : Shared}
    {Q E : Value → Shared → Prop} {x d ag an aa u v nv : Nat} {t0 t1 t2 t3 tu tv : Tok} {n : Nat} {f : Nat → Nat} {Ad : Nat → List (Int × Value)} {Bd : Nat → List (Str × Value)} {gk : List (Str × Value)} :
    Below A₀ base outer h₀ → Fr h₀ L s.heap m → (Mine.LawTop.hd.heap_39 w.params).In h₀ → News h₀ L s.heap (S ++ G) → Top p loose mean mg mb h₀ → dp + 10 < recursionLimit → un + 100 < cLine →
    u < n → v < n → u ≠ v → valueAt (Ad u) (v : Int) = none → (Ad u).length ≤ 60 → (Ad v).length ≤ 60 →
    Apart S G → GI PySem.Challenge.rw_ez0195_01.row.prog w G x d ag an aa [kE w "graph" t0 ag, kE w "_node" t1 an, kE w "_adj" t2 aa, kE w "adj" t3 aa, kE w "nodes" 777 nv] 5 f n Ad Bd gk →
    (∀ h' tk G' e, Fr h₀ L h' m → News h₀ L h' (S ++ G') → Apart S G' → GI PySem.Challenge.rw_ez0195_01.row.prog w G' x d ag an aa [kE w "graph" t0 ag, kE w "_node" t1 an, kE w "_adj" t2 aa, kE w "adj" t3 aa, kE w "nodes" 777 nv] 5 f n (fun k => if k = u then stored (Ad u) (v : Int) e else if k = v then stored (Ad v) (u : Int) e else Ad k) Bd gk → Q .none { s with heap := h', toks := tk }) →
    wpAny (model PySem.Challenge.rw_ez0195_01.row.prog w) (ktrTop dp un gd cn (csF nm ig ic mo) L a ccd cl outer) (call (.ref 485) [.ref x, .int u tu, .int v tv] []) Q E s := by
  k_fill
  intro B F X N T hd hu hun hvn huv hv0 hz1 hz2 ap gi done
  obtain ⟨on, mn, dn⟩ := gi.nod
  obtain ⟨oa, ma, da⟩ := gi.adj
  obtain ⟨ou, mu, du⟩ := gi.adv u hun
  obtain ⟨ov, mv, dv⟩ := gi.adv v hvn
  have hes : ∀ p ∈ [((f (2 * u) : Addr), ou), (f (2 * v), ov), (aa, oa), (an, on), (x, instObj 617 d), (d, dictS [kE w "graph" t0 ag, kE w "_node" t1 an, kE w "_adj" t2 aa, kE w "adj" t3 aa, kE w "nodes" 777 nv] 5)], p ∈ G := by
    intro p hp
    simp only [List.mem_cons, List.not_mem_nil, or_false] at hp
    rcases hp with e | e | e | e | e | e <;> rw [e]
    · exact mu
    · exact mv
    · exact ma
    · exact mn
    · exact gi.inst
    · exact gi.dict
  obtain ⟨R, hR⟩ : ∃ R, R = S ++ rms G [f (2 * u), f (2 * v), aa, an, x, d] := ⟨_, rfl⟩
  have N3 : News h₀ L s.heap ((f (2 * u), ou) :: (f (2 * v), ov) :: (aa, oa) :: (an, on) :: (x, instObj 617 d) :: (d, dictS [kE w "graph" t0 ag, kE w "_node" t1 an, kE w "_adj" t2 aa, kE w "adj" t3 aa, kE w "nodes" 777 nv] 5) :: R) := by rw [hR]; exact front_G0 N (fun _ h => h) hes
  have rr := front_ne0 ap hes
  have r1 : ∀ p ∈ R, p.1 ≠ f (2 * u) := by rw [hR]; exact rr (f (2 * u), ou) (by simp)
  have r2 : ∀ p ∈ R, p.1 ≠ f (2 * v) := by rw [hR]; exact rr (f (2 * v), ov) (by simp)
  have ho1 := gi.off (2 * u) (by omega)
  have ho2 := gi.off (2 * v) (by omega)
  simp only [List.mem_cons, List.not_mem_nil, or_false, not_or] at ho1 ho2
  have q0 : @Ne Nat (f (2 * u)) (f (2 * v)) := gi.inj _ _ (by omega) (by omega) (by omega)
  obtain ⟨q1, q2, _, q3, q4⟩ := ho1
  obtain ⟨q5, q6, _, q7, q8⟩ := ho2
  have hU : Uniq G := fun hp hq e => News.uniq N (by simp [hp]) (by simp [hq]) e
  have hvu : valueAt (rows n fun v => .ref (f (2 * v))) (u : Int) = some (.ref (f (2 * u))) := valueAt_rows hun
  have hvv : valueAt (rows n fun v => .ref (f (2 * v))) (v : Int) = some (.ref (f (2 * v))) := valueAt_rows hvn
  have hsu : (valueAt (rows n fun v => .ref (f (2 * v + 1))) (u : Int)).isSome = true := by rw [valueAt_rows hun]; rfl
  have hsv : (valueAt (rows n fun v => .ref (f (2 * v + 1))) (v : Int)).isSome = true := by rw [valueAt_rows hvn]; rfl
  have z1 : (Ad u).length ≤ sizeLine := by rw [sizeLine_eq]; omega
  have z2 : (Ad v).length ≤ sizeLine := by rw [sizeLine_eq]; omega
  have loan : (an == sysModules) = false := gi.low _ (by simp)
  have loaa : (aa == sysModules) = false := gi.low _ (by simp)
  have lou : (f (2 * u) == sysModules) = false := gi.lowf _ (by omega)
  clear N hes rr
  k_steps
  rename Obj.IsDictOf _ _ (stored (Ad u) _ _) => bu1
  rename Obj.IsDictOf _ _ (stored (Ad v) _ _) => bv1
  obtain ⟨G', n1, n2, n3⟩ := edge_end gi hun hvn huv ap hU hR ma mn (News.tail' (by assumption)) bu1 bv1
  exact done _ _ G' _ (by assumption) n1 n2 n3
end Mine
end
section
open PySem PySem.W PySem.Calls PyProof.Rows
set_option maxRecDepth 100000
set_option maxHeartbeats 4000000
namespace Mine
theorem fresh_E9a : True := by
  w_top off
  trivial
local macro_rules | `(tactic| walk_at "nought") => `(tactic| fail)
local macro_rules | `(tactic| k_room) => `(tactic| ktr_room)
local macro_rules | `(tactic| walk_at "getAttr ref") => `(tactic| (k_here; k_dflt (first
  | refine' get_ownS ?k1 ?k2 ?k3 ?k4 ?k5 ?k6 ?k7 ?k8 ?k9 ?_; (case k1 => k_asm); (case k2 => k_asm); (case k3 => k_inst); (case k4 => k_is); (case k5 => k_is); (case k6 => k_is); (case k7 => k_is); (case k8 => k_get); (case k9 => k_handed); k_whole
  | refine' get_ownD ?k1 ?k2 ?k3 ?k4 ?k5 ?k6 ?k7 ?kt ?k8 ?k9 ?_; (case k1 => k_asm); (case k2 => k_asm); (case k3 => k_inst); (case k4 => k_is); (case k5 => k_is); (case k6 => k_is); (case k7 => k_is); (case kt => k_is); (case k8 => k_get); (case k9 => k_handed); k_whole)))
local macro_rules | `(tactic| walk_at "getMethod ref") => `(tactic| (k_here; k_dflt (first
  | refine' method_instS ?k1 ?k2 ?k3 ?k4 ?k5 ?k6 ?k7 ?_; (case k1 => k_asm); (case k2 => k_asm); (case k3 => k_inst); (case k4 => k_is); (case k5 => k_is); (case k6 => k_is); (case k7 => k_get); k_whole
  | refine' method_getS ?k1 ?k2 ?_; (case k1 => k_asm); (case k2 => k_mem); k_whole)))
local macro_rules | `(tactic| k_all) => `(tactic| exact far_of (by assumption) (by omega))
local macro_rules | `(tactic| walk_at "call builtin:dict.get") => `(tactic| (k_here; k_dflt (refine' getS_miss ?k1 ?k2 ?k3 ?k4 ?k5 ?_; (case k1 => k_asm); (case k2 => k_mem); (case k3 => k_keys); (case k4 => k_get); (case k5 => k_asm); k_whole)))
local macro_rules | `(tactic| walk_at "setItem ref str") => `(tactic| (k_here; k_dflt (refine' setS_new ?k1 ?k2 ?k3 ?k4 ?k5 ?k6 ?_; (case k1 => k_asm); (case k2 => k_asm); (case k6 => k_upd); (case k3 => k_keys); (case k4 => k_get); (case k5 => (rw [sizeLine_eq]; exact Nat.le_of_ble_eq_true (by with_unfolding_all rfl))); k_whole; intro h' F' N'; (try dsimp only [List.cons_append, List.nil_append] at N'); (try k_sweep))))
local macro_rules | `(tactic| walk_at "call builtin:dict.clear") => `(tactic| (k_here; k_dflt (refine' clear_K (knd := PySem.strKind _ _) ?k1 ?k2 ?k3 ?k4 ?_; (case k1 => k_asm); (case k2 => k_asm); (case k3 => k_updF); (case k4 => assumption); k_whole; intro h' o' F' N' hd'; (try dsimp only [List.cons_append, List.nil_append] at N'); (try k_sweep))))
local macro_rules | `(tactic| k_all) => `(tactic| ((repeat (first | exact far_of (allLt_all (by with_reducible assumption)) (by omega) | exact far_of (allLt_all (And.right (by with_reducible assumption))) (by omega) | exact far_of (allLt_all (And.right (And.right (by with_reducible assumption)))) (by omega) | exact far_of (allLt_all (And.right (And.right (And.right (by with_reducible assumption))))) (by omega) | exact far_of (allLt_all (And.right (And.right (And.right (And.right (by with_reducible assumption)))))) (by omega) | exact far_of (allLt_all (And.right (And.right (And.right (And.right (And.right (by with_reducible assumption))))))) (by omega) | exact far_of (allLt_all (And.right (And.right (And.right (And.right (And.right (And.right (by with_reducible assumption)))))))) (by omega) | exact far_of (allLt_all (And.right (And.right (And.right (And.right (And.right (And.right (And.right (by with_reducible assumption))))))))) (by omega) | exact far_of (allLt_all (And.right (And.right (And.right (And.right (And.right (And.right (And.right (And.right (by with_reducible assumption)))))))))) (by omega) | exact far_of (allLt_all (And.right (And.right (And.right (And.right (And.right (And.right (And.right (And.right (And.right (by with_reducible assumption))))))))))) (by omega) | (rename _ ∧ _ => kZ; clear kZ))); done))
local macro_rules | `(tactic| k_all) => `(tactic| assumption)
local macro_rules | `(tactic| walk_at "subscriptTail") => `(tactic| (k_here; k_dflt (refine kda_item (knd := PySem.intKind _ _) (by k_asm) (by k_mem) (by k_asm) (intKind_is _ _ _ _) (by first | assumption | exact valueAt_stored_self _ _ _) ?_)))
local macro_rules | `(tactic| walk_at "compareOp NotIn int ref") => `(tactic| (k_here; k_dflt (first
  | refine kdg_notin (knd := PySem.intKind _ _) (by k_asm) (by k_mem) (by k_asm) (by k_asm) (intKind_is _ _ _ _) true (by assumption) ?_
  | refine kdg_notin (knd := PySem.intKind _ _) (by k_asm) (by k_mem) (by k_asm) (by k_asm) (intKind_is _ _ _ _) false (by assumption) ?_); (try dsimp only [Bool.not_true, Bool.not_false])))
local macro_rules | `(tactic| walk_at "setItem ref int") => `(tactic| (k_here; k_dflt (refine' kda_set (knd := PySem.intKind _ _) ?F ?N ?U ?d (intKind_is _ _ _ _) ?z ?_; (case F => k_asm); (case N => k_asm); (case U => k_updF); (case d => k_asm); (case z => assumption)); intro h' o' F' N' hd'; (try dsimp only at N')))
local macro_rules | `(tactic| walk_at "getItem ref int") => `(tactic| (k_here; k_dflt (refine kdt_getItem (knd := PySem.intKind _ _) (by k_asm) (by k_mem) (by k_asm) (intKind_is _ _ _ _) (by first | assumption | exact valueAt_stored_self _ _ _) ?_)))
local macro_rules | `(tactic| walk_at "call type:range") => `(tactic| (k_here; k_dflt (first | refine range1_K (by k_asm) (by k_asm) ?_ | refine range2_K (by k_asm) (by k_asm) ?_); intro r' h' tk' t1' u1' v1' F' N' l1'; (try k_lt l1')))
local macro_rules | `(tactic| walk_at "call type:zip") => `(tactic| (k_here; k_dflt (refine' zip_K ?k1 ?k2 ?k3 ?k4 ?k5 ?k6 ?_; (case k1 => k_asm); (case k2 => k_asm); (case k3 => exact News.get (by k_asm) (by k_mem)); (case k4 => assumption); (case k5 => with_reducible assumption); (case k6 => with_reducible assumption); k_whole); intro z' h' F' N' Z'))
local macro_rules | `(tactic| walk_at "call type:dict") => `(tactic| (k_here; k_dflt (refine' dict_zip_K ?k0 ?k1 ?k2 ?k3 ?k4 ?k5 ?k6 ?k7 ?_; (case k0 => rfl); (case k1 => k_asm); (case k2 => k_asm); (case k3 => exact modules_low (Top.nolimit (by k_asm))); (case k4 => assumption); (case k5 => exact rep_size _ _); (case k6 => exact rep_get _ _); (case k7 => (rw [sizeLine_eq]; omega)); k_whole); intro h' tk' o' F' N' l1' lo' hd'; (try k_lt l1')))
local macro_rules | `(tactic| walk_at "getMethod ref") => `(tactic| (k_here; (with_reducible show wpAny _ _ (getMethod (Value.ref _) (Str.ofString "get") _) _ _ _); k_dflt (refine kdg_method (knd := PySem.intKind _ _) (by k_asm) (by k_mem) (by k_asm) ?_)))
local macro_rules | `(tactic| walk_at "call builtin:dict.get") => `(tactic| (k_here; k_dflt (refine kdg_get2 (knd := PySem.intKind _ _) (by k_asm) (by k_mem) (by k_asm) (by k_asm) (intKind_is _ _ _ _) none (by assumption) ?_); (try dsimp only [Option.getD])))
local macro_rules | `(tactic| k_ne) => `(tactic| (refine neN ?_; (try dsimp only); first | with_reducible assumption | (refine Ne.symm ?_; with_reducible assumption)))
theorem add_edge_new {w : World} {p : Program} {loose : List Str} {mean : ExcName → Option Value} {mg mb : Str → Option Value} {dp un : Nat} {gd : Option (List Code)} {cn : Str} {nm} {ig ic : Bool} {mo : List (Str × Const)} {a : Addr} {ccd : Value} {cl : List (Str × Addr)} {outer : List Env} {A₀ : Around} {base h₀ : Heap} {L : Addr} {m : Str → Option Value} {S G : List (Addr × Obj)} {s : Shared}
    {Q E : Value → Shared → Prop} {x d ag an aa u v nv : Nat} {t0 t1 t2 t3 tu tv : Tok} {n : Nat} {f : Nat → Nat} {Ad : Nat → List (Int × Value)} {Bd : Nat → List (Str × Value)} {gk : List (Str × Value)} {Nb : Nat → List Nat} :
    Below A₀ base outer h₀ → Fr h₀ L s.heap m → (Mine.LawTop.hd.heap_39 w.params).In h₀ → News h₀ L s.heap (S ++ G) → Top p loose mean mg mb h₀ → dp + 10 < recursionLimit → un + 100 < cLine →
    u < n → v < n → u ≠ v → AdjOf Ad Nb n → EdgeOk PySem.Challenge.rw_ez0195_01.row.prog w G x d ag an aa f n Ad → (Nb u).length ≤ 50 → (Nb v).length ≤ 50 → valueAt (Ad u) (v : Int) = none →
    Apart S G → GI PySem.Challenge.rw_ez0195_01.row.prog w G x d ag an aa [kE w "graph" t0 ag, kE w "_node" t1 an, kE w "_adj" t2 aa, kE w "adj" t3 aa, kE w "nodes" 777 nv] 5 f n Ad Bd gk →
    (∀ h' tk G' Ad', Fr h₀ L h' m → News h₀ L h' (S ++ G') → Apart S G' → GI PySem.Challenge.rw_ez0195_01.row.prog w G' x d ag an aa [kE w "graph" t0 ag, kE w "_node" t1 an, kE w "_adj" t2 aa, kE w "adj" t3 aa, kE w "nodes" 777 nv] 5 f n Ad' Bd gk →
      AdjOf Ad' (stepN Nb u v) n → EdgeOk PySem.Challenge.rw_ez0195_01.row.prog w G' x d ag an aa f n Ad' → Q .none { s with heap := h', toks := tk }) →
    wpAny (model PySem.Challenge.rw_ez0195_01.row.prog w) (ktrTop dp un gd cn (csF nm ig ic mo) L a ccd cl outer) (call (.ref 485) [.ref x, .int u tu, .int v tv] []) Q E s := by
  k_fill
  intro B F X N T hd hu hun hvn huv adj eo hb1 hb2 hv0 ap gi done
  obtain ⟨on, mn, dn⟩ := gi.nod
  obtain ⟨oa, ma, da⟩ := gi.adj
  obtain ⟨ou, mu, du⟩ := gi.adv u hun
  obtain ⟨ov, mv, dv⟩ := gi.adv v hvn
  have hes : ∀ p ∈ [((f (2 * u) : Addr), ou), (f (2 * v), ov), (aa, oa), (an, on), (x, instObj 617 d), (d, dictS [kE w "graph" t0 ag, kE w "_node" t1 an, kE w "_adj" t2 aa, kE w "adj" t3 aa, kE w "nodes" 777 nv] 5)], p ∈ G := by
    intro p hp
    simp only [List.mem_cons, List.not_mem_nil, or_false] at hp
    rcases hp with e | e | e | e | e | e <;> rw [e]
    · exact mu
    · exact mv
    · exact ma
    · exact mn
    · exact gi.inst
    · exact gi.dict
  obtain ⟨R, hR⟩ : ∃ R, R = S ++ rms G [f (2 * u), f (2 * v), aa, an, x, d] := ⟨_, rfl⟩
  have N3 : News h₀ L s.heap ((f (2 * u), ou) :: (f (2 * v), ov) :: (aa, oa) :: (an, on) :: (x, instObj 617 d) :: (d, dictS [kE w "graph" t0 ag, kE w "_node" t1 an, kE w "_adj" t2 aa, kE w "adj" t3 aa, kE w "nodes" 777 nv] 5) :: R) := by rw [hR]; exact front_G0 N (fun _ h => h) hes
  have rr := front_ne0 ap hes
  have r1 : ∀ p ∈ R, p.1 ≠ f (2 * u) := by rw [hR]; exact rr (f (2 * u), ou) (by simp)
  have r2 : ∀ p ∈ R, p.1 ≠ f (2 * v) := by rw [hR]; exact rr (f (2 * v), ov) (by simp)
  have ho1 := gi.off (2 * u) (by omega)
  have ho2 := gi.off (2 * v) (by omega)
  simp only [List.mem_cons, List.not_mem_nil, or_false, not_or] at ho1 ho2
  have q0 : @Ne Nat (f (2 * u)) (f (2 * v)) := gi.inj _ _ (by omega) (by omega) (by omega)
  obtain ⟨q1, q2, _, q3, q4⟩ := ho1
  obtain ⟨q5, q6, _, q7, q8⟩ := ho2
  have hU : Uniq G := fun hp hq e => News.uniq N (by simp [hp]) (by simp [hq]) e
  have hvu : valueAt (rows n fun v => .ref (f (2 * v))) (u : Int) = some (.ref (f (2 * u))) := valueAt_rows hun
  have hvv : valueAt (rows n fun v => .ref (f (2 * v))) (v : Int) = some (.ref (f (2 * v))) := valueAt_rows hvn
  have hsu : (valueAt (rows n fun v => .ref (f (2 * v + 1))) (u : Int)).isSome = true := by rw [valueAt_rows hun]; rfl
  have hsv : (valueAt (rows n fun v => .ref (f (2 * v + 1))) (v : Int)).isSome = true := by rw [valueAt_rows hvn]; rfl
  have z1 : (Ad u).length ≤ sizeLine := by rw [sizeLine_eq, adj.len hun]; omega
  have z2 : (Ad v).length ≤ sizeLine := by rw [sizeLine_eq, adj.len hvn]; omega
  have loan : (an == sysModules) = false := gi.low _ (by simp)
  have loaa : (aa == sysModules) = false := gi.low _ (by simp)
  have lou : (f (2 * u) == sysModules) = false := gi.lowf _ (by omega)
  clear N hes rr
  k_steps
  rename Obj.IsDictOf _ _ (stored (Ad u) _ _) => bu1
  rename Obj.IsDictOf _ _ (stored (Ad v) _ _) => bv1
  rename PyProof.V.FlatPairs _ _ (ktMergeD _ _) => fl1
  rename Obj.IsDictOf (PySem.strKind _ _) _ _ => bc1
  rename _ ∧ _ ∧ _ ∧ _ ∧ _ ∧ _ ∧ _ ∧ _ ∧ AllLt _ R => ld
  rw [flat_nil_inv fl1] at bc1
  rename News h₀ _ _ _ => kN
  obtain ⟨G', n1, n2, n3, n4⟩ := edge_new_end gi hun hvn huv ap hU ma mn eo hR ld kN bc1 bu1 bv1
  exact done _ _ G' _ (by assumption) n1 n2 n3 (adj.step hun hvn _) n4
end Mine
end
section
open PySem PySem.W PySem.Calls PyProof.Rows
set_option maxRecDepth 100000
set_option maxHeartbeats 4000000
namespace Mine
theorem fresh_E9b : True := by
  w_top off
  trivial
local macro_rules | `(tactic| k_room) => `(tactic| ktr_room)
local macro_rules | `(tactic| walk_at "getAttr ref") => `(tactic| (k_here; k_dflt (first
  | refine' get_ownS ?k1 ?k2 ?k3 ?k4 ?k5 ?k6 ?k7 ?k8 ?k9 ?_; (case k1 => k_asm); (case k2 => k_asm); (case k3 => k_inst); (case k4 => k_is); (case k5 => k_is); (case k6 => k_is); (case k7 => k_is); (case k8 => k_get); (case k9 => k_handed); k_whole
  | refine' get_ownD ?k1 ?k2 ?k3 ?k4 ?k5 ?k6 ?k7 ?kt ?k8 ?k9 ?_; (case k1 => k_asm); (case k2 => k_asm); (case k3 => k_inst); (case k4 => k_is); (case k5 => k_is); (case k6 => k_is); (case k7 => k_is); (case kt => k_is); (case k8 => k_get); (case k9 => k_handed); k_whole)))
local macro_rules | `(tactic| walk_at "getMethod ref") => `(tactic| (k_here; k_dflt (first
  | refine' method_instS ?k1 ?k2 ?k3 ?k4 ?k5 ?k6 ?k7 ?_; (case k1 => k_asm); (case k2 => k_asm); (case k3 => k_inst); (case k4 => k_is); (case k5 => k_is); (case k6 => k_is); (case k7 => k_get); k_whole
  | refine' method_getS ?k1 ?k2 ?_; (case k1 => k_asm); (case k2 => k_mem); k_whole)))
local macro_rules | `(tactic| k_all) => `(tactic| exact far_of (by assumption) (by omega))
local macro_rules | `(tactic| walk_at "call builtin:dict.get") => `(tactic| (k_here; k_dflt (refine' getS_miss ?k1 ?k2 ?k3 ?k4 ?k5 ?_; (case k1 => k_asm); (case k2 => k_mem); (case k3 => k_keys); (case k4 => k_get); (case k5 => k_asm); k_whole)))
local macro_rules | `(tactic| walk_at "setItem ref str") => `(tactic| (k_here; k_dflt (refine' setS_new ?k1 ?k2 ?k3 ?k4 ?k5 ?k6 ?_; (case k1 => k_asm); (case k2 => k_asm); (case k6 => k_upd); (case k3 => k_keys); (case k4 => k_get); (case k5 => (rw [sizeLine_eq]; exact Nat.le_of_ble_eq_true (by with_unfolding_all rfl))); k_whole; intro h' F' N'; (try dsimp only [List.cons_append, List.nil_append] at N'); (try k_sweep))))
local macro_rules | `(tactic| walk_at "call builtin:dict.clear") => `(tactic| (k_here; k_dflt (refine' clear_K (knd := PySem.strKind _ _) ?k1 ?k2 ?k3 ?k4 ?_; (case k1 => k_asm); (case k2 => k_asm); (case k3 => k_updF); (case k4 => assumption); k_whole; intro h' o' F' N' hd'; (try dsimp only [List.cons_append, List.nil_append] at N'); (try k_sweep))))
local macro_rules | `(tactic| k_all) => `(tactic| ((repeat (first | exact far_of (allLt_all (by with_reducible assumption)) (by omega) | exact far_of (allLt_all (And.right (by with_reducible assumption))) (by omega) | exact far_of (allLt_all (And.right (And.right (by with_reducible assumption)))) (by omega) | exact far_of (allLt_all (And.right (And.right (And.right (by with_reducible assumption))))) (by omega) | exact far_of (allLt_all (And.right (And.right (And.right (And.right (by with_reducible assumption)))))) (by omega) | exact far_of (allLt_all (And.right (And.right (And.right (And.right (And.right (by with_reducible assumption))))))) (by omega) | exact far_of (allLt_all (And.right (And.right (And.right (And.right (And.right (And.right (by with_reducible assumption)))))))) (by omega) | exact far_of (allLt_all (And.right (And.right (And.right (And.right (And.right (And.right (And.right (by with_reducible assumption))))))))) (by omega) | exact far_of (allLt_all (And.right (And.right (And.right (And.right (And.right (And.right (And.right (And.right (by with_reducible assumption)))))))))) (by omega) | exact far_of (allLt_all (And.right (And.right (And.right (And.right (And.right (And.right (And.right (And.right (And.right (by with_reducible assumption))))))))))) (by omega) | (rename _ ∧ _ => kZ; clear kZ))); done))
local macro_rules | `(tactic| k_all) => `(tactic| assumption)
local macro_rules | `(tactic| walk_at "subscriptTail") => `(tactic| (k_here; k_dflt (refine kda_item (knd := PySem.intKind _ _) (by k_asm) (by k_mem) (by k_asm) (intKind_is _ _ _ _) (by first | assumption | exact valueAt_stored_self _ _ _) ?_)))
local macro_rules | `(tactic| walk_at "compareOp NotIn int ref") => `(tactic| (k_here; k_dflt (first
  | refine kdg_notin (knd := PySem.intKind _ _) (by k_asm) (by k_mem) (by k_asm) (by k_asm) (intKind_is _ _ _ _) true (by assumption) ?_
  | refine kdg_notin (knd := PySem.intKind _ _) (by k_asm) (by k_mem) (by k_asm) (by k_asm) (intKind_is _ _ _ _) false (by assumption) ?_); (try dsimp only [Bool.not_true, Bool.not_false])))
local macro_rules | `(tactic| walk_at "setItem ref int") => `(tactic| (k_here; k_dflt (refine' kda_set (knd := PySem.intKind _ _) ?F ?N ?U ?d (intKind_is _ _ _ _) ?z ?_; (case F => k_asm); (case N => k_asm); (case U => k_updF); (case d => k_asm); (case z => assumption)); intro h' o' F' N' hd'; (try dsimp only at N')))
local macro_rules | `(tactic| walk_at "getItem ref int") => `(tactic| (k_here; k_dflt (refine kdt_getItem (knd := PySem.intKind _ _) (by k_asm) (by k_mem) (by k_asm) (intKind_is _ _ _ _) (by first | assumption | exact valueAt_stored_self _ _ _) ?_)))
local macro_rules | `(tactic| walk_at "call type:range") => `(tactic| (k_here; k_dflt (first | refine range1_K (by k_asm) (by k_asm) ?_ | refine range2_K (by k_asm) (by k_asm) ?_); intro r' h' tk' t1' u1' v1' F' N' l1'; (try k_lt l1')))
local macro_rules | `(tactic| walk_at "call type:zip") => `(tactic| (k_here; k_dflt (refine' zip_K ?k1 ?k2 ?k3 ?k4 ?k5 ?k6 ?_; (case k1 => k_asm); (case k2 => k_asm); (case k3 => exact News.get (by k_asm) (by k_mem)); (case k4 => assumption); (case k5 => with_reducible assumption); (case k6 => with_reducible assumption); k_whole); intro z' h' F' N' Z'))
local macro_rules | `(tactic| walk_at "call type:dict") => `(tactic| (k_here; k_dflt (refine' dict_zip_K ?k0 ?k1 ?k2 ?k3 ?k4 ?k5 ?k6 ?k7 ?_; (case k0 => rfl); (case k1 => k_asm); (case k2 => k_asm); (case k3 => exact modules_low (Top.nolimit (by k_asm))); (case k4 => assumption); (case k5 => exact rep_size _ _); (case k6 => exact rep_get _ _); (case k7 => (rw [sizeLine_eq]; omega)); k_whole); intro h' tk' o' F' N' l1' lo' hd'; (try k_lt l1')))
local macro_rules | `(tactic| walk_at "getMethod ref") => `(tactic| (k_here; (with_reducible show wpAny _ _ (getMethod (Value.ref _) (Str.ofString "get") _) _ _ _); k_dflt (refine kdg_method (knd := PySem.intKind _ _) (by k_asm) (by k_mem) (by k_asm) ?_)))
local macro_rules | `(tactic| walk_at "call builtin:dict.get") => `(tactic| (k_here; k_dflt (refine kdg_get2 (knd := PySem.intKind _ _) (by k_asm) (by k_mem) (by k_asm) (by k_asm) (intKind_is _ _ _ _) none (by assumption) ?_); (try dsimp only [Option.getD])))
local macro_rules | `(tactic| walk_at "call builtin:dict.get") => `(tactic| (k_here; k_dflt (refine kdg_get2 (knd := PySem.intKind _ _) (by k_asm) (by k_mem) (by k_asm) (by k_asm) (intKind_is _ _ _ _) (some _) (by assumption) ?_); (try dsimp only [Option.getD])))
local macro_rules | `(tactic| walk_at "getMethod ref") => `(tactic| (k_here; (with_reducible show wpAny _ _ (getMethod (Value.ref _) (Str.ofString "update") _) _ _ _); k_dflt (first | (refine method_update (knd := PySem.strKind _ _) (by k_asm) (by k_mem) (by k_asm) ?_))))
local macro_rules | `(tactic| walk_at "call builtin:dict.update") => `(tactic| (k_here; k_dflt (refine' update_K (knd := PySem.strKind _ _) (kvs := []) (more := []) ?k1 ?k2 ?k3 ?k4 ?k5 ?k6 ?k7 ?k8 ?k9 ?_; (case k1 => k_asm); (case k2 => k_asm); (case k3 => k_updF); (case k4 => k_asm); (case k5 => k_mem); (case k6 => k_asm); (case k7 => omega); (case k8 => k_asm); (case k9 => (rw [sizeLine_eq]; simp)); k_whole); intro h' o' F' N' hd'; (try dsimp only at N')))
local macro_rules | `(tactic| k_ne) => `(tactic| (refine neN ?_; (try dsimp only); first | with_reducible assumption | (refine Ne.symm ?_; with_reducible assumption)))
theorem add_edge_old {w : World} {p : Program} {loose : List Str} {mean : ExcName → Option Value} {mg mb : Str → Option Value} {dp un : Nat} {gd : Option (List Code)} {cn : Str} {nm} {ig ic : Bool} {mo : List (Str × Const)} {a : Addr} {ccd : Value} {cl : List (Str × Addr)} {outer : List Env} {A₀ : Around} {base h₀ : Heap} {L : Addr} {m : Str → Option Value} {S G : List (Addr × Obj)} {s : Shared}
    {Q E : Value → Shared → Prop} {x d ag an aa u v nv : Nat} {t0 t1 t2 t3 tu tv : Tok} {n : Nat} {f : Nat → Nat} {Ad : Nat → List (Int × Value)} {Bd : Nat → List (Str × Value)} {gk : List (Str × Value)} {Nb : Nat → List Nat} {c : Nat} {oc0 : Obj} :
    Below A₀ base outer h₀ → Fr h₀ L s.heap m → (Mine.LawTop.hd.heap_39 w.params).In h₀ → News h₀ L s.heap (S ++ G) → Top p loose mean mg mb h₀ → dp + 10 < recursionLimit → un + 100 < cLine →
    u < n → v < n → u ≠ v → AdjOf Ad Nb n → EdgeOk PySem.Challenge.rw_ez0195_01.row.prog w G x d ag an aa f n Ad → (Nb u).length ≤ 50 → (Nb v).length ≤ 50 → valueAt (Ad u) (v : Int) = some (.ref c) → c ∉ [x, d, ag, an, aa] → (∀ i, i < 2 * n → c ≠ f i) → (c, oc0) ∈ G → oc0.IsDictOf (PySem.strKind PySem.Challenge.rw_ez0195_01.row.prog w) [] →
    Apart S G → GI PySem.Challenge.rw_ez0195_01.row.prog w G x d ag an aa [kE w "graph" t0 ag, kE w "_node" t1 an, kE w "_adj" t2 aa, kE w "adj" t3 aa, kE w "nodes" 777 nv] 5 f n Ad Bd gk →
    (∀ h' tk G' Ad', Fr h₀ L h' m → News h₀ L h' (S ++ G') → Apart S G' → GI PySem.Challenge.rw_ez0195_01.row.prog w G' x d ag an aa [kE w "graph" t0 ag, kE w "_node" t1 an, kE w "_adj" t2 aa, kE w "adj" t3 aa, kE w "nodes" 777 nv] 5 f n Ad' Bd gk →
      AdjOf Ad' (stepN Nb u v) n → EdgeOk PySem.Challenge.rw_ez0195_01.row.prog w G' x d ag an aa f n Ad' → Q .none { s with heap := h', toks := tk }) →
    wpAny (model PySem.Challenge.rw_ez0195_01.row.prog w) (ktrTop dp un gd cn (csF nm ig ic mo) L a ccd cl outer) (call (.ref 485) [.ref x, .int u tu, .int v tv] []) Q E s := by
  k_fill
  intro B F X N T hd hu hun hvn huv adj eo hb1 hb2 hv0 hc1 hc2 mc hoc ap gi done
  have q0 : @Ne Nat (f (2 * u)) (f (2 * v)) := gi.inj _ _ (by omega) (by omega) (by omega)
  obtain ⟨on, mn, dn⟩ := gi.nod
  obtain ⟨oa, ma, da⟩ := gi.adj
  obtain ⟨ou, mu, du⟩ := gi.adv u hun
  obtain ⟨ov, mv, dv⟩ := gi.adv v hvn
  have hes : ∀ p ∈ [((c : Addr), oc0), (f (2 * u), ou), (f (2 * v), ov), (aa, oa), (an, on), (x, instObj 617 d), (d, dictS [kE w "graph" t0 ag, kE w "_node" t1 an, kE w "_adj" t2 aa, kE w "adj" t3 aa, kE w "nodes" 777 nv] 5)], p ∈ G := by
    intro p hp
    simp only [List.mem_cons, List.not_mem_nil, or_false] at hp
    rcases hp with e | e | e | e | e | e | e <;> rw [e]
    · exact mc
    · exact mu
    · exact mv
    · exact ma
    · exact mn
    · exact gi.inst
    · exact gi.dict
  obtain ⟨R, hR⟩ : ∃ R, R = S ++ rms G [c, f (2 * u), f (2 * v), aa, an, x, d] := ⟨_, rfl⟩
  have N3 : News h₀ L s.heap ((c, oc0) :: (f (2 * u), ou) :: (f (2 * v), ov) :: (aa, oa) :: (an, on) :: (x, instObj 617 d) :: (d, dictS [kE w "graph" t0 ag, kE w "_node" t1 an, kE w "_adj" t2 aa, kE w "adj" t3 aa, kE w "nodes" 777 nv] 5) :: R) := by rw [hR]; exact front_G0 N (fun _ h => h) hes
  have rr := front_ne0 ap hes
  have r1 : ∀ p ∈ R, p.1 ≠ f (2 * u) := by rw [hR]; exact rr (f (2 * u), ou) (by simp)
  have r2 : ∀ p ∈ R, p.1 ≠ f (2 * v) := by rw [hR]; exact rr (f (2 * v), ov) (by simp)
  have rc : ∀ p ∈ R, p.1 ≠ c := by rw [hR]; exact rr (c, oc0) (by simp)
  have fl0 : PyProof.V.FlatPairs (K := PySem.Str) PyData.str [] [] := flat_nil _
  have hc1' := hc1
  simp only [List.mem_cons, List.not_mem_nil, or_false, not_or] at hc1'
  obtain ⟨qc1, qc2, _, qc3, qc4⟩ := hc1'
  have qc5 : @Ne Nat c (f (2 * u)) := hc2 _ (by omega)
  have qc6 : @Ne Nat c (f (2 * v)) := hc2 _ (by omega)
  have ho1 := gi.off (2 * u) (by omega)
  have ho2 := gi.off (2 * v) (by omega)
  simp only [List.mem_cons, List.not_mem_nil, or_false, not_or] at ho1 ho2
  obtain ⟨q1, q2, _, q3, q4⟩ := ho1
  obtain ⟨q5, q6, _, q7, q8⟩ := ho2
  have hU : Uniq G := fun hp hq e => News.uniq N (by simp [hp]) (by simp [hq]) e
  have hvu : valueAt (rows n fun v => .ref (f (2 * v))) (u : Int) = some (.ref (f (2 * u))) := valueAt_rows hun
  have hvv : valueAt (rows n fun v => .ref (f (2 * v))) (v : Int) = some (.ref (f (2 * v))) := valueAt_rows hvn
  have hsu : (valueAt (rows n fun v => .ref (f (2 * v + 1))) (u : Int)).isSome = true := by rw [valueAt_rows hun]; rfl
  have hsv : (valueAt (rows n fun v => .ref (f (2 * v + 1))) (v : Int)).isSome = true := by rw [valueAt_rows hvn]; rfl
  have z1 : (Ad u).length ≤ sizeLine := by rw [sizeLine_eq, adj.len hun]; omega
  have z2 : (Ad v).length ≤ sizeLine := by rw [sizeLine_eq, adj.len hvn]; omega
  have loan : (an == sysModules) = false := gi.low _ (by simp)
  have loaa : (aa == sysModules) = false := gi.low _ (by simp)
  have lou : (f (2 * u) == sysModules) = false := gi.lowf _ (by omega)
  clear N hes rr
  k_steps
  rename Obj.IsDictOf _ _ (stored (Ad u) _ _) => bu1
  rename Obj.IsDictOf _ _ (stored (Ad v) _ _) => bv1
  rename Obj.IsDictOf (PySem.strKind _ _) _ (merged [] []) => bc1
  rename News h₀ _ _ _ => kN
  obtain ⟨G', n1, n2, n3, n4⟩ := edge_end2 (c := c) (R' := R) gi hun hvn huv ap hU ma mn eo hc1 hc2 (fun p hp e => ap p hp _ mc e) (fun p hp => by rw [hR]; exact hp) (News.perm kN (fun p hp => List.mem_cons_of_mem _ (List.mem_cons_of_mem _ (List.mem_cons_of_mem _ hp)))) bc1 bu1 bv1
  exact done _ _ G' _ (by assumption) n1 n2 n3 (adj.step hun hvn _) n4
end Mine
end
section
open PySem PySem.W PySem.Calls PyProof.Rows
set_option maxRecDepth 100000
set_option maxHeartbeats 4000000
namespace Mine
theorem add_edge_any {w : World} {p : Program} {loose : List Str} {mean : ExcName → Option Value} {mg mb : Str → Option Value} {dp un : Nat} {gd : Option (List Code)} {cn : Str} {nm} {ig ic : Bool} {mo : List (Str × Const)} {a : Addr} {ccd : Value} {cl : List (Str × Addr)} {outer : List Env} {A₀ : Around} {base h₀ : Heap} {L : Addr} {m : Str → Option Value} {S G : List (Addr × Obj)} {s : Shared}
    {Q E : Value → Shared → Prop} {x d ag an aa u v nv : Nat} {t0 t1 t2 t3 tu tv : Tok} {n : Nat} {f : Nat → Nat} {Ad : Nat → List (Int × Value)} {Bd : Nat → List (Str × Value)} {gk : List (Str × Value)} {Nb : Nat → List Nat} :
    Below A₀ base outer h₀ → Fr h₀ L s.heap m → (Mine.LawTop.hd.heap_39 w.params).In h₀ → News h₀ L s.heap (S ++ G) → Top p loose mean mg mb h₀ → dp + 10 < recursionLimit → un + 100 < cLine →
    u < n → v < n → u ≠ v → AdjOf Ad Nb n → EdgeOk PySem.Challenge.rw_ez0195_01.row.prog w G x d ag an aa f n Ad → (Nb u).length ≤ 50 → (Nb v).length ≤ 50 →
    Apart S G → GI PySem.Challenge.rw_ez0195_01.row.prog w G x d ag an aa [kE w "graph" t0 ag, kE w "_node" t1 an, kE w "_adj" t2 aa, kE w "adj" t3 aa, kE w "nodes" 777 nv] 5 f n Ad Bd gk →
    (∀ h' tk G' Ad', Fr h₀ L h' m → News h₀ L h' (S ++ G') → Apart S G' → GI PySem.Challenge.rw_ez0195_01.row.prog w G' x d ag an aa [kE w "graph" t0 ag, kE w "_node" t1 an, kE w "_adj" t2 aa, kE w "adj" t3 aa, kE w "nodes" 777 nv] 5 f n Ad' Bd gk →
      AdjOf Ad' (stepN Nb u v) n → EdgeOk PySem.Challenge.rw_ez0195_01.row.prog w G' x d ag an aa f n Ad' → Q .none { s with heap := h', toks := tk }) →
    wpAny (model PySem.Challenge.rw_ez0195_01.row.prog w) (ktrTop dp un gd cn (csF nm ig ic mo) L a ccd cl outer) (call (.ref 485) [.ref x, .int u tu, .int v tv] []) Q E s := by
  intro B F X N T hd hu hun hvn huv adj eo hb1 hb2 ap gi done
  cases hv : valueAt (Ad u) (v : Int) with
  | none => exact add_edge_new B F X N T hd hu hun hvn huv adj eo hb1 hb2 hv ap gi done
  | some y =>
    obtain ⟨p, hp, hy⟩ : ∃ p ∈ Ad u, p.2 = y := by
      unfold valueAt at hv
      cases hf : (Ad u).find? fun kv => decide (kv.1 = (v : Int)) with
      | none => rw [hf] at hv; cases hv
      | some p =>
        rw [hf] at hv
        exact ⟨p, List.mem_of_find?_eq_some hf, by simpa using hv⟩
    obtain ⟨c, o, e, hm, hdo, h1, h2⟩ := eo u hun p hp
    rw [hy] at e
    subst e
    exact add_edge_old B F X N T hd hu hun hvn huv adj eo hb1 hb2 hv h1 h2 hm hdo ap gi done
end Mine
end
section
open PySem PySem.W PySem.Calls PyProof.Rows
set_option maxRecDepth 100000
set_option maxHeartbeats 4000000
namespace Mine
theorem fresh_E10 : True := by
  w_top off
  trivial
local macro_rules | `(tactic| k_room) => `(tactic| ktr_room)
local macro_rules | `(tactic| walk_at "getAttr ref") => `(tactic| (k_here; k_dflt (first
  | refine' get_ownS ?k1 ?k2 ?k3 ?k4 ?k5 ?k6 ?k7 ?k8 ?k9 ?_; (case k1 => k_asm); (case k2 => k_asm); (case k3 => k_inst); (case k4 => k_is); (case k5 => k_is); (case k6 => k_is); (case k7 => k_is); (case k8 => k_get); (case k9 => k_handed); k_whole
  | refine' get_ownD ?k1 ?k2 ?k3 ?k4 ?k5 ?k6 ?k7 ?kt ?k8 ?k9 ?_; (case k1 => k_asm); (case k2 => k_asm); (case k3 => k_inst); (case k4 => k_is); (case k5 => k_is); (case k6 => k_is); (case k7 => k_is); (case kt => k_is); (case k8 => k_get); (case k9 => k_handed); k_whole)))
local macro_rules | `(tactic| walk_at "getMethod ref") => `(tactic| (k_here; k_dflt (first
  | refine' method_instS ?k1 ?k2 ?k3 ?k4 ?k5 ?k6 ?k7 ?_; (case k1 => k_asm); (case k2 => k_asm); (case k3 => k_inst); (case k4 => k_is); (case k5 => k_is); (case k6 => k_is); (case k7 => k_get); k_whole
  | refine' method_getS ?k1 ?k2 ?_; (case k1 => k_asm); (case k2 => k_mem); k_whole)))
local macro_rules | `(tactic| k_all) => `(tactic| exact far_of (by assumption) (by omega))
local macro_rules | `(tactic| walk_at "call builtin:dict.get") => `(tactic| (k_here; k_dflt (refine' getS_miss ?k1 ?k2 ?k3 ?k4 ?k5 ?_; (case k1 => k_asm); (case k2 => k_mem); (case k3 => k_keys); (case k4 => k_get); (case k5 => k_asm); k_whole)))
local macro_rules | `(tactic| walk_at "setItem ref str") => `(tactic| (k_here; k_dflt (refine' setS_new ?k1 ?k2 ?k3 ?k4 ?k5 ?k6 ?_; (case k1 => k_asm); (case k2 => k_asm); (case k6 => k_upd); (case k3 => k_keys); (case k4 => k_get); (case k5 => (rw [sizeLine_eq]; exact Nat.le_of_ble_eq_true (by with_unfolding_all rfl))); k_whole; intro h' F' N'; (try dsimp only [List.cons_append, List.nil_append] at N'); (try k_sweep))))
local macro_rules | `(tactic| walk_at "call builtin:dict.clear") => `(tactic| (k_here; k_dflt (refine' clear_K (knd := PySem.strKind _ _) ?k1 ?k2 ?k3 ?k4 ?_; (case k1 => k_asm); (case k2 => k_asm); (case k3 => k_updF); (case k4 => assumption); k_whole; intro h' o' F' N' hd'; (try dsimp only [List.cons_append, List.nil_append] at N'); (try k_sweep))))
local macro_rules | `(tactic| k_all) => `(tactic| with_reducible assumption)
local macro_rules | `(tactic| walk_at "call builtin:len") => `(tactic| (k_here; (with_reducible show wpAny _ _ (call (Value.builtin "len") [Value.ref _]) _ _ _); k_dflt (refine' len_ints_fit ?k1 ?k2 ?k3 ?_; (case k1 => exact News.isList (by k_asm) (by k_mem)); (case k2 => assumption); (case k3 => omega); k_whole)))
local macro_rules | `(tactic| walk_at "call builtin:sum") => `(tactic| (k_here; (with_reducible show wpAny _ _ (call (Value.builtin "sum") [Value.ref _]) _ _ _); k_dflt (refine' sumQ ?k0 ?k1 ?k2 ?k3 ?k4 ?k5 ?_; (case k0 => with_unfolding_all rfl); (case k1 => k_asm); (case k2 => k_asm); (case k3 => exact News.isList (by k_asm) (by k_mem)); (case k4 => assumption); (case k5 => assumption); k_whole); intro h' tk' t' F' N'))
local macro_rules | `(tactic| walk_at "call builtin:max") => `(tactic| (k_here; (with_reducible show wpAny _ _ (call (Value.builtin _) [Value.ref _]) _ _ _); k_dflt (refine' kso_max ?k1 ?k2 ?k3 ?k4 ?k5 ?k6 ?_; (case k1 => k_asm); (case k2 => k_asm); (case k3 => exact News.isList (by k_asm) (by k_mem)); (case k4 => assumption); (case k5 => omega); (case k6 => with_unfolding_all rfl); k_whole); intro h' M' t' k' F' N' a' b'))
local macro_rules | `(tactic| walk_at "call ref") => `(tactic| (k_here; (with_reducible show wpAny _ _ (call (Value.ref 672) _ _) _ _ _); refine Stop.mk ?_))
local macro_rules | `(tactic| walk_at "execs cons") => `(tactic| ((with_reducible show wpAny _ _ (execs (Stmt.Raise _ _ _ :: _) _) _ _ _); exact absurd (Eq.refl (α := Int) _) (by assumption)))
local macro_rules | `(tactic| walk_at "exec Assign cons ListComp") => `(tactic| (refine Stop.mk ?_))
local macro_rules | `(tactic| walk_at "exec While") => `(tactic| (refine Stop.mk ?_))
local macro_rules | `(tactic| walk_at "CompSrc") => `(tactic| (refine Stop.mk ?_))
local macro_rules | `(tactic| walk_at "CompEnd") => `(tactic| (refine Stop.mk ?_))
local macro_rules | `(tactic| walk_at "eval Name") => `(tactic| (k_here; (with_reducible show wpAny _ _ (eval (Expr.Name _ _) (compEnvC _ _ _ _)) _ _ _); k_dflt (first | (refine lcf_cell (by k_asm) (by rfl) (by repeat (first | with_reducible assumption | apply List.mem_cons_of_mem)) (by with_reducible assumption) ?_ (by rfl) (by rfl)))))
local macro_rules | `(tactic| walk_at "subscriptTail") => `(tactic| (k_here; (with_reducible show wpAny _ _ (subscriptTail _ _ (Value.ref _) (Value.int _ _)) _ _ _); k_dflt (first | (refine item_anyK (News.isList (by k_asm) (by repeat (first | with_reducible assumption | apply List.mem_cons_of_mem))) (by with_reducible assumption) (by omega) (by omega) (by omega) ?_ (by with_unfolding_all rfl))); intro _))
local macro_rules | `(tactic| walk_at "eval Name") => `(tactic| (k_here; (with_reducible show wpAny _ _ (eval (Expr.Name _ _) (envOfC _ _ _ _ _)) _ _ _); k_dflt (first | (refine nameX_C (by k_asm) (by rfl) (by repeat (first | with_reducible assumption | apply List.mem_cons_of_mem)) (by with_reducible assumption) ?_ (by rfl) (by rfl)))))
local macro_rules | `(tactic| walk_at "call builtin:list.sort") => `(tactic| (k_here; refine Stop.mk ?_))
local macro_rules | `(tactic| walk_at "eval Name") => `(tactic| (k_here; (with_reducible show wpAny _ _ (eval (Expr.Name _ _) (envOfC _ _ _ _ _)) _ _ _); k_dflt (first | (refine nameX_L (by k_asm) (by first | with_reducible assumption | rfl) ?_ (by rfl) (by rfl)))))
local macro_rules | `(tactic| walk_at "truthy ref") => `(tactic| (k_here; (with_reducible show wpAny _ _ (truthy (Value.ref _)) _ _ _); k_dflt (first | (refine truthy_stubs (by k_asm) (by k_mem) (by simp only [List.length_append, List.length_cons, List.length_nil]; omega) (by first | exact last_ne _ _ | rfl) ?_))))
local macro_rules | `(tactic| walk_at "call builtin:list.pop") => `(tactic| (k_here; (with_reducible show wpAny _ _ (call (Value.builtin _) [Value.ref _]) _ _ _); k_dflt (refine' pop_stub ?F ?N ?U ?l ?_; (case F => k_asm); (case N => k_asm); (case U => k_updF); (case l => omega); k_whole); intro h' c' F' N'; (try dsimp only at N')))
local macro_rules | `(tactic| walk_at "exec For") => `(tactic| (refine Stop.mk ?_))
local macro_rules | `(tactic| walk_at "subscriptTail Name Slice ref ref") => `(tactic| (k_here; (with_reducible show wpAny _ _ (subscriptTail _ (PySem.Expr.Slice _ _ none _) (Value.ref _) (Value.ref _)) _ _ _); k_dflt (first | (refine slice_stub (by k_asm) (by k_asm) (by k_mem) (by kmk_part) (by kmk_part) (by first | with_reducible exact pick_lastE _ _ (by omega) | with_reducible exact pick_lastF _ _ (by omega) | with_reducible exact pick_uptoF _ _ (by omega) | with_reducible exact pick_uptoE _ _ (by omega)) (by omega) ?_ (by with_unfolding_all rfl) (by kmk_pure))); intro D' h' F' N' l1))
local macro_rules | `(tactic| walk_at "call builtin:list.remove") => `(tactic| (refine Stop.mk ?_))
local macro_rules | `(tactic| walk_at "call ref") => `(tactic| (k_here; (with_reducible show wpAny _ _ (call (Value.ref 485) _ _) _ _ _); refine Stop.mk ?_))
local macro_rules | `(tactic| k_ne) => `(tactic| (refine neN ?_; (try dsimp only); first | with_reducible assumption | (refine Ne.symm ?_; with_reducible assumption)))
theorem maker0_N {w : World} {p : Program} {loose : List Str} {mean : ExcName → Option Value} {mg mb : Str → Option Value} {dp un : Nat} {gd : Option (List Code)} {cn : Str} {nm} {ig ic : Bool} {mo : List (Str × Const)} {a : Addr} {ccd : Value} {cl : List (Str × Addr)} {outer : List Env} {A₀ : Around} {base h₀ : Heap} {L : Addr} {m : Str → Option Value} {news : List (Addr × Obj)} {s : Shared}
    {Q E : Value → Shared → Prop} {x d ag an aa : Nat} {oag oan oaa : Obj} {t0 t1 t2 : Tok} {la lb ca cb : Nat} {av bv : List Value} {as bs : List Int} {q : Int} {Pure : List Nat → St → Prop} {PE : St → Prop} :
    Below A₀ base outer h₀ → Fr h₀ L s.heap m → (Mine.LawTop.hd.heap_39 w.params).In h₀ → News h₀ L s.heap ((aa, oaa) :: (an, oan) :: (ag, oag) :: (x, instObj 617 d) :: (d, dictOf [kE w "graph" t0 ag, kE w "_node" t1 an, kE w "_adj" t2 aa] 3) :: (la, listOf av.toArray ca) :: (lb, listOf bv.toArray cb) :: news) → Top p loose mean mg mb h₀ → dp + 100 < recursionLimit → un + 1000 < cLine →
    oag.IsDictOf (PySem.strKind PySem.Challenge.rw_ez0195_01.row.prog w) [] → oan.IsDictOf (PySem.strKind PySem.Challenge.rw_ez0195_01.row.prog w) [] → oaa.IsDictOf (PySem.strKind PySem.Challenge.rw_ez0195_01.row.prog w) [] → 
    (x == sysModules) = false → (aa == sysModules) = false → (an == sysModules) = false → (ag == sysModules) = false → (d == sysModules) = false →
    d < x → x < ag → ag < an → an < aa → (∀ p ∈ (la, listOf av.toArray ca) :: (lb, listOf bv.toArray cb) :: news, p.1 ≠ d) → (∀ p ∈ (la, listOf av.toArray ca) :: (lb, listOf bv.toArray cb) :: news, p.1 ≠ x) → (∀ p ∈ (la, listOf av.toArray ca) :: (lb, listOf bv.toArray cb) :: news, p.1 ≠ ag) → (∀ p ∈ (la, listOf av.toArray ca) :: (lb, listOf bv.toArray cb) :: news, p.1 ≠ an) → (∀ p ∈ (la, listOf av.toArray ca) :: (lb, listOf bv.toArray cb) :: news, p.1 ≠ aa) →
    IntsAre av as → IntsAre bv bs → as.length = 5 → bs.length ≤ 5 → as.sum = q → bs.sum = q → (∀ y ∈ as, 0 ≤ y ∧ y ≤ 8) → (∀ y ∈ bs, 1 ≤ y ∧ y ≤ 8) → 
    (∀ as1, as1.Perm (List.range as.length) → as1.Pairwise (stubLt fun v => if v < as.length then as.getD v 0 else bs.getD (v - as.length) 0) → Pure as1 ⟨(List.range bs.length).map fun v => as.length + v, fun v => if v < as.length then as.getD v 0 else bs.getD (v - as.length) 0, fun _ => []⟩) →
    (∀ (as' : List Nat) (u : Nat) (st : St) (bs' : List Nat), Pure (as' ++ [u]) st → st.Ok (as.length + bs.length) as.length → st.e u ≠ 0 → u < as.length → bs'.Perm st.bs → bs'.Pairwise (stubLt st.e) → Pure as' ((bs'.drop (bs'.length - (st.e u).toNat)).foldl (St.step u) { st with bs := bs' })) →
    (∀ as' u st, Pure (as' ++ [u]) st → st.e u = 0 → PE st) → (∀ st, Pure [] st → PE st) → (∀ as' st, Pure as' st → as'.Nodup ∧ ∀ u ∈ as', u < as.length ∧ 0 ≤ st.e u) → ((∀ y ∈ as, y = 0) → ∀ bs e, PE ⟨bs, e, fun _ => []⟩) →
    (∀ h' tk G' f' nv ta tb t3 gk Ad st, Fr h₀ L h' m → News h₀ L h' (((la, listOf av.toArray ca) :: (lb, listOf bv.toArray cb) :: news) ++ G') → Apart ((la, listOf av.toArray ca) :: (lb, listOf bv.toArray cb) :: news) G' →
      GI PySem.Challenge.rw_ez0195_01.row.prog w G' x d ag an aa [kE w "graph" t0 ag, kE w "_node" t1 an, kE w "_adj" t2 aa, kE w "adj" t3 aa, kE w "nodes" 777 nv] 5 f' (as.length + bs.length) Ad (fun v => [(PySem.Str.ofString "bipartite", if v < as.length then .int 0 ta else .int 1 tb)]) gk → AdjOf Ad st.N (as.length + bs.length) → PE st → Q (.ref x) { s with heap := h', toks := tk }) →
    wpN (model PySem.Challenge.rw_ez0195_01.row.prog w) (ktrTop dp un gd cn (csF nm ig ic mo) L a ccd cl outer) (call (.ref 653) [.ref la, .ref lb, .ref x] []) Q E s := by
  k_fill
  intro B F X N T hd hu e1 e2 e3 g0 g1 g2 g3 g4 l1 l2 l3 l4 l5 l6 l7 l8 l9 ia ib na nb hsa hsb ba bb pu0 pust puz pun puw puzz done
  have zna : (as.length : Int) = 5 := by omega
  refine n_call ?_
  refine' n_defC ?k1 ?k2 ?k3 ?k4 ?k5 ?kA ?kF ?kK ?k6 ?k7 ?k8 ?k9 ?kB ?kD ?_ ?c2 ?c3 ?c4
  case kA => exact rfl
  case kF => exact rfl
  case kK => exact rfl
  case k1 => k_asm
  case k2 => k_asm
  case k3 => k_asm
  case k4 => k_asm
  case k5 => k_asm
  case k6 => k_is
  case k7 => k_is
  case k8 => k_room
  case k9 => first | exact BindsTo.of_eq rfl | exact binds_K (by k_in) rfl (by k_is) rfl rfl rfl | fail "k_enter: no rule for these arguments"
  case kB => exact rfl
  case kD => decide +kernel
  case c2 => exact rfl
  case c3 => exact rfl
  case c4 => exact rfl
  intro g' L' h' tk' cells FG' F' N' Y' B' X' T' lw
  k_lt lw
  have lN := allLt_all lw.2.2.2.2.2.2.2
  k_cells Y'
  rename_i o1 o2 o3 d1 d2 d3
  (try simp only [List.cons_append, List.nil_append] at N')
  replace F' : Fr g' L' h' (fun y => if y = PySem.Str.ofString "create_using" then some (Value.ref x) else none) := by with_unfolding_all exact F'
  replace d1 : o1.data = .cell none := by with_unfolding_all exact d1
  replace d2 : o2.data = .cell (some (.ref lb)) := by with_unfolding_all exact d2
  replace d3 : o3.data = .cell (some (.ref la)) := by with_unfolding_all exact d3
  (try dsimp only)
  (try k_lift B')
  refine n_last (n_assign (n_callName ?_))
  k_steps
  refine n_callK (K := Mine.LawTop.hd.heap_39 w.params) X' (by k_is) ?_
  k_steps

  refine' empty_graph_N (t0 := t0) (t1 := t1) (t2 := t2) (news := (L' + 1 + 1 + 1, o1) :: (L' + 1 + 1, o2) :: (L' + 1, o3) :: (la, listOf av.toArray ca) :: (lb, listOf bv.toArray cb) :: news) (oan := oan) (oag := oag) (oaa := oaa) (d := d) (aa := aa) (ag := ag) (an := an) ?h1 ?h2 ?h3 ?h4 ?h5 ?h6 ?h7 ?h8 ?h9 ?h10 ?h11 ?h12 ?h13 ?h14 ?h15 ?h16 ?h17 ?h18 ?h19 ?h20 ?h21 ?h22 ?h23 ?_
  case h1 => k_asm
  case h2 => k_asm
  case h3 => k_asm
  case h4 =>
    refine News.perm N' ?_
    intro p hp
    simp only [List.mem_cons] at hp ⊢
    rcases hp with h | h | h | h | h | h | h | h | h | h | h <;> simp [h]
  case h5 => k_asm
  case h6 => ktr_room
  case h7 => ktr_units
  case h8 => k_asm
  case h9 => k_asm
  case h10 => k_asm
  case h11 => k_asm
  case h12 => k_asm
  case h13 => k_asm
  case h14 => k_asm
  case h15 => k_asm
  case h16 => k_asm
  case h17 => k_asm
  case h18 => k_asm
  case h19 => exact cells_ne (by omega) (by omega) (by omega) l5
  case h20 => exact cells_ne (by omega) (by omega) (by omega) l6
  case h21 => exact cells_ne (by omega) (by omega) (by omega) l7
  case h22 => exact cells_ne (by omega) (by omega) (by omega) l8
  case h23 => exact cells_ne (by omega) (by omega) (by omega) l9
  intro h2 tk2 t3 og on oa F2 N2 dg dn da
  k_fold
  k_steps
  refine Stop.out ?_
  rename News _ _ _ _ => NN
  rename Fr _ _ _ _ => FF
  rename _ = Data.cell (some (Value.int _ _)) => dc0
  rename PySem.Obj => oc
  obtain ⟨tn, dc⟩ : ∃ tn, oc.data = Data.cell (some (Value.int (as.length : Int) tn)) := ⟨_, dc0⟩
  clear dc0
  have hlL : la < L' := lw.2.2.2.2.2.1
  have hlb : lb < L' := lw.2.2.2.2.2.2.1
  have NL : News g' L' _ (((L' + 1 + 1 + 1, oc) :: (L' + 1 + 1, o2) :: (L' + 1, o3) :: (la, listOf av.toArray ca) :: (lb, listOf bv.toArray cb) :: news) ++ [(aa, oa), (an, on), (ag, og), (x, instObj 617 d), (d, dictS [kE w "graph" t0 ag, kE w "_node" t1 an, kE w "_adj" t2 aa, kE w "adj" t3 aa] 4)]) := News.perm NN (by
    intro p hp
    simp only [List.cons_append, List.nil_append, List.mem_cons, List.mem_append, List.not_mem_nil, or_false] at hp ⊢
    rcases hp with h | h | h | h | h | h | h | h | h | h | h <;> simp [h])
  have ap : Apart ((L' + 1 + 1 + 1, oc) :: (L' + 1 + 1, o2) :: (L' + 1, o3) :: (la, listOf av.toArray ca) :: (lb, listOf bv.toArray cb) :: news) [(aa, oa), (an, on), (ag, og), (x, instObj 617 d), (d, dictS [kE w "graph" t0 ag, kE w "_node" t1 an, kE w "_adj" t2 aa, kE w "adj" t3 aa] 4)] := by
    intro p hp q hq
    simp only [List.mem_cons, List.not_mem_nil, or_false] at hq
    rcases hq with h | h | h | h | h <;> rw [h]
    · exact cells_ne (by omega) (by omega) (by omega) l9 p hp
    · exact cells_ne (by omega) (by omega) (by omega) l8 p hp
    · exact cells_ne (by omega) (by omega) (by omega) l7 p hp
    · exact cells_ne (by omega) (by omega) (by omega) l6 p hp
    · exact cells_ne (by omega) (by omega) (by omega) l5 p hp
  have gi : GI PySem.Challenge.rw_ez0195_01.row.prog w [((aa : Addr), oa), (an, on), (ag, og), (x, instObj 617 d), (d, dictS [kE w "graph" t0 ag, kE w "_node" t1 an, kE w "_adj" t2 aa, kE w "adj" t3 aa] 4)] x d ag an aa [kE w "graph" t0 ag, kE w "_node" t1 an, kE w "_adj" t2 aa, kE w "adj" t3 aa] 4 (fun _ => 0) 0 (fun _ => []) (fun _ => []) [] := by
    refine ⟨by simp, by simp, ⟨og, by simp, dg⟩, ⟨on, by simp, dn⟩, ⟨oa, by simp, da⟩, fun v hv => absurd hv (Nat.not_lt_zero _), fun v hv => absurd hv (Nat.not_lt_zero _), fun i j hi => absurd hi (by omega), fun i hi => absurd hi (by omega), ?_, ?_, fun i hi => absurd hi (by omega)⟩
    · simp only [List.nodup_cons, List.mem_cons, List.not_mem_nil, or_false, not_or, List.nodup_nil, not_false_eq_true, and_true]
      omega
    · intro z hz
      simp only [List.mem_cons, List.not_mem_nil, or_false] at hz
      rcases hz with h | h | h | h | h <;> rw [h] <;> assumption
  obtain ⟨S0, hS0⟩ : ∃ S0, S0 = ((L' + 1 + 1 + 1 : Addr), oc) :: (L' + 1 + 1, o2) :: (L' + 1, o3) :: (la, listOf av.toArray ca) :: (lb, listOf bv.toArray cb) :: news := ⟨_, rfl⟩
  rw [← hS0] at NL ap
  clear NN
  refine' label (S := S0) (f := fun _ => 0) ?h1 ?h2 ?h3 NL ?h5 ?h6 ?h7 ?h8 ?h9 ?h10 ap gi ?_
  case h1 => k_asm
  case h2 => k_asm
  case h3 => k_asm
  case h5 => k_asm
  case h6 => ktr_room
  case h7 => ktr_units
  case h8 => omega
  case h9 => omega
  case h10 => omega
  intro h3 tk3 G1 f1 nv ta tb F3 N3 ap1 gi1
  clear NL ap gi
  rw [hS0] at N3
  try simp only [List.cons_append, List.nil_append] at N3
  k_fold
  k_steps
  · exfalso; omega
  · rename News h₀ _ _ _ => kN
    rename Fr h₀ _ _ _ => kF
    refine done _ _ G1 f1 nv ta tb t3 [] (fun _ => []) ⟨[], fun _ => 0, fun _ => []⟩ kF (News.perm kN (fun p hp => ?_)) ?_ gi1 (fun _ _ => rfl) (puzz (fun y hy => ?_) _ _)
    · simp only [List.cons_append, List.mem_cons] at hp ⊢
      rcases hp with h | h | h <;> simp [h]
    · intro p hp q hq
      refine ap1 p ?_ q hq
      rw [hS0]
      simp only [List.mem_cons] at hp ⊢
      rcases hp with h | h | h <;> simp [h]
    · rename ∀ a : Int, a ∈ as → _ => bM
      have z1 := bM y hy
      have z2 := (ba y hy).1
      omega
  refine Stop.out ?_
  refine LCg.Assign_ListComp_U (F₀ := by k_asm) (by rfl) (by with_unfolding_all rfl) (by with_unfolding_all rfl) (by decide) (by rfl) (by decide) (by rfl) (by rfl) (by rfl) ?_
  k_steps
  refine Stop.out ?_
  rename News _ _ _ _ => NN
  rename IsRange _ _ _ _ _ _ _ _ => hir
  have hsmA : Builtin.Range.small 0 (as.length : Int) 1 = true := small_one (by omega) (by omega) (by omega) (by omega)
  have hrsA : Builtin.Range.rangeSize 0 (as.length : Int) 1 = (as.length : Int) := by rw [rangeSize_nat]; omega
  refine LCg.CompSrc.range (by rfl) (by k_asm) (by k_asm) hir hsmA hrsA (by rw [sizeLine_eq]; omega) ?_
  intro gg
  obtain ⟨base1, hb1⟩ : ∃ b : List (Addr × Obj), b = ((L' + 1 + 1 + 1 : Addr), oc) :: (L' + 1 + 1, o2) :: (L' + 1, o3) :: (la, listOf av.toArray ca) :: (lb, listOf bv.toArray cb) :: (news ++ G1) := ⟨_, rfl⟩
  refine comp_loop (J := fun i ys nw => ∃ P, ys = refs P i ∧ LayJ base1 0 (fun j => as.getD j 0) i P nw) ?h0 ?turn ?fin
  case h0 => exact ⟨fun _ => 0, rfl, by rw [← hb1]; exact LayJ.zero⟩
  case turn =>
    intro i ys nw hi hJ v I oI C oC D m2 hh tt E' hv hC hx F2 N2 off ne
    obtain ⟨P, rfl, J⟩ := hJ
    obtain ⟨t9, rfl⟩ := hv
    have mc3 : (L' + 1, o3) ∈ nw := J.keep _ (by rw [hb1]; simp)
    have mla : (la, listOf av.toArray ca) ∈ nw := J.keep _ (by rw [hb1]; simp)
    clear NN
    k_steps
    refine Stop.out ?_
    refine lay_step (by with_reducible assumption) N2 (by with_reducible assumption) rfl off J (by omega) (by simp)
  case fin =>
    rintro ys nw1 ⟨P0, rfl, J1⟩
    unfold LCg.FinA
    intro LA h4 tk4 F4 N4 oA
    have mc1 : (L' + 1 + 1 + 1, oc) ∈ nw1 := J1.keep _ (by rw [hb1]; simp)
    clear NN
    try dsimp only
    try k_fold
    k_steps
    refine Stop.out ?_
    have hsmB : Builtin.Range.small (as.length : Int) ((as.length : Int) + (bs.length : Int)) 1 = true := small_one (by omega) (by omega) (by omega) (by omega)
    have hrsB : Builtin.Range.rangeSize (as.length : Int) ((as.length : Int) + (bs.length : Int)) 1 = (bs.length : Int) := by rw [rangeSize_nat]; omega
    refine LCg.Assign_ListComp_U (F₀ := by k_asm) (by rfl) (by with_unfolding_all rfl) (by with_unfolding_all rfl) (by decide) (by rfl) (by decide) (by rfl) (by rfl) (by rfl) ?_
    k_steps
    refine Stop.out ?_
    rename IsRange _ _ _ _ _ _ _ _ => hir2
    refine LCg.CompSrc.range (by rfl) (by k_asm) (by k_asm) hir2 hsmB hrsB (by rw [sizeLine_eq]; omega) ?_
    intro gg2
    obtain ⟨base2, hb2⟩ : ∃ b : List (Addr × Obj), b = (LA, LCg.lst (refs P0 as.length)) :: nw1 := ⟨_, rfl⟩
    refine comp_loop (J := fun i ys nw => ∃ P, ys = refs P i ∧ LayJ base2 as.length (fun j => bs.getD j 0) i P nw) ?h0 ?turn ?fin
    case h0 => exact ⟨fun _ => 0, rfl, by rw [← hb2]; exact LayJ.zero⟩
    case turn =>
      intro i ys nw hi hJ v I oI C oC D m2 hh tt E' hv hC hx F2 N2 off ne
      obtain ⟨P, rfl, J⟩ := hJ
      obtain ⟨t9, rfl⟩ := hv
      have mc1' : (L' + 1 + 1 + 1, oc) ∈ nw := J.keep _ (by rw [hb2]; exact List.mem_cons_of_mem _ mc1)
      have mc2 : (L' + 1 + 1, o2) ∈ nw := J.keep _ (by rw [hb2]; exact List.mem_cons_of_mem _ (J1.keep _ (by rw [hb1]; simp)))
      have mlb : (lb, listOf bv.toArray cb) ∈ nw := J.keep _ (by rw [hb2]; exact List.mem_cons_of_mem _ (J1.keep _ (by rw [hb1]; simp)))
      k_steps
      refine Stop.out ?_
      refine lay_step (by with_reducible assumption) N2 (by with_reducible assumption) rfl off J (by omega) (by rw [show ((as.length : Int) + (i : Int) - (as.length : Int)).toNat = i by omega])
    case fin =>
      rintro ys nw2 ⟨P1, rfl, J2⟩
      unfold LCg.FinA
      intro LB h5 tk5 F5 N5 oB
      rw [← List.cons_append, ← List.cons_append, ← List.cons_append, ← List.cons_append, ← List.cons_append, ← hS0] at hb1
      obtain ⟨S1, hS1, ap2, ti⟩ := stubs_laid hb1 hb2 J1 oA J2 oB ap1
      have NT : News g' L' h5 (S1 ++ G1) := News.perm N5 hS1
      clear N5
      obtain ⟨cA, mA⟩ := ti.sa
      have NF := front_of (es := [(LA, _)]) NT (fun p hp => by rw [List.mem_singleton.mp hp]; exact List.mem_append_left _ mA)
      obtain ⟨R, hR⟩ : ∃ R, R = rms (S1 ++ G1) ([(LA, listOf (refsOf (fun v => if v < as.length then P0 v else P1 (v - as.length)) (List.range as.length)) cA)].map (·.1)) := ⟨_, rfl⟩
      rw [← hR] at NF
      have rA : ∀ p ∈ R, p.1 ≠ LA := by rw [hR]; exact rms_ne (by simp)
      simp only [List.cons_append, List.nil_append] at NF
      have uY : Uniq (S1 ++ G1) := fun hp hq e => News.uniq NT hp hq e
      clear NT
      try dsimp only
      try k_fold
      k_steps
      refine Stop.out ?_
      refine sort_stubs (P := fun v => if v < as.length then P0 v else P1 (v - as.length)) (e := fun v => if v < as.length then as.getD v 0 else bs.getD (v - as.length) 0) (l := List.range as.length) (by ktr_units) (by with_reducible assumption) NF (UpdF.head rA) (by rw [List.length_range]; omega) List.nodup_range ?hS ?_
      case hS =>
        intro v hv
        obtain ⟨t, t', k, hm⟩ := ti.pr v (by have := List.mem_range.mp hv; omega)
        refine ⟨t, t', k, List.mem_cons_of_mem _ ?_⟩
        rw [hR]
        exact mem_rms (List.mem_append_left _ hm) (by simpa using (ti.offP v (by have := List.mem_range.mp hv; omega)).1)
      intro as1 cA1 h6 hperm hsort F6 N6
      have NT : News g' L' h6 (((LA, listOf (refsOf (fun v => if v < as.length then P0 v else P1 (v - as.length)) as1) cA1) :: rms S1 [LA]) ++ G1) := News.perm N6 (by
        intro p hp
        simp only [List.cons_append, List.mem_cons, List.mem_append] at hp ⊢
        rcases hp with h | h | h
        · exact .inl h
        · exact .inr (by rw [hR]; exact mem_rms (List.mem_append_left _ (rms_sub p h)) (by simpa using rms_ne (by simp) p h))
        · exact .inr (by rw [hR]; exact mem_rms (List.mem_append_right _ h) (by simpa using (ap2 _ mA p h).symm)))
      have ap3 : Apart ((LA, listOf (refsOf (fun v => if v < as.length then P0 v else P1 (v - as.length)) as1) cA1) :: rms S1 [LA]) G1 := by
        intro p hp q hq
        rcases List.mem_cons.mp hp with h | h
        · rw [h]; exact ap2 _ mA q hq
        · exact ap2 p (rms_sub p h) q hq
      have ti3 := ti.setA (S' := (LA, listOf (refsOf (fun v => if v < as.length then P0 v else P1 (v - as.length)) as1) cA1) :: rms S1 [LA]) (fun p hp q => List.mem_cons_of_mem _ (mem_rms hp (by simpa using q))) List.mem_cons_self
      obtain ⟨PP, hPP⟩ : ∃ PP : Nat → Nat, PP = fun v => if v < as.length then P0 v else P1 (v - as.length) := ⟨_, rfl⟩
      rw [← hPP] at NT ap3 ti3
      generalize ((LA, listOf (refsOf PP as1) cA1) :: rms S1 [LA]) = S3 at NT ap3 ti3
      clear ti uY mA hS1 J1 J2 oA oB rA
      try dsimp only
      try k_fold
      k_steps
      refine Stop.out ?_
      refine wpAny_mono (Q := WhEnd PySem.Challenge.rw_ez0195_01.row.prog w S0 x d ag an aa [kE w "graph" t0 ag, kE w "_node" t1 an, kE w "_adj" t2 aa, kE w "adj" t3 aa, kE w "nodes" 777 nv] f1 (as.length + bs.length) (fun v => [(PySem.Str.ofString "bipartite", if v < as.length then .int 0 ta else .int 1 tb)]) PE g' L' s) ?wh (fun fl s' hq => ?aft) (fun _ _ e => e)
      case wh =>
        refine While_inv2 (L := L') (news := S3 ++ G1) (n₀ := as1.length) (WhJ PySem.Challenge.rw_ez0195_01.row.prog w S0 x d ag an aa [kE w "graph" t0 ag, kE w "_node" t1 an, kE w "_adj" t2 aa, kE w "adj" t3 aa, kE w "nodes" 777 nv] f1 (as.length + bs.length) as.length (fun v => [(PySem.Str.ofString "bipartite", if v < as.length then .int 0 ta else .int 1 tb)]) LA LB PP Pure) (by k_asm) (by k_asm) ⟨⟨by with_unfolding_all rfl, by with_unfolding_all rfl, by with_unfolding_all rfl⟩, S3, G1, as1, _, _, rfl, rfl, ⟨ap3, ti3, gi1, fun _ _ => rfl, fun _ _ q hq => (nomatch hq), ?ok0⟩, pu0 as1 hperm hsort⟩ ?turn
        case ok0 =>
          refine ok_start (dgA := fun v => as.getD v 0) (dgB := fun v => bs.getD v 0) fun j hj => ?_
          show 1 ≤ bs.getD j 0
          have : bs.getD j 0 = bs[j] := by simp [hj]
          rw [this]
          exact (bb _ (List.getElem_mem _)).1
        case turn =>
          intro k m1 nn h1 tk1 F1 N1 J1
          obtain ⟨⟨va, vb, vg⟩, S, G, as2, st, Ad, rfl, rfl, mk, pu⟩ := J1
          have e1 : m1 = fun y => if y = PySem.Str.ofString "astubs" then some (.ref LA) else if y = PySem.Str.ofString "bstubs" then some (.ref LB) else if y = PySem.Str.ofString "G" then some (.ref x) else m1 y := by
            funext y
            split
            · rename_i z; rw [z]; exact va
            · split
              · rename_i z; rw [z]; exact vb
              · split
                · rename_i z; rw [z]; exact vg
                · rfl
          rw [e1] at F1
          obtain ⟨cA2, mA2⟩ := mk.ti.sa
          obtain ⟨cB2, mB2⟩ := mk.ti.sb
          have bl : st.bs.length ≤ 5 := Nat.le_trans (nodup_from mk.ok.bnd mk.ok.bin) (by omega)
          rcases nil_or_last as2 with rfl | ⟨as', u, rfl⟩
          · obtain ⟨NF, rA⟩ := front1 N1 (List.mem_append_left _ mA2)
            k_steps
            refine ⟨rfl, _, _, _, S, G, st, Ad, rfl, by with_reducible assumption, by with_unfolding_all rfl, N1, mk.ti.rest, mk.ap, mk.gi, mk.adj, pun st pu⟩
          · have ul := (puw _ _ pu).2 u (by simp)
            have hu0 : 0 ≤ st.e u := ul.2
            have aN : as'.length ≤ 5 := by
              have z := nodup_len (puw _ _ pu).1 (fun v hv => ((puw _ _ pu).2 v hv).1)
              rw [List.length_append] at z
              simp only [List.length_cons, List.length_nil] at z
              omega
            obtain ⟨tu, tu', ku, mu⟩ := mk.ti.pr u (by omega)
            have offu := mk.ti.offP u (by omega)
            have offA := mk.ti.offA
            have hes : ∀ p ∈ [((LA : Addr), listOf (refsOf PP (as' ++ [u])) cA2), (PP u, pairObj (st.e u) tu (u : Int) tu' ku), (LB, listOf (refsOf PP st.bs) cB2)], p ∈ S ++ G := by
              intro p hp
              simp only [List.mem_cons, List.not_mem_nil, or_false] at hp
              rcases hp with h | h | h <;> rw [h]
              · exact List.mem_append_left _ mA2
              · exact List.mem_append_left _ mu
              · exact List.mem_append_left _ mB2
            have NF : News g' L' h1 ((LA, listOf (refsOf PP (as' ++ [u])) cA2) :: (PP u, pairObj (st.e u) tu (u : Int) tu' ku) :: (LB, listOf (refsOf PP st.bs) cB2) :: rms (S ++ G) [LA, PP u, LB]) := front_of N1 hes
            obtain ⟨R, hR⟩ : ∃ R, R = rms (S ++ G) [LA, PP u, LB] := ⟨_, rfl⟩
            have rA : ∀ p ∈ R, p.1 ≠ LA := by rw [hR]; exact rms_ne (by simp)
            have rP : ∀ p ∈ R, p.1 ≠ PP u := by rw [hR]; exact rms_ne (by simp)
            have rB : ∀ p ∈ R, p.1 ≠ LB := by rw [hR]; exact rms_ne (by simp)
            rw [← hR] at NF
            have uS : Uniq S := fun hp hq e => News.uniq N1 (List.mem_append_left _ hp) (List.mem_append_left _ hq) e
            clear N1
            k_steps
            · rename News _ _ _ _ => NB0
              rw [hR] at NB0
              have hkk : ∀ k ∈ [LA, PP u, LB], ∃ o, ((k : Addr), o) ∈ S := by
                intro k hk
                simp only [List.mem_cons, List.not_mem_nil, or_false] at hk
                rcases hk with h | h | h <;> rw [h]
                · exact ⟨_, mA2⟩
                · exact ⟨_, mu⟩
                · exact ⟨_, mB2⟩
              have NB := back_news (keys := [LA, PP u, LB]) (es' := [(LA, _), (PP u, _), (LB, _)]) NB0 hkk mk.ap
              refine ⟨rfl, _, _, _, _, G, st, Ad, rfl, by with_reducible assumption, by with_unfolding_all rfl, NB, fun p hp => mem_back (mk.ti.rest p hp) (fun hk => ?_), back_apart hkk (by simp) mk.ap, mk.gi, mk.adj, puz _ _ _ pu (by assumption)⟩
              have z := mk.ti.off0 p hp
              simp only [List.mem_cons, List.not_mem_nil, or_false] at hk
              rcases hk with h | h | h
              · exact absurd h z.1
              · exact absurd h (z.2.2 u (by omega))
              · exact absurd h z.2.1
            refine Stop.out ?_
            have inR : ∀ v, v < as.length + bs.length → v ≠ u → ∃ t t' k, (PP v, pairObj (st.e v) t (v : Int) t' k) ∈ R := by
              intro v hv hne
              obtain ⟨t, t', k, hm⟩ := mk.ti.pr v hv
              have z := mk.ti.offP v hv
              have z2 := mk.ti.inj v u hv (by omega) hne
              exact ⟨t, t', k, by rw [hR]; exact mem_rms (List.mem_append_left _ hm) (by simp [z.1, z.2, z2])⟩
            refine sort_stubs (P := PP) (e := st.e) (l := st.bs) (by ktr_units) (by with_reducible assumption) (by with_reducible assumption) (UpdF.tail (by exact offA) (UpdF.tail (by exact offu.2) (UpdF.head rB))) bl mk.ok.bnd ?hS ?_
            case hS =>
              intro v hv
              have z := mk.ok.bin v hv
              obtain ⟨t, t', k, hm⟩ := inR v z.2 (by omega)
              exact ⟨t, t', k, by simp [hm]⟩
            intro bs1 cB1 h7 hpermB hsortB F7 N7
            have bl1 : bs1.length ≤ 5 := by rw [hpermB.length_eq]; exact bl
            try dsimp only
            try k_fold
            k_steps
            refine Stop.out ?_
            refine' for_own ?F ?hx ?hp ?_
            case F => k_asm
            case hx => exact rfl
            case hp => rfl
            k_steps
            rename ∀ p : Addr × Obj, p ∈ ((LA : Addr), _) :: _ → _ => lD
            rename News _ _ _ _ => ND
            rename PySem.Addr => D
            rw [hR] at ND lD
            obtain ⟨S2, NS2, mD2, mk2⟩ := loop_start mk uS mA2 mu mB2 (by omega) ND lD hpermB
            clear ND lD
            obtain ⟨DD, hDD⟩ : ∃ DD, DD = bs1.drop (bs1.length - (st.e u).toNat) := ⟨_, rfl⟩
            rw [← hDD] at mD2 mk2
            have pure1 := pust as' u st bs1 pu mk.ok (by assumption) ul.1 hpermB hsortB
            rw [← hDD] at pure1
            have inDD : ∀ v ∈ DD, as.length ≤ v ∧ v < as.length + bs.length := fun v hv => mk.ok.bin v (hpermB.mem_iff.mp (by rw [hDD] at hv; exact List.mem_of_mem_drop hv))
            refine loop_listM (items := refsOf PP DD) (c := 0) [PySem.Str.ofString "v"] (fun I i u' n' => ∃ S' G' Ad', n' = S' ++ G' ∧ Mk PySem.Challenge.rw_ez0195_01.row.prog w ((D, listOf (refsOf PP DD) 0) :: S0) x d ag an aa [kE w "graph" t0 ag, kE w "_node" t1 an, kE w "_adj" t2 aa, kE w "adj" t3 aa, kE w "nodes" 777 nv] f1 (as.length + bs.length) as.length (fun v => [(PySem.Str.ofString "bipartite", if v < as.length then .int 0 ta else .int 1 tb)]) LA LB PP as' ((DD.take i).foldl (St.step u) { st with bs := bs1 }) S' G' Ad') ?hh (by k_asm) NS2 ?hm ?h0 ?turn2 ?done2
            case hh => rfl
            case hm => exact List.mem_append_left _ (hDD ▸ mD2)
            case h0 => exact fun I hI => ⟨S2, G, Ad, rfl, by simpa using mk2⟩
            case turn2 =>
              intro I i v uu hh tk oI news1 hI hv hJ F9 N9 hnI
              obtain ⟨S', G', Ad', rfl, mk9⟩ := hJ
              obtain ⟨tg, htg, rfl⟩ : ∃ tg, DD[i]? = some tg ∧ v = .ref (PP tg) := by
                simp only [List.getElem?_toArray, List.getElem?_map] at hv
                cases hd : DD[i]? with
                | none => rw [hd] at hv; simp at hv
                | some tg => rw [hd] at hv; exact ⟨tg, rfl, (by simpa using hv.symm)⟩
              have htgD : tg ∈ DD := List.mem_of_getElem? htg
              have rg := inDD tg htgD
              obtain ⟨sti, hsti⟩ : ∃ sti, sti = (DD.take i).foldl (St.step u) { st with bs := bs1 } := ⟨_, rfl⟩
              rw [← hsti] at mk9
              have hnext : (DD.take (i + 1)).foldl (St.step u) { st with bs := bs1 } = sti.step u tg := by
                rw [List.take_succ, htg, List.foldl_append, ← hsti]; rfl
              obtain ⟨t1', t1'', k1, m1⟩ := mk9.ti.pr tg rg.2
              obtain ⟨c2, m2⟩ := mk9.ti.sb
              have mD9 := mk9.ti.rest _ List.mem_cons_self
              have offt := mk9.ti.offP tg rg.2
              have NY : News g' L' hh ((I, oI) :: (S' ++ G')) := News.perm N9 (fun p hp => by
                simp only [List.mem_cons] at hp ⊢
                rcases hp with h | h
                · exact .inl h
                · exact .inr (.inr h))
              have mX := mk9.gi.inst
              have mDd := mk9.gi.dict
              have hes : ∀ p ∈ [((PP tg : Addr), pairObj (sti.e tg) t1' (tg : Int) t1'' k1), (x, instObj 617 d), (d, dictS [kE w "graph" t0 ag, kE w "_node" t1 an, kE w "_adj" t2 aa, kE w "adj" t3 aa, kE w "nodes" 777 nv] 5)], p ∈ (I, oI) :: (S' ++ G') := by
                intro p hp
                simp only [List.mem_cons, List.not_mem_nil, or_false] at hp
                rcases hp with h | h | h <;> rw [h]
                · simp [m1]
                · simp [mX]
                · simp [mDd]
              have NF9 : News g' L' hh ((PP tg, pairObj (sti.e tg) t1' (tg : Int) t1'' k1) :: (x, instObj 617 d) :: (d, dictS [kE w "graph" t0 ag, kE w "_node" t1 an, kE w "_adj" t2 aa, kE w "adj" t3 aa, kE w "nodes" 777 nv] 5) :: rms ((I, oI) :: (S' ++ G')) [PP tg, x, d]) := front_of NY hes
              have uY : Uniq ((I, oI) :: (S' ++ G')) := fun hp hq e => News.uniq NY hp hq e
              have apI : Apart ((I, oI) :: S') G' := by
                intro p hp q hq
                rcases List.mem_cons.mp hp with e | hp
                · rw [e]; exact (hnI q (List.mem_append_right _ hq)).symm
                · exact mk9.ap p hp q hq
              have uS9 : Uniq S' := fun hp hq e => uY (List.mem_cons_of_mem _ (List.mem_append_left _ hp)) (List.mem_cons_of_mem _ (List.mem_append_left _ hq)) e
              clear N9
              k_steps
              refine Stop.out ?_
              rename News _ _ _ _ => NC
              have NY2 := back_all (es := [((PP tg : Addr), pairObj (sti.e tg) t1' (tg : Int) t1'' k1), (x, instObj 617 d), (d, dictS [kE w "graph" t0 ag, kE w "_node" t1 an, kE w "_adj" t2 aa, kE w "adj" t3 aa, kE w "nodes" 777 nv] 5)]) NC hes uY
              have okN := mk9.ok
              refine' add_edge_any (u := u) (v := tg) (S := (I, oI) :: S') (G := G') (f := f1) (Ad := Ad') (Nb := sti.N) ?a1 ?a2 ?a3 NY2 ?a5 ?a6 ?a7 ?a8 ?a9 ?a10 mk9.adj mk9.eo ?a13 ?a14 apI mk9.gi ?_
              case a1 => k_asm
              case a2 => k_asm
              case a3 => k_asm
              case a5 => k_asm
              case a6 => ktr_room
              case a7 => ktr_units
              case a8 => omega
              case a9 => exact rg.2
              case a10 => omega
              case a13 => exact Nat.le_trans (nodup_len (okN.nnd u) (okN.nin u)) (by omega)
              case a14 => exact Nat.le_trans (nodup_len (okN.nnd tg) (okN.nin tg)) (by omega)
              intro h8 tk8 G2 Ad2 F8 N8 ap8 gi8 adj8 eo8
              have hes8 : ∀ p ∈ [((PP tg : Addr), pairObj (sti.e tg) t1' (tg : Int) t1'' k1), (LB, listOf (refsOf PP sti.bs) c2)], p ∈ ((I, oI) :: S') ++ G2 := by
                intro p hp
                simp only [List.mem_cons, List.not_mem_nil, or_false] at hp
                rcases hp with h | h <;> rw [h]
                · simp [m1]
                · simp [m2]
              have NF8 : News g' L' h8 ((PP tg, pairObj (sti.e tg) t1' (tg : Int) t1'' k1) :: (LB, listOf (refsOf PP sti.bs) c2) :: rms (((I, oI) :: S') ++ G2) [PP tg, LB]) := front_of N8 hes8
              obtain ⟨R8, hR8⟩ : ∃ R8, R8 = rms (((I, oI) :: S') ++ G2) [PP tg, LB] := ⟨_, rfl⟩
              have rT8 : ∀ p ∈ R8, p.1 ≠ PP tg := by rw [hR8]; exact rms_ne (by simp)
              have rL8 : ∀ p ∈ R8, p.1 ≠ LB := by rw [hR8]; exact rms_ne (by simp)
              rw [← hR8] at NF8
              clear N8 NY2 NC
              try dsimp only
              try k_fold
              k_steps
              · refine Stop.out ?_
                rename News _ _ _ _ => NR
                have hz : sti.e tg - 1 = 0 := by assumption
                replace NR : News g' L' _ ((PP tg, pairObj (sti.e tg - 1) _ (tg : Int) t1'' k1) :: (LB, listOf (refsOf PP sti.bs) c2) :: R8) := NR
                have htb : tg ∈ sti.bs := (okN.inb tg rg.1 rg.2).mpr (by omega)
                have bl9 : sti.bs.length ≤ 60 := Nat.le_trans (nodup_from okN.bnd okN.bin) (by omega)
                refine remove_stub (P := PP) (e := fun k => if k = tg then sti.e tg - 1 else sti.e k) (l := sti.bs) (by ktr_units) (by with_reducible assumption) NR (UpdF.tail (by exact offt.2) (UpdF.head rL8)) bl9 ?hS9 htb ?_
                case hS9 =>
                  intro v hv
                  by_cases qv : v = tg
                  · subst qv
                    exact ⟨_, _, _, by simp only [if_true]; exact List.mem_cons_self⟩
                  · have zv := okN.bin v hv
                    obtain ⟨tv, tv', kv, hm⟩ := mk9.ti.pr v zv.2
                    refine ⟨tv, tv', kv, ?_⟩
                    simp only [qv, if_false]
                    refine List.mem_cons_of_mem _ (List.mem_cons_of_mem _ ?_)
                    rw [hR8]
                    exact mem_rms (by simp [hm]) (by simp [mk9.ti.inj v tg zv.2 rg.2 qv, (mk9.ti.offP v zv.2).2])
                intro h10 c10 F10 N10
                rw [hR8] at N10
                obtain ⟨S3', n1, n2, n3⟩ := turn_end mk9 uS9 m1 m2 rg (by omega) (fun p hp => hnI p (List.mem_append_left _ hp)) ap8 gi8 adj8 eo8 rfl (by rw [if_pos hz]) N10
                try dsimp only
                try k_fold
                k_steps
                refine ⟨_, _, _, _, rfl, F10, n1, n2, ?_, S3', G2, Ad2, rfl, by rw [hnext]; exact n3⟩
                intro y hy1 hy2
                have hy3 : y ≠ PySem.Str.ofString "v" := fun e => by rw [e] at hy2; exact absurd hy2 (by decide)
                simp only [hy3, hy1, hy2, if_false, Bool.false_eq_true]
              · rename News _ _ _ _ => NR
                rename Fr _ _ _ _ => FR
                have hz : ¬ (sti.e tg - 1 = 0) := by assumption
                replace NR : News g' L' _ ((PP tg, pairObj (sti.e tg - 1) _ (tg : Int) t1'' k1) :: (LB, listOf (refsOf PP sti.bs) c2) :: R8) := NR
                rw [hR8] at NR
                obtain ⟨S3', n1, n2, n3⟩ := turn_end mk9 uS9 m1 m2 rg (by omega) (fun p hp => hnI p (List.mem_append_left _ hp)) ap8 gi8 adj8 eo8 rfl (by rw [if_neg hz]) NR
                refine ⟨_, _, _, _, rfl, FR, n1, n2, ?_, S3', G2, Ad2, rfl, by rw [hnext]; exact n3⟩
                intro y hy1 hy2
                have hy3 : y ≠ PySem.Str.ofString "v" := fun e => by rw [e] at hy2; exact absurd hy2 (by decide)
                simp only [hy3, hy1, hy2, if_false, Bool.false_eq_true]
            case done2 =>
              intro I uu hh tk news' hI hJ F9 N9 hn9
              obtain ⟨S', G', Ad', rfl, mk9⟩ := hJ
              rw [show (refsOf PP DD).size = DD.length by simp, List.take_length] at mk9
              try dsimp only
              try k_fold
              k_steps
              refine ⟨_, _, _, _, as'.length, rfl, F9, N9, by simp, ⟨by with_unfolding_all rfl, by with_unfolding_all rfl, by with_unfolding_all rfl⟩, S', G', as', _, Ad', rfl, rfl, mk9.weak, pure1⟩
      case aft =>
        obtain ⟨rfl, h9, tk9, m9, S9, G9, st9, Ad9, rfl, F9, vg9, N9, rest9, ap9, gi9, adj9, pe9⟩ := hq
        have e9 : m9 = fun y => if y = PySem.Str.ofString "G" then some (.ref x) else m9 y := by
          funext y
          split
          · rename_i z; rw [z]; exact vg9
          · rfl
        rw [e9] at F9
        obtain ⟨og9, mg9, dg9⟩ := gi9.gr
        have uY9 : Uniq (S9 ++ G9) := fun hp hq e => News.uniq N9 hp hq e
        have hes9 : ∀ p ∈ [((ag : Addr), og9), (x, instObj 617 d), (d, dictS [kE w "graph" t0 ag, kE w "_node" t1 an, kE w "_adj" t2 aa, kE w "adj" t3 aa, kE w "nodes" 777 nv] 5)], p ∈ S9 ++ G9 := by
          intro p hp
          simp only [List.mem_cons, List.not_mem_nil, or_false] at hp
          rcases hp with h | h | h <;> rw [h]
          · exact List.mem_append_right _ mg9
          · exact List.mem_append_right _ gi9.inst
          · exact List.mem_append_right _ gi9.dict
        have NF9 : News g' L' h9 ((ag, og9) :: (x, instObj 617 d) :: (d, dictS [kE w "graph" t0 ag, kE w "_node" t1 an, kE w "_adj" t2 aa, kE w "adj" t3 aa, kE w "nodes" 777 nv] 5) :: rms (S9 ++ G9) [ag, x, d]) := front_of N9 hes9
        obtain ⟨R9, hR9⟩ : ∃ R9, R9 = rms (S9 ++ G9) [ag, x, d] := ⟨_, rfl⟩
        have rG9 : ∀ p ∈ R9, p.1 ≠ ag := by rw [hR9]; exact rms_ne (by simp)
        rw [← hR9] at NF9
        clear N9
        try dsimp only
        try k_fold
        k_steps
        rename News h₀ _ _ _ => kN
        rename Fr h₀ _ _ _ => kF
        rename Obj.IsDictOf _ _ (stored [] _ _) => dn9
        rw [hR9] at kN
        have rest9' : ∀ p ∈ ((la : Addr), listOf av.toArray ca) :: (lb, listOf bv.toArray cb) :: news, p ∈ S9 := fun p hp => rest9 p (by
          rw [hS0]
          simp only [List.mem_cons] at hp ⊢
          rcases hp with h | h | h <;> simp [h])
        obtain ⟨n1, n2⟩ := name_end gi9 ap9 mg9 uY9 rest9' kN
        exact done _ _ _ f1 nv ta tb t3 _ Ad9 st9 kF n1 n2 (gi9.gname dn9) adj9 pe9
end Mine
end
section
open PySem PySem.W PySem.Calls PyProof.Rows
set_option maxRecDepth 100000
set_option maxHeartbeats 4000000
namespace Mine
theorem fresh_E11 : True := by
  w_top off
  trivial
local macro_rules | `(tactic| walk_at "nought") => `(tactic| fail)
local macro_rules | `(tactic| k_room) => `(tactic| ktr_room)
local macro_rules | `(tactic| walk_at "getAttr ref") => `(tactic| (k_here; k_dflt (first
  | refine' get_ownS ?k1 ?k2 ?k3 ?k4 ?k5 ?k6 ?k7 ?k8 ?k9 ?_; (case k1 => k_asm); (case k2 => k_asm); (case k3 => k_inst); (case k4 => k_is); (case k5 => k_is); (case k6 => k_is); (case k7 => k_is); (case k8 => k_get); (case k9 => k_handed); k_whole
  | refine' get_ownD ?k1 ?k2 ?k3 ?k4 ?k5 ?k6 ?k7 ?kt ?k8 ?k9 ?_; (case k1 => k_asm); (case k2 => k_asm); (case k3 => k_inst); (case k4 => k_is); (case k5 => k_is); (case k6 => k_is); (case k7 => k_is); (case kt => k_is); (case k8 => k_get); (case k9 => k_handed); k_whole)))
local macro_rules | `(tactic| walk_at "getMethod ref") => `(tactic| (k_here; k_dflt (first
  | refine' method_instS ?k1 ?k2 ?k3 ?k4 ?k5 ?k6 ?k7 ?_; (case k1 => k_asm); (case k2 => k_asm); (case k3 => k_inst); (case k4 => k_is); (case k5 => k_is); (case k6 => k_is); (case k7 => k_get); k_whole
  | refine' method_getS ?k1 ?k2 ?_; (case k1 => k_asm); (case k2 => k_mem); k_whole)))
local macro_rules | `(tactic| k_all) => `(tactic| exact far_of (by assumption) (by omega))
local macro_rules | `(tactic| walk_at "call builtin:dict.get") => `(tactic| (k_here; k_dflt (refine' getS_miss ?k1 ?k2 ?k3 ?k4 ?k5 ?_; (case k1 => k_asm); (case k2 => k_mem); (case k3 => k_keys); (case k4 => k_get); (case k5 => k_asm); k_whole)))
local macro_rules | `(tactic| walk_at "setItem ref str") => `(tactic| (k_here; k_dflt (refine' setS_new ?k1 ?k2 ?k3 ?k4 ?k5 ?k6 ?_; (case k1 => k_asm); (case k2 => k_asm); (case k6 => k_upd); (case k3 => k_keys); (case k4 => k_get); (case k5 => (rw [sizeLine_eq]; exact Nat.le_of_ble_eq_true (by with_unfolding_all rfl))); k_whole; intro h' F' N'; (try dsimp only [List.cons_append, List.nil_append] at N'); (try k_sweep))))
local macro_rules | `(tactic| walk_at "call builtin:dict.clear") => `(tactic| (k_here; k_dflt (refine' clear_K (knd := PySem.strKind _ _) ?k1 ?k2 ?k3 ?k4 ?_; (case k1 => k_asm); (case k2 => k_asm); (case k3 => k_updF); (case k4 => assumption); k_whole; intro h' o' F' N' hd'; (try dsimp only [List.cons_append, List.nil_append] at N'); (try k_sweep))))
local macro_rules | `(tactic| k_all) => `(tactic| with_reducible assumption)
local macro_rules | `(tactic| walk_at "call builtin:len") => `(tactic| (k_here; (with_reducible show wpAny _ _ (call (Value.builtin "len") [Value.ref _]) _ _ _); k_dflt (refine' len_ints_fit ?k1 ?k2 ?k3 ?_; (case k1 => exact News.isList (by k_asm) (by k_mem)); (case k2 => assumption); (case k3 => omega); k_whole)))
local macro_rules | `(tactic| walk_at "call builtin:sum") => `(tactic| (k_here; (with_reducible show wpAny _ _ (call (Value.builtin "sum") [Value.ref _]) _ _ _); k_dflt (refine' sumQ ?k0 ?k1 ?k2 ?k3 ?k4 ?k5 ?_; (case k0 => with_unfolding_all rfl); (case k1 => k_asm); (case k2 => k_asm); (case k3 => exact News.isList (by k_asm) (by k_mem)); (case k4 => assumption); (case k5 => assumption); k_whole); intro h' tk' t' F' N'))
local macro_rules | `(tactic| walk_at "call builtin:max") => `(tactic| (k_here; (with_reducible show wpAny _ _ (call (Value.builtin _) [Value.ref _]) _ _ _); k_dflt (refine' kso_max ?k1 ?k2 ?k3 ?k4 ?k5 ?k6 ?_; (case k1 => k_asm); (case k2 => k_asm); (case k3 => exact News.isList (by k_asm) (by k_mem)); (case k4 => assumption); (case k5 => omega); (case k6 => with_unfolding_all rfl); k_whole); intro h' M' t' k' F' N' a' b'))
local macro_rules | `(tactic| walk_at "call ref") => `(tactic| (k_here; (with_reducible show wpAny _ _ (call (Value.ref 672) _ _) _ _ _); refine Stop.mk ?_))
local macro_rules | `(tactic| walk_at "execs cons") => `(tactic| ((with_reducible show wpAny _ _ (execs (Stmt.Raise _ _ _ :: _) _) _ _ _); exact absurd (Eq.refl (α := Int) _) (by assumption)))
local macro_rules | `(tactic| walk_at "exec Assign cons ListComp") => `(tactic| (refine Stop.mk ?_))
local macro_rules | `(tactic| walk_at "exec While") => `(tactic| (refine Stop.mk ?_))
local macro_rules | `(tactic| walk_at "CompSrc") => `(tactic| (refine Stop.mk ?_))
local macro_rules | `(tactic| walk_at "CompEnd") => `(tactic| (refine Stop.mk ?_))
local macro_rules | `(tactic| walk_at "eval Name") => `(tactic| (k_here; (with_reducible show wpAny _ _ (eval (Expr.Name _ _) (compEnvC _ _ _ _)) _ _ _); k_dflt (first | (refine lcf_cell (by k_asm) (by rfl) (by repeat (first | with_reducible assumption | apply List.mem_cons_of_mem)) (by with_reducible assumption) ?_ (by rfl) (by rfl)))))
local macro_rules | `(tactic| walk_at "subscriptTail") => `(tactic| (k_here; (with_reducible show wpAny _ _ (subscriptTail _ _ (Value.ref _) (Value.int _ _)) _ _ _); k_dflt (first | (refine item_anyK (News.isList (by k_asm) (by repeat (first | with_reducible assumption | apply List.mem_cons_of_mem))) (by with_reducible assumption) (by omega) (by omega) (by omega) ?_ (by with_unfolding_all rfl))); intro _))
local macro_rules | `(tactic| walk_at "eval Name") => `(tactic| (k_here; (with_reducible show wpAny _ _ (eval (Expr.Name _ _) (envOfC _ _ _ _ _)) _ _ _); k_dflt (first | (refine nameX_C (by k_asm) (by rfl) (by repeat (first | with_reducible assumption | apply List.mem_cons_of_mem)) (by with_reducible assumption) ?_ (by rfl) (by rfl)))))
local macro_rules | `(tactic| walk_at "call builtin:list.sort") => `(tactic| (k_here; refine Stop.mk ?_))
local macro_rules | `(tactic| walk_at "eval Name") => `(tactic| (k_here; (with_reducible show wpAny _ _ (eval (Expr.Name _ _) (envOfC _ _ _ _ _)) _ _ _); k_dflt (first | (refine nameX_L (by k_asm) (by first | with_reducible assumption | rfl) ?_ (by rfl) (by rfl)))))
local macro_rules | `(tactic| walk_at "truthy ref") => `(tactic| (k_here; (with_reducible show wpAny _ _ (truthy (Value.ref _)) _ _ _); k_dflt (first | (refine truthy_stubs (by k_asm) (by k_mem) (by simp only [List.length_append, List.length_cons, List.length_nil]; omega) (by first | exact last_ne _ _ | rfl) ?_))))
local macro_rules | `(tactic| walk_at "call builtin:list.pop") => `(tactic| (k_here; (with_reducible show wpAny _ _ (call (Value.builtin _) [Value.ref _]) _ _ _); k_dflt (refine' pop_stub ?F ?N ?U ?l ?_; (case F => k_asm); (case N => k_asm); (case U => k_updF); (case l => omega); k_whole); intro h' c' F' N'; (try dsimp only at N')))
local macro_rules | `(tactic| walk_at "exec For") => `(tactic| (refine Stop.mk ?_))
local macro_rules | `(tactic| walk_at "subscriptTail Name Slice ref ref") => `(tactic| (k_here; (with_reducible show wpAny _ _ (subscriptTail _ (PySem.Expr.Slice _ _ none _) (Value.ref _) (Value.ref _)) _ _ _); k_dflt (first | (refine slice_stub (by k_asm) (by k_asm) (by k_mem) (by kmk_part) (by kmk_part) (by first | with_reducible exact pick_lastE _ _ (by omega) | with_reducible exact pick_lastF _ _ (by omega) | with_reducible exact pick_uptoF _ _ (by omega) | with_reducible exact pick_uptoE _ _ (by omega)) (by omega) ?_ (by with_unfolding_all rfl) (by kmk_pure))); intro D' h' F' N' l1))
local macro_rules | `(tactic| walk_at "call builtin:list.remove") => `(tactic| (refine Stop.mk ?_))
local macro_rules | `(tactic| walk_at "call ref") => `(tactic| (k_here; (with_reducible show wpAny _ _ (call (Value.ref 485) _ _) _ _ _); refine Stop.mk ?_))
local macro_rules | `(tactic| k_ne) => `(tactic| (refine neN ?_; (try dsimp only); first | with_reducible assumption | (refine Ne.symm ?_; with_reducible assumption)))
theorem maker1_N {w : World} {p : Program} {loose : List Str} {mean : ExcName → Option Value} {mg mb : Str → Option Value} {dp un : Nat} {gd : Option (List Code)} {cn : Str} {nm} {ig ic : Bool} {mo : List (Str × Const)} {a : Addr} {ccd : Value} {cl : List (Str × Addr)} {outer : List Env} {A₀ : Around} {base h₀ : Heap} {L : Addr} {m : Str → Option Value} {news : List (Addr × Obj)} {s : Shared}
    {Q E : Value → Shared → Prop} {x d ag an aa : Nat} {oag oan oaa : Obj} {t0 t1 t2 : Tok} {la lb ca cb : Nat} {av bv : List Value} {as bs : List Int} {q : Int} {Pure : List Nat → St → Prop} {PE : St → Prop} :
    Below A₀ base outer h₀ → Fr h₀ L s.heap m → (Mine.LawTop.hd.heap_39 w.params).In h₀ → News h₀ L s.heap ((aa, oaa) :: (an, oan) :: (ag, oag) :: (x, instObj 617 d) :: (d, dictOf [kE w "graph" t0 ag, kE w "_node" t1 an, kE w "_adj" t2 aa] 3) :: (la, listOf av.toArray ca) :: (lb, listOf bv.toArray cb) :: news) → Top p loose mean mg mb h₀ → dp + 100 < recursionLimit → un + 1000 < cLine →
    oag.IsDictOf (PySem.strKind PySem.Challenge.rw_ez0195_01.row.prog w) [] → oan.IsDictOf (PySem.strKind PySem.Challenge.rw_ez0195_01.row.prog w) [] → oaa.IsDictOf (PySem.strKind PySem.Challenge.rw_ez0195_01.row.prog w) [] → 
    (x == sysModules) = false → (aa == sysModules) = false → (an == sysModules) = false → (ag == sysModules) = false → (d == sysModules) = false →
    d < x → x < ag → ag < an → an < aa → (∀ p ∈ (la, listOf av.toArray ca) :: (lb, listOf bv.toArray cb) :: news, p.1 ≠ d) → (∀ p ∈ (la, listOf av.toArray ca) :: (lb, listOf bv.toArray cb) :: news, p.1 ≠ x) → (∀ p ∈ (la, listOf av.toArray ca) :: (lb, listOf bv.toArray cb) :: news, p.1 ≠ ag) → (∀ p ∈ (la, listOf av.toArray ca) :: (lb, listOf bv.toArray cb) :: news, p.1 ≠ an) → (∀ p ∈ (la, listOf av.toArray ca) :: (lb, listOf bv.toArray cb) :: news, p.1 ≠ aa) →
    IntsAre av as → IntsAre bv bs → as.length = 5 → bs.length ≤ 5 → as.sum = q → bs.sum = q → (∀ y ∈ as, 0 ≤ y ∧ y ≤ 8) → (∀ y ∈ bs, 1 ≤ y ∧ y ≤ 8) → 
    (∀ as1 bs1, as1.Perm (List.range as.length) → as1.Pairwise (stubLt fun v => if v < as.length then as.getD v 0 else bs.getD (v - as.length) 0) → bs1.Perm ((List.range bs.length).map fun v => as.length + v) → bs1.Pairwise (stubLt fun v => if v < as.length then as.getD v 0 else bs.getD (v - as.length) 0) → Pure as1 ⟨bs1, fun v => if v < as.length then as.getD v 0 else bs.getD (v - as.length) 0, fun _ => []⟩) →
    (∀ (as' : List Nat) (u : Nat) (st : St), Pure (as' ++ [u]) st → st.Ok (as.length + bs.length) as.length → st.e u ≠ 0 → u < as.length → Pure as' ((st.bs.take (st.e u).toNat).foldl (St.step u) st)) →
    (∀ as' u st, Pure (as' ++ [u]) st → st.e u = 0 → PE st) → (∀ st, Pure [] st → PE st) → (∀ as' st, Pure as' st → as'.Nodup ∧ ∀ u ∈ as', u < as.length ∧ 0 ≤ st.e u) → ((∀ y ∈ as, y = 0) → ∀ bs e, PE ⟨bs, e, fun _ => []⟩) →
    (∀ h' tk G' f' nv ta tb t3 gk Ad st, Fr h₀ L h' m → News h₀ L h' (((la, listOf av.toArray ca) :: (lb, listOf bv.toArray cb) :: news) ++ G') → Apart ((la, listOf av.toArray ca) :: (lb, listOf bv.toArray cb) :: news) G' →
      GI PySem.Challenge.rw_ez0195_01.row.prog w G' x d ag an aa [kE w "graph" t0 ag, kE w "_node" t1 an, kE w "_adj" t2 aa, kE w "adj" t3 aa, kE w "nodes" 777 nv] 5 f' (as.length + bs.length) Ad (fun v => [(PySem.Str.ofString "bipartite", if v < as.length then .int 0 ta else .int 1 tb)]) gk → AdjOf Ad st.N (as.length + bs.length) → PE st → Q (.ref x) { s with heap := h', toks := tk }) →
    wpN (model PySem.Challenge.rw_ez0195_01.row.prog w) (ktrTop dp un gd cn (csF nm ig ic mo) L a ccd cl outer) (call (.ref 659) [.ref la, .ref lb, .ref x] []) Q E s := by
  k_fill
  intro B F X N T hd hu e1 e2 e3 g0 g1 g2 g3 g4 l1 l2 l3 l4 l5 l6 l7 l8 l9 ia ib na nb hsa hsb ba bb pu0 pust puz pun puw puzz done
  have zna : (as.length : Int) = 5 := by omega
  refine n_call ?_
  refine' n_defC ?k1 ?k2 ?k3 ?k4 ?k5 ?kA ?kF ?kK ?k6 ?k7 ?k8 ?k9 ?kB ?kD ?_ ?c2 ?c3 ?c4
  case kA => exact rfl
  case kF => exact rfl
  case kK => exact rfl
  case k1 => k_asm
  case k2 => k_asm
  case k3 => k_asm
  case k4 => k_asm
  case k5 => k_asm
  case k6 => k_is
  case k7 => k_is
  case k8 => k_room
  case k9 => first | exact BindsTo.of_eq rfl | exact binds_K (by k_in) rfl (by k_is) rfl rfl rfl | fail "k_enter: no rule for these arguments"
  case kB => exact rfl
  case kD => decide +kernel
  case c2 => exact rfl
  case c3 => exact rfl
  case c4 => exact rfl
  intro g' L' h' tk' cells FG' F' N' Y' B' X' T' lw
  k_lt lw
  have lN := allLt_all lw.2.2.2.2.2.2.2
  k_cells Y'
  rename_i o1 o2 o3 d1 d2 d3
  (try simp only [List.cons_append, List.nil_append] at N')
  replace F' : Fr g' L' h' (fun y => if y = PySem.Str.ofString "create_using" then some (Value.ref x) else none) := by with_unfolding_all exact F'
  replace d1 : o1.data = .cell none := by with_unfolding_all exact d1
  replace d2 : o2.data = .cell (some (.ref lb)) := by with_unfolding_all exact d2
  replace d3 : o3.data = .cell (some (.ref la)) := by with_unfolding_all exact d3
  (try dsimp only)
  (try k_lift B')
  refine n_last (n_assign (n_callName ?_))
  k_steps
  refine n_callK (K := Mine.LawTop.hd.heap_39 w.params) X' (by k_is) ?_
  k_steps

  refine' empty_graph_N (t0 := t0) (t1 := t1) (t2 := t2) (news := (L' + 1 + 1 + 1, o1) :: (L' + 1 + 1, o2) :: (L' + 1, o3) :: (la, listOf av.toArray ca) :: (lb, listOf bv.toArray cb) :: news) (oan := oan) (oag := oag) (oaa := oaa) (d := d) (aa := aa) (ag := ag) (an := an) ?h1 ?h2 ?h3 ?h4 ?h5 ?h6 ?h7 ?h8 ?h9 ?h10 ?h11 ?h12 ?h13 ?h14 ?h15 ?h16 ?h17 ?h18 ?h19 ?h20 ?h21 ?h22 ?h23 ?_
  case h1 => k_asm
  case h2 => k_asm
  case h3 => k_asm
  case h4 =>
    refine News.perm N' ?_
    intro p hp
    simp only [List.mem_cons] at hp ⊢
    rcases hp with h | h | h | h | h | h | h | h | h | h | h <;> simp [h]
  case h5 => k_asm
  case h6 => ktr_room
  case h7 => ktr_units
  case h8 => k_asm
  case h9 => k_asm
  case h10 => k_asm
  case h11 => k_asm
  case h12 => k_asm
  case h13 => k_asm
  case h14 => k_asm
  case h15 => k_asm
  case h16 => k_asm
  case h17 => k_asm
  case h18 => k_asm
  case h19 => exact cells_ne (by omega) (by omega) (by omega) l5
  case h20 => exact cells_ne (by omega) (by omega) (by omega) l6
  case h21 => exact cells_ne (by omega) (by omega) (by omega) l7
  case h22 => exact cells_ne (by omega) (by omega) (by omega) l8
  case h23 => exact cells_ne (by omega) (by omega) (by omega) l9
  intro h2 tk2 t3 og on oa F2 N2 dg dn da
  k_fold
  k_steps
  refine Stop.out ?_
  rename News _ _ _ _ => NN
  rename Fr _ _ _ _ => FF
  rename _ = Data.cell (some (Value.int _ _)) => dc0
  rename PySem.Obj => oc
  obtain ⟨tn, dc⟩ : ∃ tn, oc.data = Data.cell (some (Value.int (as.length : Int) tn)) := ⟨_, dc0⟩
  clear dc0
  have hlL : la < L' := lw.2.2.2.2.2.1
  have hlb : lb < L' := lw.2.2.2.2.2.2.1
  have NL : News g' L' _ (((L' + 1 + 1 + 1, oc) :: (L' + 1 + 1, o2) :: (L' + 1, o3) :: (la, listOf av.toArray ca) :: (lb, listOf bv.toArray cb) :: news) ++ [(aa, oa), (an, on), (ag, og), (x, instObj 617 d), (d, dictS [kE w "graph" t0 ag, kE w "_node" t1 an, kE w "_adj" t2 aa, kE w "adj" t3 aa] 4)]) := News.perm NN (by
    intro p hp
    simp only [List.cons_append, List.nil_append, List.mem_cons, List.mem_append, List.not_mem_nil, or_false] at hp ⊢
    rcases hp with h | h | h | h | h | h | h | h | h | h | h <;> simp [h])
  have ap : Apart ((L' + 1 + 1 + 1, oc) :: (L' + 1 + 1, o2) :: (L' + 1, o3) :: (la, listOf av.toArray ca) :: (lb, listOf bv.toArray cb) :: news) [(aa, oa), (an, on), (ag, og), (x, instObj 617 d), (d, dictS [kE w "graph" t0 ag, kE w "_node" t1 an, kE w "_adj" t2 aa, kE w "adj" t3 aa] 4)] := by
    intro p hp q hq
    simp only [List.mem_cons, List.not_mem_nil, or_false] at hq
    rcases hq with h | h | h | h | h <;> rw [h]
    · exact cells_ne (by omega) (by omega) (by omega) l9 p hp
    · exact cells_ne (by omega) (by omega) (by omega) l8 p hp
    · exact cells_ne (by omega) (by omega) (by omega) l7 p hp
    · exact cells_ne (by omega) (by omega) (by omega) l6 p hp
    · exact cells_ne (by omega) (by omega) (by omega) l5 p hp
  have gi : GI PySem.Challenge.rw_ez0195_01.row.prog w [((aa : Addr), oa), (an, on), (ag, og), (x, instObj 617 d), (d, dictS [kE w "graph" t0 ag, kE w "_node" t1 an, kE w "_adj" t2 aa, kE w "adj" t3 aa] 4)] x d ag an aa [kE w "graph" t0 ag, kE w "_node" t1 an, kE w "_adj" t2 aa, kE w "adj" t3 aa] 4 (fun _ => 0) 0 (fun _ => []) (fun _ => []) [] := by
    refine ⟨by simp, by simp, ⟨og, by simp, dg⟩, ⟨on, by simp, dn⟩, ⟨oa, by simp, da⟩, fun v hv => absurd hv (Nat.not_lt_zero _), fun v hv => absurd hv (Nat.not_lt_zero _), fun i j hi => absurd hi (by omega), fun i hi => absurd hi (by omega), ?_, ?_, fun i hi => absurd hi (by omega)⟩
    · simp only [List.nodup_cons, List.mem_cons, List.not_mem_nil, or_false, not_or, List.nodup_nil, not_false_eq_true, and_true]
      omega
    · intro z hz
      simp only [List.mem_cons, List.not_mem_nil, or_false] at hz
      rcases hz with h | h | h | h | h <;> rw [h] <;> assumption
  obtain ⟨S0, hS0⟩ : ∃ S0, S0 = ((L' + 1 + 1 + 1 : Addr), oc) :: (L' + 1 + 1, o2) :: (L' + 1, o3) :: (la, listOf av.toArray ca) :: (lb, listOf bv.toArray cb) :: news := ⟨_, rfl⟩
  rw [← hS0] at NL ap
  clear NN
  refine' label (S := S0) (f := fun _ => 0) ?h1 ?h2 ?h3 NL ?h5 ?h6 ?h7 ?h8 ?h9 ?h10 ap gi ?_
  case h1 => k_asm
  case h2 => k_asm
  case h3 => k_asm
  case h5 => k_asm
  case h6 => ktr_room
  case h7 => ktr_units
  case h8 => omega
  case h9 => omega
  case h10 => omega
  intro h3 tk3 G1 f1 nv ta tb F3 N3 ap1 gi1
  clear NL ap gi
  rw [hS0] at N3
  try simp only [List.cons_append, List.nil_append] at N3
  k_fold
  k_steps
  · exfalso; omega
  · rename News h₀ _ _ _ => kN
    rename Fr h₀ _ _ _ => kF
    refine done _ _ G1 f1 nv ta tb t3 [] (fun _ => []) ⟨[], fun _ => 0, fun _ => []⟩ kF (News.perm kN (fun p hp => ?_)) ?_ gi1 (fun _ _ => rfl) (puzz (fun y hy => ?_) _ _)
    · simp only [List.cons_append, List.mem_cons] at hp ⊢
      rcases hp with h | h | h <;> simp [h]
    · intro p hp q hq
      refine ap1 p ?_ q hq
      rw [hS0]
      simp only [List.mem_cons] at hp ⊢
      rcases hp with h | h | h <;> simp [h]
    · rename ∀ a : Int, a ∈ as → _ => bM
      have z1 := bM y hy
      have z2 := (ba y hy).1
      omega
  refine Stop.out ?_
  refine LCg.Assign_ListComp_U (F₀ := by k_asm) (by rfl) (by with_unfolding_all rfl) (by with_unfolding_all rfl) (by decide) (by rfl) (by decide) (by rfl) (by rfl) (by rfl) ?_
  k_steps
  refine Stop.out ?_
  rename News _ _ _ _ => NN
  rename IsRange _ _ _ _ _ _ _ _ => hir
  have hsmA : Builtin.Range.small 0 (as.length : Int) 1 = true := small_one (by omega) (by omega) (by omega) (by omega)
  have hrsA : Builtin.Range.rangeSize 0 (as.length : Int) 1 = (as.length : Int) := by rw [rangeSize_nat]; omega
  refine LCg.CompSrc.range (by rfl) (by k_asm) (by k_asm) hir hsmA hrsA (by rw [sizeLine_eq]; omega) ?_
  intro gg
  obtain ⟨base1, hb1⟩ : ∃ b : List (Addr × Obj), b = ((L' + 1 + 1 + 1 : Addr), oc) :: (L' + 1 + 1, o2) :: (L' + 1, o3) :: (la, listOf av.toArray ca) :: (lb, listOf bv.toArray cb) :: (news ++ G1) := ⟨_, rfl⟩
  refine comp_loop (J := fun i ys nw => ∃ P, ys = refs P i ∧ LayJ base1 0 (fun j => as.getD j 0) i P nw) ?h0 ?turn ?fin
  case h0 => exact ⟨fun _ => 0, rfl, by rw [← hb1]; exact LayJ.zero⟩
  case turn =>
    intro i ys nw hi hJ v I oI C oC D m2 hh tt E' hv hC hx F2 N2 off ne
    obtain ⟨P, rfl, J⟩ := hJ
    obtain ⟨t9, rfl⟩ := hv
    have mc3 : (L' + 1, o3) ∈ nw := J.keep _ (by rw [hb1]; simp)
    have mla : (la, listOf av.toArray ca) ∈ nw := J.keep _ (by rw [hb1]; simp)
    clear NN
    k_steps
    refine Stop.out ?_
    refine lay_step (by with_reducible assumption) N2 (by with_reducible assumption) rfl off J (by omega) (by simp)
  case fin =>
    rintro ys nw1 ⟨P0, rfl, J1⟩
    unfold LCg.FinA
    intro LA h4 tk4 F4 N4 oA
    have mc1 : (L' + 1 + 1 + 1, oc) ∈ nw1 := J1.keep _ (by rw [hb1]; simp)
    clear NN
    try dsimp only
    try k_fold
    k_steps
    refine Stop.out ?_
    have hsmB : Builtin.Range.small (as.length : Int) ((as.length : Int) + (bs.length : Int)) 1 = true := small_one (by omega) (by omega) (by omega) (by omega)
    have hrsB : Builtin.Range.rangeSize (as.length : Int) ((as.length : Int) + (bs.length : Int)) 1 = (bs.length : Int) := by rw [rangeSize_nat]; omega
    refine LCg.Assign_ListComp_U (F₀ := by k_asm) (by rfl) (by with_unfolding_all rfl) (by with_unfolding_all rfl) (by decide) (by rfl) (by decide) (by rfl) (by rfl) (by rfl) ?_
    k_steps
    refine Stop.out ?_
    rename IsRange _ _ _ _ _ _ _ _ => hir2
    refine LCg.CompSrc.range (by rfl) (by k_asm) (by k_asm) hir2 hsmB hrsB (by rw [sizeLine_eq]; omega) ?_
    intro gg2
    obtain ⟨base2, hb2⟩ : ∃ b : List (Addr × Obj), b = (LA, LCg.lst (refs P0 as.length)) :: nw1 := ⟨_, rfl⟩
    refine comp_loop (J := fun i ys nw => ∃ P, ys = refs P i ∧ LayJ base2 as.length (fun j => bs.getD j 0) i P nw) ?h0 ?turn ?fin
    case h0 => exact ⟨fun _ => 0, rfl, by rw [← hb2]; exact LayJ.zero⟩
    case turn =>
      intro i ys nw hi hJ v I oI C oC D m2 hh tt E' hv hC hx F2 N2 off ne
      obtain ⟨P, rfl, J⟩ := hJ
      obtain ⟨t9, rfl⟩ := hv
      have mc1' : (L' + 1 + 1 + 1, oc) ∈ nw := J.keep _ (by rw [hb2]; exact List.mem_cons_of_mem _ mc1)
      have mc2 : (L' + 1 + 1, o2) ∈ nw := J.keep _ (by rw [hb2]; exact List.mem_cons_of_mem _ (J1.keep _ (by rw [hb1]; simp)))
      have mlb : (lb, listOf bv.toArray cb) ∈ nw := J.keep _ (by rw [hb2]; exact List.mem_cons_of_mem _ (J1.keep _ (by rw [hb1]; simp)))
      k_steps
      refine Stop.out ?_
      refine lay_step (by with_reducible assumption) N2 (by with_reducible assumption) rfl off J (by omega) (by rw [show ((as.length : Int) + (i : Int) - (as.length : Int)).toNat = i by omega])
    case fin =>
      rintro ys nw2 ⟨P1, rfl, J2⟩
      unfold LCg.FinA
      intro LB h5 tk5 F5 N5 oB
      rw [← List.cons_append, ← List.cons_append, ← List.cons_append, ← List.cons_append, ← List.cons_append, ← hS0] at hb1
      obtain ⟨S1, hS1, ap2, ti⟩ := stubs_laid hb1 hb2 J1 oA J2 oB ap1
      have NT : News g' L' h5 (S1 ++ G1) := News.perm N5 hS1
      clear N5
      obtain ⟨cA, mA⟩ := ti.sa
      obtain ⟨cB, mB⟩ := ti.sb
      obtain ⟨PP, hPP⟩ : ∃ PP : Nat → Nat, PP = fun v => if v < as.length then P0 v else P1 (v - as.length) := ⟨_, rfl⟩
      obtain ⟨e0, he0⟩ : ∃ e0 : Nat → Int, e0 = fun v => if v < as.length then as.getD v 0 else bs.getD (v - as.length) 0 := ⟨_, rfl⟩
      obtain ⟨bs0, hbs0⟩ : ∃ bs0 : List Nat, bs0 = (List.range bs.length).map fun v => as.length + v := ⟨_, rfl⟩
      rw [← hPP, ← hbs0] at ti
      rw [← he0] at ti
      rw [← hPP] at mA
      rw [← hPP, ← hbs0] at mB
      have ok0 : St.Ok (as.length + bs.length) as.length ⟨bs0, e0, fun _ => []⟩ := by
        rw [hbs0, he0]
        refine ok_start (dgA := fun v => as.getD v 0) (dgB := fun v => bs.getD v 0) fun j hj => ?_
        show 1 ≤ bs.getD j 0
        have : bs.getD j 0 = bs[j] := by simp [hj]
        rw [this]
        exact (bb _ (List.getElem_mem _)).1
      have NF : News g' L' h5 ((LA, listOf (refsOf PP (List.range as.length)) cA) :: (LB, listOf (refsOf PP bs0) cB) :: rms (S1 ++ G1) [LA, LB]) := front_of (es := [((LA : Addr), listOf (refsOf PP (List.range as.length)) cA), (LB, listOf (refsOf PP bs0) cB)]) NT (fun p hp => by
        simp only [List.mem_cons, List.not_mem_nil, or_false] at hp
        rcases hp with h | h <;> rw [h]
        · exact List.mem_append_left _ mA
        · exact List.mem_append_left _ mB)
      obtain ⟨R, hR⟩ : ∃ R, R = rms (S1 ++ G1) [LA, LB] := ⟨_, rfl⟩
      rw [← hR] at NF
      have rA : ∀ p ∈ R, p.1 ≠ LA := by rw [hR]; exact rms_ne (by simp)
      have rB : ∀ p ∈ R, p.1 ≠ LB := by rw [hR]; exact rms_ne (by simp)
      have hAB := ti.offA
      have inR : ∀ v, v < as.length + bs.length → ∃ t t' k, (PP v, pairObj (e0 v) t (v : Int) t' k) ∈ R := by
        intro v hv
        obtain ⟨t, t', k, hm⟩ := ti.pr v hv
        exact ⟨t, t', k, by rw [hR]; exact mem_rms (List.mem_append_left _ hm) (by simp [(ti.offP v hv).1, (ti.offP v hv).2])⟩
      clear NT
      try dsimp only
      try k_fold
      k_steps
      refine Stop.out ?_
      refine sort_stubs (P := PP) (e := e0) (l := List.range as.length) (by ktr_units) (by with_reducible assumption) NF (UpdF.head (fun p hp => by
        rcases List.mem_cons.mp hp with e | hp
        · rw [e]; exact fun e => hAB e.symm
        · exact rA p hp)) (by rw [List.length_range]; omega) List.nodup_range ?hS ?_
      case hS =>
        intro v hv
        obtain ⟨t, t', k, hm⟩ := inR v (by have := List.mem_range.mp hv; omega)
        exact ⟨t, t', k, by simp [hm]⟩
      intro as1 cA1 h6 hperm hsort F6 N6
      try dsimp only
      try k_fold
      k_steps
      refine Stop.out ?_
      refine sort_stubs (P := PP) (e := e0) (l := bs0) (by ktr_units) (by with_reducible assumption) (by with_reducible assumption) (UpdF.tail (by exact hAB) (UpdF.head rB)) (Nat.le_trans (nodup_from ok0.bnd ok0.bin) (by omega)) ok0.bnd ?hS2 ?_
      case hS2 =>
        intro v hv
        obtain ⟨t, t', k, hm⟩ := inR v (ok0.bin v hv).2
        exact ⟨t, t', k, by simp [hm]⟩
      intro bsS cB1 h7 hpermB hsortB F7 N7
      rw [hR] at N7
      have hkk : ∀ k ∈ [LA, LB], ∃ o, ((k : Addr), o) ∈ S1 := by
        intro k hk
        simp only [List.mem_cons, List.not_mem_nil, or_false] at hk
        rcases hk with h | h <;> rw [h]
        · exact ⟨_, mA⟩
        · exact ⟨_, mB⟩
      have NT := back_news (S := S1) (G := G1) (keys := [LA, LB]) (es' := [((LA : Addr), listOf (refsOf PP as1) cA1), (LB, listOf (refsOf PP bsS) cB1)]) N7 hkk ap2
      have ap3 := back_apart (S := S1) (G := G1) (keys := [LA, LB]) (es' := [((LA : Addr), listOf (refsOf PP as1) cA1), (LB, listOf (refsOf PP bsS) cB1)]) hkk (by simp) ap2
      have ti3 := ti.setAB (as' := as1) (bs' := bsS) (S' := [((LA : Addr), listOf (refsOf PP as1) cA1), (LB, listOf (refsOf PP bsS) cB1)] ++ rms S1 [LA, LB]) (fun p hp q1 q2 => List.mem_append_right _ (mem_rms hp (by simp [q1, q2]))) (List.mem_append_left _ List.mem_cons_self) (List.mem_append_left _ (List.mem_cons_of_mem _ List.mem_cons_self))
      generalize [((LA : Addr), listOf (refsOf PP as1) cA1), (LB, listOf (refsOf PP bsS) cB1)] ++ rms S1 [LA, LB] = S3 at NT ap3 ti3
      clear ti mA mB hS1 J1 J2 oA oB rA rB inR N7
      try dsimp only
      try k_fold
      k_steps
      refine Stop.out ?_
      refine wpAny_mono (Q := WhEnd PySem.Challenge.rw_ez0195_01.row.prog w S0 x d ag an aa [kE w "graph" t0 ag, kE w "_node" t1 an, kE w "_adj" t2 aa, kE w "adj" t3 aa, kE w "nodes" 777 nv] f1 (as.length + bs.length) (fun v => [(PySem.Str.ofString "bipartite", if v < as.length then .int 0 ta else .int 1 tb)]) PE g' L' s) ?wh (fun fl s' hq => ?aft) (fun _ _ e => e)
      case wh =>
        refine While_inv2 (L := L') (news := S3 ++ G1) (n₀ := as1.length) (WhJ PySem.Challenge.rw_ez0195_01.row.prog w S0 x d ag an aa [kE w "graph" t0 ag, kE w "_node" t1 an, kE w "_adj" t2 aa, kE w "adj" t3 aa, kE w "nodes" 777 nv] f1 (as.length + bs.length) as.length (fun v => [(PySem.Str.ofString "bipartite", if v < as.length then .int 0 ta else .int 1 tb)]) LA LB PP Pure) (by k_asm) (by k_asm) ⟨⟨by with_unfolding_all rfl, by with_unfolding_all rfl, by with_unfolding_all rfl⟩, S3, G1, as1, _, _, rfl, rfl, ⟨ap3, ti3, gi1, fun _ _ => rfl, fun _ _ q hq => (nomatch hq), ok0.perm hpermB⟩, he0 ▸ pu0 as1 bsS hperm (he0 ▸ hsort) (hbs0 ▸ hpermB) (he0 ▸ hsortB)⟩ ?turn
        case turn =>
          intro k m1 nn h1 tk1 F1 N1 J1
          obtain ⟨⟨va, vb, vg⟩, S, G, as2, st, Ad, rfl, rfl, mk, pu⟩ := J1
          have e1 : m1 = fun y => if y = PySem.Str.ofString "astubs" then some (.ref LA) else if y = PySem.Str.ofString "bstubs" then some (.ref LB) else if y = PySem.Str.ofString "G" then some (.ref x) else m1 y := by
            funext y
            split
            · rename_i z; rw [z]; exact va
            · split
              · rename_i z; rw [z]; exact vb
              · split
                · rename_i z; rw [z]; exact vg
                · rfl
          rw [e1] at F1
          obtain ⟨cA2, mA2⟩ := mk.ti.sa
          obtain ⟨cB2, mB2⟩ := mk.ti.sb
          have bl : st.bs.length ≤ 5 := Nat.le_trans (nodup_from mk.ok.bnd mk.ok.bin) (by omega)
          rcases nil_or_last as2 with rfl | ⟨as', u, rfl⟩
          · obtain ⟨NF, rA⟩ := front1 N1 (List.mem_append_left _ mA2)
            k_steps
            refine ⟨rfl, _, _, _, S, G, st, Ad, rfl, by with_reducible assumption, by with_unfolding_all rfl, N1, mk.ti.rest, mk.ap, mk.gi, mk.adj, pun st pu⟩
          · have ul := (puw _ _ pu).2 u (by simp)
            have hu0 : 0 ≤ st.e u := ul.2
            have aN : as'.length ≤ 5 := by
              have z := nodup_len (puw _ _ pu).1 (fun v hv => ((puw _ _ pu).2 v hv).1)
              rw [List.length_append] at z
              simp only [List.length_cons, List.length_nil] at z
              omega
            obtain ⟨tu, tu', ku, mu⟩ := mk.ti.pr u (by omega)
            have offu := mk.ti.offP u (by omega)
            have offA := mk.ti.offA
            have hes : ∀ p ∈ [((LA : Addr), listOf (refsOf PP (as' ++ [u])) cA2), (PP u, pairObj (st.e u) tu (u : Int) tu' ku), (LB, listOf (refsOf PP st.bs) cB2)], p ∈ S ++ G := by
              intro p hp
              simp only [List.mem_cons, List.not_mem_nil, or_false] at hp
              rcases hp with h | h | h <;> rw [h]
              · exact List.mem_append_left _ mA2
              · exact List.mem_append_left _ mu
              · exact List.mem_append_left _ mB2
            have NF : News g' L' h1 ((LA, listOf (refsOf PP (as' ++ [u])) cA2) :: (PP u, pairObj (st.e u) tu (u : Int) tu' ku) :: (LB, listOf (refsOf PP st.bs) cB2) :: rms (S ++ G) [LA, PP u, LB]) := front_of N1 hes
            obtain ⟨R, hR⟩ : ∃ R, R = rms (S ++ G) [LA, PP u, LB] := ⟨_, rfl⟩
            have rA : ∀ p ∈ R, p.1 ≠ LA := by rw [hR]; exact rms_ne (by simp)
            have rP : ∀ p ∈ R, p.1 ≠ PP u := by rw [hR]; exact rms_ne (by simp)
            have rB : ∀ p ∈ R, p.1 ≠ LB := by rw [hR]; exact rms_ne (by simp)
            rw [← hR] at NF
            have uS : Uniq S := fun hp hq e => News.uniq N1 (List.mem_append_left _ hp) (List.mem_append_left _ hq) e
            clear N1
            k_steps
            · rename News _ _ _ _ => NB0
              rw [hR] at NB0
              have hkk : ∀ k ∈ [LA, PP u, LB], ∃ o, ((k : Addr), o) ∈ S := by
                intro k hk
                simp only [List.mem_cons, List.not_mem_nil, or_false] at hk
                rcases hk with h | h | h <;> rw [h]
                · exact ⟨_, mA2⟩
                · exact ⟨_, mu⟩
                · exact ⟨_, mB2⟩
              have NB := back_news (keys := [LA, PP u, LB]) (es' := [(LA, _), (PP u, _), (LB, _)]) NB0 hkk mk.ap
              refine ⟨rfl, _, _, _, _, G, st, Ad, rfl, by with_reducible assumption, by with_unfolding_all rfl, NB, fun p hp => mem_back (mk.ti.rest p hp) (fun hk => ?_), back_apart hkk (by simp) mk.ap, mk.gi, mk.adj, puz _ _ _ pu (by assumption)⟩
              have z := mk.ti.off0 p hp
              simp only [List.mem_cons, List.not_mem_nil, or_false] at hk
              rcases hk with h | h | h
              · exact absurd h z.1
              · exact absurd h (z.2.2 u (by omega))
              · exact absurd h z.2.1
            refine Stop.out ?_
            refine' for_own ?F ?hx ?hp ?_
            case F => k_asm
            case hx => exact rfl
            case hp => rfl
            k_steps
            rename ∀ p : Addr × Obj, p ∈ ((LA : Addr), _) :: _ → _ => lD
            rename News _ _ _ _ => ND
            rename PySem.Addr => D
            rw [hR] at ND lD
            obtain ⟨S2, NS2, mD2, mk2⟩ := loop_start mk uS mA2 mu mB2 (by omega) ND lD (List.Perm.refl st.bs)
            clear ND lD
            obtain ⟨DD, hDD⟩ : ∃ DD, DD = st.bs.take (st.e u).toNat := ⟨_, rfl⟩
            rw [← hDD] at mD2 mk2
            have pure1 := pust as' u st pu mk.ok (by assumption) ul.1
            rw [← hDD] at pure1
            have inDD : ∀ v ∈ DD, as.length ≤ v ∧ v < as.length + bs.length := fun v hv => mk.ok.bin v (by rw [hDD] at hv; exact List.mem_of_mem_take hv)
            refine loop_listM (items := refsOf PP DD) (c := 0) [PySem.Str.ofString "v"] (fun I i u' n' => ∃ S' G' Ad', n' = S' ++ G' ∧ Mk PySem.Challenge.rw_ez0195_01.row.prog w ((D, listOf (refsOf PP DD) 0) :: S0) x d ag an aa [kE w "graph" t0 ag, kE w "_node" t1 an, kE w "_adj" t2 aa, kE w "adj" t3 aa, kE w "nodes" 777 nv] f1 (as.length + bs.length) as.length (fun v => [(PySem.Str.ofString "bipartite", if v < as.length then .int 0 ta else .int 1 tb)]) LA LB PP as' ((DD.take i).foldl (St.step u) st) S' G' Ad') ?hh (by k_asm) NS2 ?hm ?h0 ?turn2 ?done2
            case hh => rfl
            case hm => exact List.mem_append_left _ (hDD ▸ mD2)
            case h0 => exact fun I hI => ⟨S2, G, Ad, rfl, by simpa using mk2⟩
            case turn2 =>
              intro I i v uu hh tk oI news1 hI hv hJ F9 N9 hnI
              obtain ⟨S', G', Ad', rfl, mk9⟩ := hJ
              obtain ⟨tg, htg, rfl⟩ : ∃ tg, DD[i]? = some tg ∧ v = .ref (PP tg) := by
                simp only [List.getElem?_toArray, List.getElem?_map] at hv
                cases hd : DD[i]? with
                | none => rw [hd] at hv; simp at hv
                | some tg => rw [hd] at hv; exact ⟨tg, rfl, (by simpa using hv.symm)⟩
              have htgD : tg ∈ DD := List.mem_of_getElem? htg
              have rg := inDD tg htgD
              obtain ⟨sti, hsti⟩ : ∃ sti, sti = (DD.take i).foldl (St.step u) st := ⟨_, rfl⟩
              rw [← hsti] at mk9
              have hnext : (DD.take (i + 1)).foldl (St.step u) st = sti.step u tg := by
                rw [List.take_succ, htg, List.foldl_append, ← hsti]; rfl
              obtain ⟨t1', t1'', k1, m1⟩ := mk9.ti.pr tg rg.2
              obtain ⟨c2, m2⟩ := mk9.ti.sb
              have mD9 := mk9.ti.rest _ List.mem_cons_self
              have offt := mk9.ti.offP tg rg.2
              have NY : News g' L' hh ((I, oI) :: (S' ++ G')) := News.perm N9 (fun p hp => by
                simp only [List.mem_cons] at hp ⊢
                rcases hp with h | h
                · exact .inl h
                · exact .inr (.inr h))
              have mX := mk9.gi.inst
              have mDd := mk9.gi.dict
              have hes : ∀ p ∈ [((PP tg : Addr), pairObj (sti.e tg) t1' (tg : Int) t1'' k1), (x, instObj 617 d), (d, dictS [kE w "graph" t0 ag, kE w "_node" t1 an, kE w "_adj" t2 aa, kE w "adj" t3 aa, kE w "nodes" 777 nv] 5)], p ∈ (I, oI) :: (S' ++ G') := by
                intro p hp
                simp only [List.mem_cons, List.not_mem_nil, or_false] at hp
                rcases hp with h | h | h <;> rw [h]
                · simp [m1]
                · simp [mX]
                · simp [mDd]
              have NF9 : News g' L' hh ((PP tg, pairObj (sti.e tg) t1' (tg : Int) t1'' k1) :: (x, instObj 617 d) :: (d, dictS [kE w "graph" t0 ag, kE w "_node" t1 an, kE w "_adj" t2 aa, kE w "adj" t3 aa, kE w "nodes" 777 nv] 5) :: rms ((I, oI) :: (S' ++ G')) [PP tg, x, d]) := front_of NY hes
              have uY : Uniq ((I, oI) :: (S' ++ G')) := fun hp hq e => News.uniq NY hp hq e
              have apI : Apart ((I, oI) :: S') G' := by
                intro p hp q hq
                rcases List.mem_cons.mp hp with e | hp
                · rw [e]; exact (hnI q (List.mem_append_right _ hq)).symm
                · exact mk9.ap p hp q hq
              have uS9 : Uniq S' := fun hp hq e => uY (List.mem_cons_of_mem _ (List.mem_append_left _ hp)) (List.mem_cons_of_mem _ (List.mem_append_left _ hq)) e
              clear N9
              k_steps
              refine Stop.out ?_
              rename News _ _ _ _ => NC
              have NY2 := back_all (es := [((PP tg : Addr), pairObj (sti.e tg) t1' (tg : Int) t1'' k1), (x, instObj 617 d), (d, dictS [kE w "graph" t0 ag, kE w "_node" t1 an, kE w "_adj" t2 aa, kE w "adj" t3 aa, kE w "nodes" 777 nv] 5)]) NC hes uY
              have okN := mk9.ok
              refine' add_edge_any (u := u) (v := tg) (S := (I, oI) :: S') (G := G') (f := f1) (Ad := Ad') (Nb := sti.N) ?a1 ?a2 ?a3 NY2 ?a5 ?a6 ?a7 ?a8 ?a9 ?a10 mk9.adj mk9.eo ?a13 ?a14 apI mk9.gi ?_
              case a1 => k_asm
              case a2 => k_asm
              case a3 => k_asm
              case a5 => k_asm
              case a6 => ktr_room
              case a7 => ktr_units
              case a8 => omega
              case a9 => exact rg.2
              case a10 => omega
              case a13 => exact Nat.le_trans (nodup_len (okN.nnd u) (okN.nin u)) (by omega)
              case a14 => exact Nat.le_trans (nodup_len (okN.nnd tg) (okN.nin tg)) (by omega)
              intro h8 tk8 G2 Ad2 F8 N8 ap8 gi8 adj8 eo8
              have hes8 : ∀ p ∈ [((PP tg : Addr), pairObj (sti.e tg) t1' (tg : Int) t1'' k1), (LB, listOf (refsOf PP sti.bs) c2)], p ∈ ((I, oI) :: S') ++ G2 := by
                intro p hp
                simp only [List.mem_cons, List.not_mem_nil, or_false] at hp
                rcases hp with h | h <;> rw [h]
                · simp [m1]
                · simp [m2]
              have NF8 : News g' L' h8 ((PP tg, pairObj (sti.e tg) t1' (tg : Int) t1'' k1) :: (LB, listOf (refsOf PP sti.bs) c2) :: rms (((I, oI) :: S') ++ G2) [PP tg, LB]) := front_of N8 hes8
              obtain ⟨R8, hR8⟩ : ∃ R8, R8 = rms (((I, oI) :: S') ++ G2) [PP tg, LB] := ⟨_, rfl⟩
              have rT8 : ∀ p ∈ R8, p.1 ≠ PP tg := by rw [hR8]; exact rms_ne (by simp)
              have rL8 : ∀ p ∈ R8, p.1 ≠ LB := by rw [hR8]; exact rms_ne (by simp)
              rw [← hR8] at NF8
              clear N8 NY2 NC
              try dsimp only
              try k_fold
              k_steps
              · refine Stop.out ?_
                rename News _ _ _ _ => NR
                have hz : sti.e tg - 1 = 0 := by assumption
                replace NR : News g' L' _ ((PP tg, pairObj (sti.e tg - 1) _ (tg : Int) t1'' k1) :: (LB, listOf (refsOf PP sti.bs) c2) :: R8) := NR
                have htb : tg ∈ sti.bs := (okN.inb tg rg.1 rg.2).mpr (by omega)
                have bl9 : sti.bs.length ≤ 60 := Nat.le_trans (nodup_from okN.bnd okN.bin) (by omega)
                refine remove_stub (P := PP) (e := fun k => if k = tg then sti.e tg - 1 else sti.e k) (l := sti.bs) (by ktr_units) (by with_reducible assumption) NR (UpdF.tail (by exact offt.2) (UpdF.head rL8)) bl9 ?hS9 htb ?_
                case hS9 =>
                  intro v hv
                  by_cases qv : v = tg
                  · subst qv
                    exact ⟨_, _, _, by simp only [if_true]; exact List.mem_cons_self⟩
                  · have zv := okN.bin v hv
                    obtain ⟨tv, tv', kv, hm⟩ := mk9.ti.pr v zv.2
                    refine ⟨tv, tv', kv, ?_⟩
                    simp only [qv, if_false]
                    refine List.mem_cons_of_mem _ (List.mem_cons_of_mem _ ?_)
                    rw [hR8]
                    exact mem_rms (by simp [hm]) (by simp [mk9.ti.inj v tg zv.2 rg.2 qv, (mk9.ti.offP v zv.2).2])
                intro h10 c10 F10 N10
                rw [hR8] at N10
                obtain ⟨S3', n1, n2, n3⟩ := turn_end mk9 uS9 m1 m2 rg (by omega) (fun p hp => hnI p (List.mem_append_left _ hp)) ap8 gi8 adj8 eo8 rfl (by rw [if_pos hz]) N10
                try dsimp only
                try k_fold
                k_steps
                refine ⟨_, _, _, _, rfl, F10, n1, n2, ?_, S3', G2, Ad2, rfl, by rw [hnext]; exact n3⟩
                intro y hy1 hy2
                have hy3 : y ≠ PySem.Str.ofString "v" := fun e => by rw [e] at hy2; exact absurd hy2 (by decide)
                simp only [hy3, hy1, hy2, if_false, Bool.false_eq_true]
              · rename News _ _ _ _ => NR
                rename Fr _ _ _ _ => FR
                have hz : ¬ (sti.e tg - 1 = 0) := by assumption
                replace NR : News g' L' _ ((PP tg, pairObj (sti.e tg - 1) _ (tg : Int) t1'' k1) :: (LB, listOf (refsOf PP sti.bs) c2) :: R8) := NR
                rw [hR8] at NR
                obtain ⟨S3', n1, n2, n3⟩ := turn_end mk9 uS9 m1 m2 rg (by omega) (fun p hp => hnI p (List.mem_append_left _ hp)) ap8 gi8 adj8 eo8 rfl (by rw [if_neg hz]) NR
                refine ⟨_, _, _, _, rfl, FR, n1, n2, ?_, S3', G2, Ad2, rfl, by rw [hnext]; exact n3⟩
                intro y hy1 hy2
                have hy3 : y ≠ PySem.Str.ofString "v" := fun e => by rw [e] at hy2; exact absurd hy2 (by decide)
                simp only [hy3, hy1, hy2, if_false, Bool.false_eq_true]
            case done2 =>
              intro I uu hh tk news' hI hJ F9 N9 hn9
              obtain ⟨S', G', Ad', rfl, mk9⟩ := hJ
              rw [show (refsOf PP DD).size = DD.length by simp, List.take_length] at mk9
              try dsimp only
              try k_fold
              k_steps
              refine ⟨_, _, _, _, as'.length, rfl, F9, N9, by simp, ⟨by with_unfolding_all rfl, by with_unfolding_all rfl, by with_unfolding_all rfl⟩, S', G', as', _, Ad', rfl, rfl, mk9.weak, pure1⟩
      case aft =>
        obtain ⟨rfl, h9, tk9, m9, S9, G9, st9, Ad9, rfl, F9, vg9, N9, rest9, ap9, gi9, adj9, pe9⟩ := hq
        have e9 : m9 = fun y => if y = PySem.Str.ofString "G" then some (.ref x) else m9 y := by
          funext y
          split
          · rename_i z; rw [z]; exact vg9
          · rfl
        rw [e9] at F9
        obtain ⟨og9, mg9, dg9⟩ := gi9.gr
        have uY9 : Uniq (S9 ++ G9) := fun hp hq e => News.uniq N9 hp hq e
        have hes9 : ∀ p ∈ [((ag : Addr), og9), (x, instObj 617 d), (d, dictS [kE w "graph" t0 ag, kE w "_node" t1 an, kE w "_adj" t2 aa, kE w "adj" t3 aa, kE w "nodes" 777 nv] 5)], p ∈ S9 ++ G9 := by
          intro p hp
          simp only [List.mem_cons, List.not_mem_nil, or_false] at hp
          rcases hp with h | h | h <;> rw [h]
          · exact List.mem_append_right _ mg9
          · exact List.mem_append_right _ gi9.inst
          · exact List.mem_append_right _ gi9.dict
        have NF9 : News g' L' h9 ((ag, og9) :: (x, instObj 617 d) :: (d, dictS [kE w "graph" t0 ag, kE w "_node" t1 an, kE w "_adj" t2 aa, kE w "adj" t3 aa, kE w "nodes" 777 nv] 5) :: rms (S9 ++ G9) [ag, x, d]) := front_of N9 hes9
        obtain ⟨R9, hR9⟩ : ∃ R9, R9 = rms (S9 ++ G9) [ag, x, d] := ⟨_, rfl⟩
        have rG9 : ∀ p ∈ R9, p.1 ≠ ag := by rw [hR9]; exact rms_ne (by simp)
        rw [← hR9] at NF9
        clear N9
        try dsimp only
        try k_fold
        k_steps
        rename News h₀ _ _ _ => kN
        rename Fr h₀ _ _ _ => kF
        rename Obj.IsDictOf _ _ (stored [] _ _) => dn9
        rw [hR9] at kN
        have rest9' : ∀ p ∈ ((la : Addr), listOf av.toArray ca) :: (lb, listOf bv.toArray cb) :: news, p ∈ S9 := fun p hp => rest9 p (by
          rw [hS0]
          simp only [List.mem_cons] at hp ⊢
          rcases hp with h | h | h <;> simp [h])
        obtain ⟨n1, n2⟩ := name_end gi9 ap9 mg9 uY9 rest9' kN
        exact done _ _ _ f1 nv ta tb t3 _ Ad9 st9 kF n1 n2 (gi9.gname dn9) adj9 pe9
end Mine
end
section
open PySem PySem.W PySem.Calls PyProof.Rows
set_option maxRecDepth 100000
set_option maxHeartbeats 4000000
namespace Mine
theorem fresh_E12 : True := by
  w_top off
  trivial
local macro_rules | `(tactic| k_room) => `(tactic| ktr_room)
local macro_rules | `(tactic| walk_at "getAttr ref") => `(tactic| (k_here; k_dflt (first
  | refine' get_ownS ?k1 ?k2 ?k3 ?k4 ?k5 ?k6 ?k7 ?k8 ?k9 ?_; (case k1 => k_asm); (case k2 => k_asm); (case k3 => k_inst); (case k4 => k_is); (case k5 => k_is); (case k6 => k_is); (case k7 => k_is); (case k8 => k_get); (case k9 => k_handed); k_whole
  | refine' get_ownD ?k1 ?k2 ?k3 ?k4 ?k5 ?k6 ?k7 ?kt ?k8 ?k9 ?_; (case k1 => k_asm); (case k2 => k_asm); (case k3 => k_inst); (case k4 => k_is); (case k5 => k_is); (case k6 => k_is); (case k7 => k_is); (case kt => k_is); (case k8 => k_get); (case k9 => k_handed); k_whole)))
local macro_rules | `(tactic| walk_at "getMethod ref") => `(tactic| (k_here; k_dflt (first
  | refine' method_instS ?k1 ?k2 ?k3 ?k4 ?k5 ?k6 ?k7 ?_; (case k1 => k_asm); (case k2 => k_asm); (case k3 => k_inst); (case k4 => k_is); (case k5 => k_is); (case k6 => k_is); (case k7 => k_get); k_whole
  | refine' method_getS ?k1 ?k2 ?_; (case k1 => k_asm); (case k2 => k_mem); k_whole)))
local macro_rules | `(tactic| k_all) => `(tactic| exact far_of (by assumption) (by omega))
local macro_rules | `(tactic| walk_at "call builtin:dict.get") => `(tactic| (k_here; k_dflt (refine' getS_miss ?k1 ?k2 ?k3 ?k4 ?k5 ?_; (case k1 => k_asm); (case k2 => k_mem); (case k3 => k_keys); (case k4 => k_get); (case k5 => k_asm); k_whole)))
local macro_rules | `(tactic| walk_at "setItem ref str") => `(tactic| (k_here; k_dflt (refine' setS_new ?k1 ?k2 ?k3 ?k4 ?k5 ?k6 ?_; (case k1 => k_asm); (case k2 => k_asm); (case k6 => k_upd); (case k3 => k_keys); (case k4 => k_get); (case k5 => (rw [sizeLine_eq]; exact Nat.le_of_ble_eq_true (by with_unfolding_all rfl))); k_whole; intro h' F' N'; (try dsimp only [List.cons_append, List.nil_append] at N'); (try k_sweep))))
local macro_rules | `(tactic| walk_at "call builtin:dict.clear") => `(tactic| (k_here; k_dflt (refine' clear_K (knd := PySem.strKind _ _) ?k1 ?k2 ?k3 ?k4 ?_; (case k1 => k_asm); (case k2 => k_asm); (case k3 => k_updF); (case k4 => assumption); k_whole; intro h' o' F' N' hd'; (try dsimp only [List.cons_append, List.nil_append] at N'); (try k_sweep))))
local macro_rules | `(tactic| k_all) => `(tactic| with_reducible assumption)
local macro_rules | `(tactic| walk_at "call builtin:len") => `(tactic| (k_here; (with_reducible show wpAny _ _ (call (Value.builtin "len") [Value.ref _]) _ _ _); k_dflt (refine' len_ints_fit ?k1 ?k2 ?k3 ?_; (case k1 => exact News.isList (by k_asm) (by k_mem)); (case k2 => assumption); (case k3 => omega); k_whole)))
local macro_rules | `(tactic| walk_at "call builtin:sum") => `(tactic| (k_here; (with_reducible show wpAny _ _ (call (Value.builtin "sum") [Value.ref _]) _ _ _); k_dflt (refine' sumQ ?k0 ?k1 ?k2 ?k3 ?k4 ?k5 ?_; (case k0 => with_unfolding_all rfl); (case k1 => k_asm); (case k2 => k_asm); (case k3 => exact News.isList (by k_asm) (by k_mem)); (case k4 => assumption); (case k5 => assumption); k_whole); intro h' tk' t' F' N'))
local macro_rules | `(tactic| walk_at "call builtin:max") => `(tactic| (k_here; (with_reducible show wpAny _ _ (call (Value.builtin _) [Value.ref _]) _ _ _); k_dflt (refine' kso_max ?k1 ?k2 ?k3 ?k4 ?k5 ?k6 ?_; (case k1 => k_asm); (case k2 => k_asm); (case k3 => exact News.isList (by k_asm) (by k_mem)); (case k4 => assumption); (case k5 => omega); (case k6 => with_unfolding_all rfl); k_whole); intro h' M' t' k' F' N' a' b'))
local macro_rules | `(tactic| walk_at "call ref") => `(tactic| (k_here; (with_reducible show wpAny _ _ (call (Value.ref 672) _ _) _ _ _); refine Stop.mk ?_))
local macro_rules | `(tactic| walk_at "execs cons") => `(tactic| ((with_reducible show wpAny _ _ (execs (Stmt.Raise _ _ _ :: _) _) _ _ _); exact absurd (Eq.refl (α := Int) _) (by assumption)))
local macro_rules | `(tactic| walk_at "exec Assign cons ListComp") => `(tactic| (refine Stop.mk ?_))
local macro_rules | `(tactic| walk_at "exec While") => `(tactic| (refine Stop.mk ?_))
local macro_rules | `(tactic| walk_at "CompSrc") => `(tactic| (refine Stop.mk ?_))
local macro_rules | `(tactic| walk_at "CompEnd") => `(tactic| (refine Stop.mk ?_))
local macro_rules | `(tactic| walk_at "eval Name") => `(tactic| (k_here; (with_reducible show wpAny _ _ (eval (Expr.Name _ _) (compEnvC _ _ _ _)) _ _ _); k_dflt (first | (refine lcf_cell (by k_asm) (by rfl) (by repeat (first | with_reducible assumption | apply List.mem_cons_of_mem)) (by with_reducible assumption) ?_ (by rfl) (by rfl)))))
local macro_rules | `(tactic| walk_at "subscriptTail") => `(tactic| (k_here; (with_reducible show wpAny _ _ (subscriptTail _ _ (Value.ref _) (Value.int _ _)) _ _ _); k_dflt (first | (refine item_anyK (News.isList (by k_asm) (by repeat (first | with_reducible assumption | apply List.mem_cons_of_mem))) (by with_reducible assumption) (by omega) (by omega) (by omega) ?_ (by with_unfolding_all rfl))); intro _))
local macro_rules | `(tactic| walk_at "eval Name") => `(tactic| (k_here; (with_reducible show wpAny _ _ (eval (Expr.Name _ _) (envOfC _ _ _ _ _)) _ _ _); k_dflt (first | (refine nameX_C (by k_asm) (by rfl) (by repeat (first | with_reducible assumption | apply List.mem_cons_of_mem)) (by with_reducible assumption) ?_ (by rfl) (by rfl)))))
local macro_rules | `(tactic| walk_at "call builtin:list.sort") => `(tactic| (k_here; refine Stop.mk ?_))
local macro_rules | `(tactic| walk_at "eval Name") => `(tactic| (k_here; (with_reducible show wpAny _ _ (eval (Expr.Name _ _) (envOfC _ _ _ _ _)) _ _ _); k_dflt (first | (refine nameX_L (by k_asm) (by first | with_reducible assumption | rfl) ?_ (by rfl) (by rfl)))))
local macro_rules | `(tactic| walk_at "truthy ref") => `(tactic| (k_here; (with_reducible show wpAny _ _ (truthy (Value.ref _)) _ _ _); k_dflt (first | (refine truthy_stubs (by k_asm) (by k_mem) (by simp only [List.length_append, List.length_cons, List.length_nil]; omega) (by first | exact last_ne _ _ | rfl) ?_))))
local macro_rules | `(tactic| walk_at "call builtin:list.pop") => `(tactic| (k_here; (with_reducible show wpAny _ _ (call (Value.builtin _) [Value.ref _]) _ _ _); k_dflt (refine' pop_stub ?F ?N ?U ?l ?_; (case F => k_asm); (case N => k_asm); (case U => k_updF); (case l => omega); k_whole); intro h' c' F' N'; (try dsimp only at N')))
local macro_rules | `(tactic| walk_at "exec For") => `(tactic| (refine Stop.mk ?_))
local macro_rules | `(tactic| walk_at "subscriptTail Name Slice ref ref") => `(tactic| (k_here; (with_reducible show wpAny _ _ (subscriptTail _ (PySem.Expr.Slice _ _ none _) (Value.ref _) (Value.ref _)) _ _ _); k_dflt (first | (refine slice_stub (by k_asm) (by k_asm) (by k_mem) (by kmk_part) (by kmk_part) (by first | with_reducible exact pick_lastE _ _ (by omega) | with_reducible exact pick_lastF _ _ (by omega) | with_reducible exact pick_uptoF _ _ (by omega) | with_reducible exact pick_uptoE _ _ (by omega)) (by omega) ?_ (by with_unfolding_all rfl) (by kmk_pure))); intro D' h' F' N' l1))
local macro_rules | `(tactic| walk_at "call builtin:list.remove") => `(tactic| (refine Stop.mk ?_))
local macro_rules | `(tactic| walk_at "call ref") => `(tactic| (k_here; (with_reducible show wpAny _ _ (call (Value.ref 485) _ _) _ _ _); refine Stop.mk ?_))
local macro_rules | `(tactic| walk_at "truthy ref") => `(tactic| (k_here; (with_reducible show wpAny _ _ (truthy (Value.ref _)) _ _ _); k_dflt (first | (refine truthy_stubs (by k_asm) (by k_mem) (by omega) (by with_reducible assumption) ?_))))
local macro_rules | `(tactic| walk_at "call builtin:len") => `(tactic| (k_here; (with_reducible show wpAny _ _ (call (Value.builtin "len") [Value.ref _]) _ _ _); k_dflt (first | (refine len_stub (by k_asm) (by k_mem) (by first | omega | (simp only [List.length_append, List.length_cons, List.length_nil] at *; omega)) ?_))))
local macro_rules | `(tactic| walk_at "call builtin:list.append") => `(tactic| (k_here; (with_reducible show wpAny _ _ (call (Value.builtin _) [Value.ref _, Value.ref _]) _ _ _); k_dflt (refine' append_stub ?F ?N ?U ?l ?_; (case F => k_asm); (case N => k_asm); (case U => k_updF); (case l => omega); k_whole); intro h' c' F' N'; (try dsimp only at N')))
local macro_rules | `(tactic| walk_at "call type:zip") => `(tactic| (k_here; refine Stop.mk ?_))
local macro_rules | `(tactic| walk_at "exec If") => `(tactic| ((with_reducible show wpAny _ _ (exec (Stmt.If (Expr.Compare (Expr.Call _ _ _ _) _ _ _) _ _ _) _) _ _ _); refine Stop.mk ?_))
local macro_rules | `(tactic| k_ne) => `(tactic| (refine neN ?_; (try dsimp only); first | with_reducible assumption | (refine Ne.symm ?_; with_reducible assumption)))
theorem maker2_N {w : World} {p : Program} {loose : List Str} {mean : ExcName → Option Value} {mg mb : Str → Option Value} {dp un : Nat} {gd : Option (List Code)} {cn : Str} {nm} {ig ic : Bool} {mo : List (Str × Const)} {a : Addr} {ccd : Value} {cl : List (Str × Addr)} {outer : List Env} {A₀ : Around} {base h₀ : Heap} {L : Addr} {m : Str → Option Value} {news : List (Addr × Obj)} {s : Shared}
    {Q E : Value → Shared → Prop} {x d ag an aa : Nat} {oag oan oaa : Obj} {t0 t1 t2 : Tok} {la lb ca cb : Nat} {av bv : List Value} {as bs : List Int} {q : Int} {Pure : List Nat → St → Prop} {PE : St → Prop} :
    Below A₀ base outer h₀ → Fr h₀ L s.heap m → (Mine.LawTop.hd.heap_39 w.params).In h₀ → News h₀ L s.heap ((aa, oaa) :: (an, oan) :: (ag, oag) :: (x, instObj 617 d) :: (d, dictOf [kE w "graph" t0 ag, kE w "_node" t1 an, kE w "_adj" t2 aa] 3) :: (la, listOf av.toArray ca) :: (lb, listOf bv.toArray cb) :: news) → Top p loose mean mg mb h₀ → dp + 100 < recursionLimit → un + 1000 < cLine →
    oag.IsDictOf (PySem.strKind PySem.Challenge.rw_ez0195_01.row.prog w) [] → oan.IsDictOf (PySem.strKind PySem.Challenge.rw_ez0195_01.row.prog w) [] → oaa.IsDictOf (PySem.strKind PySem.Challenge.rw_ez0195_01.row.prog w) [] → 
    (x == sysModules) = false → (aa == sysModules) = false → (an == sysModules) = false → (ag == sysModules) = false → (d == sysModules) = false →
    d < x → x < ag → ag < an → an < aa → (∀ p ∈ (la, listOf av.toArray ca) :: (lb, listOf bv.toArray cb) :: news, p.1 ≠ d) → (∀ p ∈ (la, listOf av.toArray ca) :: (lb, listOf bv.toArray cb) :: news, p.1 ≠ x) → (∀ p ∈ (la, listOf av.toArray ca) :: (lb, listOf bv.toArray cb) :: news, p.1 ≠ ag) → (∀ p ∈ (la, listOf av.toArray ca) :: (lb, listOf bv.toArray cb) :: news, p.1 ≠ an) → (∀ p ∈ (la, listOf av.toArray ca) :: (lb, listOf bv.toArray cb) :: news, p.1 ≠ aa) →
    IntsAre av as → IntsAre bv bs → as.length = 5 → bs.length ≤ 5 → as.sum = q → bs.sum = q → (∀ y ∈ as, 0 ≤ y ∧ y ≤ 8) → (∀ y ∈ bs, 1 ≤ y ∧ y ≤ 8) → 
    Pure (List.range as.length) ⟨(List.range bs.length).map fun v => as.length + v, fun v => if v < as.length then as.getD v 0 else bs.getD (v - as.length) 0, fun _ => []⟩ →
    (∀ (as2 as' : List Nat) (u : Nat) (st : St) (bs' : List Nat), Pure as2 st → (as' ++ [u]).Perm as2 → st.Ok (as.length + bs.length) as.length → st.e u ≠ 0 → u < as.length → bs'.Perm st.bs → bs'.Pairwise (stubLt st.e) →
      Pure as' ((altD (bs'.drop (bs'.length - ((st.e u).toNat - (st.e u).toNat / 2))) (bs'.take ((st.e u).toNat / 2))).foldl (St.step u) { st with bs := bs' })) →
    (∀ as2 as' u st, Pure as2 st → (as' ++ [u]).Perm as2 → st.e u = 0 → PE st) → (∀ st, Pure [] st → PE st) → (∀ as' st, Pure as' st → as'.Nodup ∧ ∀ u ∈ as', u < as.length ∧ 0 ≤ st.e u) → ((∀ y ∈ as, y = 0) → ∀ bs e, PE ⟨bs, e, fun _ => []⟩) →
    (∀ h' tk G' f' nv ta tb t3 gk Ad st, Fr h₀ L h' m → News h₀ L h' (((la, listOf av.toArray ca) :: (lb, listOf bv.toArray cb) :: news) ++ G') → Apart ((la, listOf av.toArray ca) :: (lb, listOf bv.toArray cb) :: news) G' →
      GI PySem.Challenge.rw_ez0195_01.row.prog w G' x d ag an aa [kE w "graph" t0 ag, kE w "_node" t1 an, kE w "_adj" t2 aa, kE w "adj" t3 aa, kE w "nodes" 777 nv] 5 f' (as.length + bs.length) Ad (fun v => [(PySem.Str.ofString "bipartite", if v < as.length then .int 0 ta else .int 1 tb)]) gk → AdjOf Ad st.N (as.length + bs.length) → PE st → Q (.ref x) { s with heap := h', toks := tk }) →
    wpN (model PySem.Challenge.rw_ez0195_01.row.prog w) (ktrTop dp un gd cn (csF nm ig ic mo) L a ccd cl outer) (call (.ref 665) [.ref la, .ref lb, .ref x] []) Q E s := by
  k_fill
  intro B F X N T hd hu e1 e2 e3 g0 g1 g2 g3 g4 l1 l2 l3 l4 l5 l6 l7 l8 l9 ia ib na nb hsa hsb ba bb pu0 pust puz pun puw puzz done
  have zna : (as.length : Int) = 5 := by omega
  refine n_call ?_
  refine' n_defC ?k1 ?k2 ?k3 ?k4 ?k5 ?kA ?kF ?kK ?k6 ?k7 ?k8 ?k9 ?kB ?kD ?_ ?c2 ?c3 ?c4
  case kA => exact rfl
  case kF => exact rfl
  case kK => exact rfl
  case k1 => k_asm
  case k2 => k_asm
  case k3 => k_asm
  case k4 => k_asm
  case k5 => k_asm
  case k6 => k_is
  case k7 => k_is
  case k8 => k_room
  case k9 => first | exact BindsTo.of_eq rfl | exact binds_K (by k_in) rfl (by k_is) rfl rfl rfl | fail "k_enter: no rule for these arguments"
  case kB => exact rfl
  case kD => decide +kernel
  case c2 => exact rfl
  case c3 => exact rfl
  case c4 => exact rfl
  intro g' L' h' tk' cells FG' F' N' Y' B' X' T' lw
  k_lt lw
  have lN := allLt_all lw.2.2.2.2.2.2.2
  k_cells Y'
  rename_i o1 o2 o3 d1 d2 d3
  (try simp only [List.cons_append, List.nil_append] at N')
  replace F' : Fr g' L' h' (fun y => if y = PySem.Str.ofString "create_using" then some (Value.ref x) else none) := by with_unfolding_all exact F'
  replace d1 : o1.data = .cell none := by with_unfolding_all exact d1
  replace d2 : o2.data = .cell (some (.ref lb)) := by with_unfolding_all exact d2
  replace d3 : o3.data = .cell (some (.ref la)) := by with_unfolding_all exact d3
  (try dsimp only)
  (try k_lift B')
  refine n_last (n_assign (n_callName ?_))
  k_steps
  refine n_callK (K := Mine.LawTop.hd.heap_39 w.params) X' (by k_is) ?_
  k_steps

  refine' empty_graph_N (t0 := t0) (t1 := t1) (t2 := t2) (news := (L' + 1 + 1 + 1, o1) :: (L' + 1 + 1, o2) :: (L' + 1, o3) :: (la, listOf av.toArray ca) :: (lb, listOf bv.toArray cb) :: news) (oan := oan) (oag := oag) (oaa := oaa) (d := d) (aa := aa) (ag := ag) (an := an) ?h1 ?h2 ?h3 ?h4 ?h5 ?h6 ?h7 ?h8 ?h9 ?h10 ?h11 ?h12 ?h13 ?h14 ?h15 ?h16 ?h17 ?h18 ?h19 ?h20 ?h21 ?h22 ?h23 ?_
  case h1 => k_asm
  case h2 => k_asm
  case h3 => k_asm
  case h4 =>
    refine News.perm N' ?_
    intro p hp
    simp only [List.mem_cons] at hp ⊢
    rcases hp with h | h | h | h | h | h | h | h | h | h | h <;> simp [h]
  case h5 => k_asm
  case h6 => ktr_room
  case h7 => ktr_units
  case h8 => k_asm
  case h9 => k_asm
  case h10 => k_asm
  case h11 => k_asm
  case h12 => k_asm
  case h13 => k_asm
  case h14 => k_asm
  case h15 => k_asm
  case h16 => k_asm
  case h17 => k_asm
  case h18 => k_asm
  case h19 => exact cells_ne (by omega) (by omega) (by omega) l5
  case h20 => exact cells_ne (by omega) (by omega) (by omega) l6
  case h21 => exact cells_ne (by omega) (by omega) (by omega) l7
  case h22 => exact cells_ne (by omega) (by omega) (by omega) l8
  case h23 => exact cells_ne (by omega) (by omega) (by omega) l9
  intro h2 tk2 t3 og on oa F2 N2 dg dn da
  k_fold
  k_steps
  refine Stop.out ?_
  rename News _ _ _ _ => NN
  rename Fr _ _ _ _ => FF
  rename _ = Data.cell (some (Value.int _ _)) => dc0
  rename PySem.Obj => oc
  obtain ⟨tn, dc⟩ : ∃ tn, oc.data = Data.cell (some (Value.int (as.length : Int) tn)) := ⟨_, dc0⟩
  clear dc0
  have hlL : la < L' := lw.2.2.2.2.2.1
  have hlb : lb < L' := lw.2.2.2.2.2.2.1
  have NL : News g' L' _ (((L' + 1 + 1 + 1, oc) :: (L' + 1 + 1, o2) :: (L' + 1, o3) :: (la, listOf av.toArray ca) :: (lb, listOf bv.toArray cb) :: news) ++ [(aa, oa), (an, on), (ag, og), (x, instObj 617 d), (d, dictS [kE w "graph" t0 ag, kE w "_node" t1 an, kE w "_adj" t2 aa, kE w "adj" t3 aa] 4)]) := News.perm NN (by
    intro p hp
    simp only [List.cons_append, List.nil_append, List.mem_cons, List.mem_append, List.not_mem_nil, or_false] at hp ⊢
    rcases hp with h | h | h | h | h | h | h | h | h | h | h <;> simp [h])
  have ap : Apart ((L' + 1 + 1 + 1, oc) :: (L' + 1 + 1, o2) :: (L' + 1, o3) :: (la, listOf av.toArray ca) :: (lb, listOf bv.toArray cb) :: news) [(aa, oa), (an, on), (ag, og), (x, instObj 617 d), (d, dictS [kE w "graph" t0 ag, kE w "_node" t1 an, kE w "_adj" t2 aa, kE w "adj" t3 aa] 4)] := by
    intro p hp q hq
    simp only [List.mem_cons, List.not_mem_nil, or_false] at hq
    rcases hq with h | h | h | h | h <;> rw [h]
    · exact cells_ne (by omega) (by omega) (by omega) l9 p hp
    · exact cells_ne (by omega) (by omega) (by omega) l8 p hp
    · exact cells_ne (by omega) (by omega) (by omega) l7 p hp
    · exact cells_ne (by omega) (by omega) (by omega) l6 p hp
    · exact cells_ne (by omega) (by omega) (by omega) l5 p hp
  have gi : GI PySem.Challenge.rw_ez0195_01.row.prog w [((aa : Addr), oa), (an, on), (ag, og), (x, instObj 617 d), (d, dictS [kE w "graph" t0 ag, kE w "_node" t1 an, kE w "_adj" t2 aa, kE w "adj" t3 aa] 4)] x d ag an aa [kE w "graph" t0 ag, kE w "_node" t1 an, kE w "_adj" t2 aa, kE w "adj" t3 aa] 4 (fun _ => 0) 0 (fun _ => []) (fun _ => []) [] := by
    refine ⟨by simp, by simp, ⟨og, by simp, dg⟩, ⟨on, by simp, dn⟩, ⟨oa, by simp, da⟩, fun v hv => absurd hv (Nat.not_lt_zero _), fun v hv => absurd hv (Nat.not_lt_zero _), fun i j hi => absurd hi (by omega), fun i hi => absurd hi (by omega), ?_, ?_, fun i hi => absurd hi (by omega)⟩
    · simp only [List.nodup_cons, List.mem_cons, List.not_mem_nil, or_false, not_or, List.nodup_nil, not_false_eq_true, and_true]
      omega
    · intro z hz
      simp only [List.mem_cons, List.not_mem_nil, or_false] at hz
      rcases hz with h | h | h | h | h <;> rw [h] <;> assumption
  obtain ⟨S0, hS0⟩ : ∃ S0, S0 = ((L' + 1 + 1 + 1 : Addr), oc) :: (L' + 1 + 1, o2) :: (L' + 1, o3) :: (la, listOf av.toArray ca) :: (lb, listOf bv.toArray cb) :: news := ⟨_, rfl⟩
  rw [← hS0] at NL ap
  clear NN
  refine' label (S := S0) (f := fun _ => 0) ?h1 ?h2 ?h3 NL ?h5 ?h6 ?h7 ?h8 ?h9 ?h10 ap gi ?_
  case h1 => k_asm
  case h2 => k_asm
  case h3 => k_asm
  case h5 => k_asm
  case h6 => ktr_room
  case h7 => ktr_units
  case h8 => omega
  case h9 => omega
  case h10 => omega
  intro h3 tk3 G1 f1 nv ta tb F3 N3 ap1 gi1
  clear NL ap gi
  rw [hS0] at N3
  try simp only [List.cons_append, List.nil_append] at N3
  k_fold
  k_steps
  · exfalso; omega
  · rename News h₀ _ _ _ => kN
    rename Fr h₀ _ _ _ => kF
    refine done _ _ G1 f1 nv ta tb t3 [] (fun _ => []) ⟨[], fun _ => 0, fun _ => []⟩ kF (News.perm kN (fun p hp => ?_)) ?_ gi1 (fun _ _ => rfl) (puzz (fun y hy => ?_) _ _)
    · simp only [List.cons_append, List.mem_cons] at hp ⊢
      rcases hp with h | h | h <;> simp [h]
    · intro p hp q hq
      refine ap1 p ?_ q hq
      rw [hS0]
      simp only [List.mem_cons] at hp ⊢
      rcases hp with h | h | h <;> simp [h]
    · rename ∀ a : Int, a ∈ as → _ => bM
      have z1 := bM y hy
      have z2 := (ba y hy).1
      omega
  refine Stop.out ?_
  refine LCg.Assign_ListComp_U (F₀ := by k_asm) (by rfl) (by with_unfolding_all rfl) (by with_unfolding_all rfl) (by decide) (by rfl) (by decide) (by rfl) (by rfl) (by rfl) ?_
  k_steps
  refine Stop.out ?_
  rename News _ _ _ _ => NN
  rename IsRange _ _ _ _ _ _ _ _ => hir
  have hsmA : Builtin.Range.small 0 (as.length : Int) 1 = true := small_one (by omega) (by omega) (by omega) (by omega)
  have hrsA : Builtin.Range.rangeSize 0 (as.length : Int) 1 = (as.length : Int) := by rw [rangeSize_nat]; omega
  refine LCg.CompSrc.range (by rfl) (by k_asm) (by k_asm) hir hsmA hrsA (by rw [sizeLine_eq]; omega) ?_
  intro gg
  obtain ⟨base1, hb1⟩ : ∃ b : List (Addr × Obj), b = ((L' + 1 + 1 + 1 : Addr), oc) :: (L' + 1 + 1, o2) :: (L' + 1, o3) :: (la, listOf av.toArray ca) :: (lb, listOf bv.toArray cb) :: (news ++ G1) := ⟨_, rfl⟩
  refine comp_loop (J := fun i ys nw => ∃ P, ys = refs P i ∧ LayJ base1 0 (fun j => as.getD j 0) i P nw) ?h0 ?turn ?fin
  case h0 => exact ⟨fun _ => 0, rfl, by rw [← hb1]; exact LayJ.zero⟩
  case turn =>
    intro i ys nw hi hJ v I oI C oC D m2 hh tt E' hv hC hx F2 N2 off ne
    obtain ⟨P, rfl, J⟩ := hJ
    obtain ⟨t9, rfl⟩ := hv
    have mc3 : (L' + 1, o3) ∈ nw := J.keep _ (by rw [hb1]; simp)
    have mla : (la, listOf av.toArray ca) ∈ nw := J.keep _ (by rw [hb1]; simp)
    clear NN
    k_steps
    refine Stop.out ?_
    refine lay_step (by with_reducible assumption) N2 (by with_reducible assumption) rfl off J (by omega) (by simp)
  case fin =>
    rintro ys nw1 ⟨P0, rfl, J1⟩
    unfold LCg.FinA
    intro LA h4 tk4 F4 N4 oA
    have mc1 : (L' + 1 + 1 + 1, oc) ∈ nw1 := J1.keep _ (by rw [hb1]; simp)
    clear NN
    try dsimp only
    try k_fold
    k_steps
    refine Stop.out ?_
    have hsmB : Builtin.Range.small (as.length : Int) ((as.length : Int) + (bs.length : Int)) 1 = true := small_one (by omega) (by omega) (by omega) (by omega)
    have hrsB : Builtin.Range.rangeSize (as.length : Int) ((as.length : Int) + (bs.length : Int)) 1 = (bs.length : Int) := by rw [rangeSize_nat]; omega
    refine LCg.Assign_ListComp_U (F₀ := by k_asm) (by rfl) (by with_unfolding_all rfl) (by with_unfolding_all rfl) (by decide) (by rfl) (by decide) (by rfl) (by rfl) (by rfl) ?_
    k_steps
    refine Stop.out ?_
    rename IsRange _ _ _ _ _ _ _ _ => hir2
    refine LCg.CompSrc.range (by rfl) (by k_asm) (by k_asm) hir2 hsmB hrsB (by rw [sizeLine_eq]; omega) ?_
    intro gg2
    obtain ⟨base2, hb2⟩ : ∃ b : List (Addr × Obj), b = (LA, LCg.lst (refs P0 as.length)) :: nw1 := ⟨_, rfl⟩
    refine comp_loop (J := fun i ys nw => ∃ P, ys = refs P i ∧ LayJ base2 as.length (fun j => bs.getD j 0) i P nw) ?h0 ?turn ?fin
    case h0 => exact ⟨fun _ => 0, rfl, by rw [← hb2]; exact LayJ.zero⟩
    case turn =>
      intro i ys nw hi hJ v I oI C oC D m2 hh tt E' hv hC hx F2 N2 off ne
      obtain ⟨P, rfl, J⟩ := hJ
      obtain ⟨t9, rfl⟩ := hv
      have mc1' : (L' + 1 + 1 + 1, oc) ∈ nw := J.keep _ (by rw [hb2]; exact List.mem_cons_of_mem _ mc1)
      have mc2 : (L' + 1 + 1, o2) ∈ nw := J.keep _ (by rw [hb2]; exact List.mem_cons_of_mem _ (J1.keep _ (by rw [hb1]; simp)))
      have mlb : (lb, listOf bv.toArray cb) ∈ nw := J.keep _ (by rw [hb2]; exact List.mem_cons_of_mem _ (J1.keep _ (by rw [hb1]; simp)))
      k_steps
      refine Stop.out ?_
      refine lay_step (by with_reducible assumption) N2 (by with_reducible assumption) rfl off J (by omega) (by rw [show ((as.length : Int) + (i : Int) - (as.length : Int)).toNat = i by omega])
    case fin =>
      rintro ys nw2 ⟨P1, rfl, J2⟩
      unfold LCg.FinA
      intro LB h5 tk5 F5 N5 oB
      rw [← List.cons_append, ← List.cons_append, ← List.cons_append, ← List.cons_append, ← List.cons_append, ← hS0] at hb1
      obtain ⟨S1, hS1, ap2, ti⟩ := stubs_laid hb1 hb2 J1 oA J2 oB ap1
      have NT : News g' L' h5 (S1 ++ G1) := News.perm N5 hS1
      clear N5
      obtain ⟨PP, hPP⟩ : ∃ PP : Nat → Nat, PP = fun v => if v < as.length then P0 v else P1 (v - as.length) := ⟨_, rfl⟩
      rw [← hPP] at ti
      clear hS1 J1 J2 oA oB
      try dsimp only
      try k_fold
      k_steps
      refine Stop.out ?_
      refine wpAny_mono (Q := WhEnd PySem.Challenge.rw_ez0195_01.row.prog w S0 x d ag an aa [kE w "graph" t0 ag, kE w "_node" t1 an, kE w "_adj" t2 aa, kE w "adj" t3 aa, kE w "nodes" 777 nv] f1 (as.length + bs.length) (fun v => [(PySem.Str.ofString "bipartite", if v < as.length then .int 0 ta else .int 1 tb)]) PE g' L' s) ?wh (fun fl s' hq => ?aft) (fun _ _ e => e)
      case wh =>
        refine While_inv2 (L := L') (news := S1 ++ G1) (n₀ := (List.range as.length).length) (WhJ PySem.Challenge.rw_ez0195_01.row.prog w S0 x d ag an aa [kE w "graph" t0 ag, kE w "_node" t1 an, kE w "_adj" t2 aa, kE w "adj" t3 aa, kE w "nodes" 777 nv] f1 (as.length + bs.length) as.length (fun v => [(PySem.Str.ofString "bipartite", if v < as.length then .int 0 ta else .int 1 tb)]) LA LB PP Pure) (by k_asm) (by k_asm) ⟨⟨by with_unfolding_all rfl, by with_unfolding_all rfl, by with_unfolding_all rfl⟩, S1, G1, List.range as.length, _, _, rfl, rfl, ⟨ap2, ti, gi1, fun _ _ => rfl, fun _ _ q hq => (nomatch hq), ?ok0⟩, pu0⟩ ?turn
        case ok0 =>
          refine ok_start (dgA := fun v => as.getD v 0) (dgB := fun v => bs.getD v 0) fun j hj => ?_
          show 1 ≤ bs.getD j 0
          have : bs.getD j 0 = bs[j] := by simp [hj]
          rw [this]
          exact (bb _ (List.getElem_mem _)).1
        case turn =>
          intro k m1 nn h1 tk1 F1 N1 J1
          obtain ⟨⟨va, vb, vg⟩, S, G, as2, st, Ad, rfl, rfl, mk, pu⟩ := J1
          have e1 : m1 = fun y => if y = PySem.Str.ofString "astubs" then some (.ref LA) else if y = PySem.Str.ofString "bstubs" then some (.ref LB) else if y = PySem.Str.ofString "G" then some (.ref x) else m1 y := by
            funext y
            split
            · rename_i z; rw [z]; exact va
            · split
              · rename_i z; rw [z]; exact vb
              · split
                · rename_i z; rw [z]; exact vg
                · rfl
          rw [e1] at F1
          obtain ⟨cA2, mA2⟩ := mk.ti.sa
          obtain ⟨cB2, mB2⟩ := mk.ti.sb
          have bl : st.bs.length ≤ 5 := Nat.le_trans (nodup_from mk.ok.bnd mk.ok.bin) (by omega)
          have aN2 : as2.length ≤ 5 := Nat.le_trans (nodup_len (puw _ _ pu).1 (fun v hv => ((puw _ _ pu).2 v hv).1)) (by omega)
          have offA := mk.ti.offA
          have NF : News g' L' h1 ((LA, listOf (refsOf PP as2) cA2) :: (LB, listOf (refsOf PP st.bs) cB2) :: rms (S ++ G) [LA, LB]) := front_of (es := [((LA : Addr), listOf (refsOf PP as2) cA2), (LB, listOf (refsOf PP st.bs) cB2)]) N1 (fun p hp => by
            simp only [List.mem_cons, List.not_mem_nil, or_false] at hp
            rcases hp with h | h <;> rw [h]
            · exact List.mem_append_left _ mA2
            · exact List.mem_append_left _ mB2)
          rcases nil_or_last as2 with rfl | ⟨q1, q2, hq⟩
          · have hb : (!([] : List Nat).isEmpty) = false := rfl
            k_steps
            refine ⟨rfl, _, _, _, S, G, st, Ad, rfl, by with_reducible assumption, by with_unfolding_all rfl, N1, mk.ti.rest, mk.ap, mk.gi, mk.adj, pun st pu⟩
          · have hb : (!as2.isEmpty) = true := by rw [hq]; simp
            obtain ⟨Ra, hRa⟩ : ∃ Ra, Ra = rms (S ++ G) [LA, LB] := ⟨_, rfl⟩
            have ra1 : ∀ p ∈ Ra, p.1 ≠ LA := by rw [hRa]; exact rms_ne (by simp)
            have ra2 : ∀ p ∈ Ra, p.1 ≠ LB := by rw [hRa]; exact rms_ne (by simp)
            have inRa : ∀ v, v < as.length + bs.length → ∃ t t' k, (PP v, pairObj (st.e v) t (v : Int) t' k) ∈ Ra := by
              intro v hv
              obtain ⟨t, t', k, hm⟩ := mk.ti.pr v hv
              exact ⟨t, t', k, by rw [hRa]; exact mem_rms (List.mem_append_left _ hm) (by simp [(mk.ti.offP v hv).1, (mk.ti.offP v hv).2])⟩
            rw [← hRa] at NF
            have uS : Uniq S := fun hp hq e => News.uniq N1 (List.mem_append_left _ hp) (List.mem_append_left _ hq) e
            clear N1
            k_steps
            refine Stop.out ?_
            refine sort_stubs (P := PP) (e := st.e) (l := as2) (by ktr_units) (by with_reducible assumption) NF (UpdF.head (fun p hp => by
              rcases List.mem_cons.mp hp with e | hp
              · rw [e]; exact fun e => offA e.symm
              · exact ra1 p hp)) aN2 (puw _ _ pu).1 ?hSa ?_
            case hSa =>
              intro v hv
              obtain ⟨t, t', k, hm⟩ := inRa v (by have := ((puw _ _ pu).2 v hv).1; omega)
              exact ⟨t, t', k, by simp [hm]⟩
            intro as3 cA3 h1a hpA hsA F1a N1a
            obtain ⟨as', u, rfl⟩ : ∃ as' u, as3 = as' ++ [u] := by
              rcases nil_or_last as3 with e | e
              · exfalso
                rw [e] at hpA
                have := hpA.length_eq
                rw [hq] at this
                simp at this
              · exact e
            have ul := (puw _ _ pu).2 u (hpA.mem_iff.mp (by simp))
            have hu0 : 0 ≤ st.e u := ul.2
            have aN : as'.length ≤ 5 := by
              have z := hpA.length_eq
              rw [List.length_append] at z
              simp only [List.length_cons, List.length_nil] at z
              omega
            obtain ⟨tu, tu', ku, mu⟩ := mk.ti.pr u (by omega)
            have offu := mk.ti.offP u (by omega)
            obtain ⟨R, hR⟩ : ∃ R, R = rms (S ++ G) [LA, PP u, LB] := ⟨_, rfl⟩
            have rA : ∀ p ∈ R, p.1 ≠ LA := by rw [hR]; exact rms_ne (by simp)
            have rP : ∀ p ∈ R, p.1 ≠ PP u := by rw [hR]; exact rms_ne (by simp)
            have rB : ∀ p ∈ R, p.1 ≠ LB := by rw [hR]; exact rms_ne (by simp)
            have NFu : News g' L' h1a ((LA, listOf (refsOf PP (as' ++ [u])) cA3) :: (PP u, pairObj (st.e u) tu (u : Int) tu' ku) :: (LB, listOf (refsOf PP st.bs) cB2) :: R) := News.perm N1a (fun p hp => by
              simp only [List.mem_cons] at hp ⊢
              rcases hp with h | h | h | h
              · exact .inl h
              · refine .inr (.inr ?_)
                rw [h, hRa]
                exact mem_rms (List.mem_append_left _ mu) (by simp [offu.1, offu.2])
              · exact .inr (.inl h)
              · refine .inr (.inr ?_)
                rw [hRa]
                rw [hR] at h
                refine mem_rms (rms_sub p h) (by simp only [List.mem_cons, List.not_mem_nil, or_false, not_or]; exact ⟨rms_ne (by simp) p h, rms_ne (by simp) p h⟩))
            clear NF N1a
            try dsimp only
            try k_fold
            k_steps
            · rename News _ _ _ _ => NB0
              rw [hR] at NB0
              have hkk : ∀ k ∈ [LA, PP u, LB], ∃ o, ((k : Addr), o) ∈ S := by
                intro k hk
                simp only [List.mem_cons, List.not_mem_nil, or_false] at hk
                rcases hk with h | h | h <;> rw [h]
                · exact ⟨_, mA2⟩
                · exact ⟨_, mu⟩
                · exact ⟨_, mB2⟩
              have NB := back_news (keys := [LA, PP u, LB]) (es' := [(LA, _), (PP u, _), (LB, _)]) NB0 hkk mk.ap
              refine ⟨rfl, _, _, _, _, G, st, Ad, rfl, by with_reducible assumption, by with_unfolding_all rfl, NB, fun p hp => mem_back (mk.ti.rest p hp) (fun hk => ?_), back_apart hkk (by simp) mk.ap, mk.gi, mk.adj, puz _ _ _ _ pu hpA (by assumption)⟩
              have z := mk.ti.off0 p hp
              simp only [List.mem_cons, List.not_mem_nil, or_false] at hk
              rcases hk with h | h | h
              · exact absurd h z.1
              · exact absurd h (z.2.2 u (by omega))
              · exact absurd h z.2.1
            refine Stop.out ?_
            have inR : ∀ v, v < as.length + bs.length → v ≠ u → ∃ t t' k, (PP v, pairObj (st.e v) t (v : Int) t' k) ∈ R := by
              intro v hv hne
              obtain ⟨t, t', k, hm⟩ := mk.ti.pr v hv
              have z := mk.ti.offP v hv
              have z2 := mk.ti.inj v u hv (by omega) hne
              exact ⟨t, t', k, by rw [hR]; exact mem_rms (List.mem_append_left _ hm) (by simp [z.1, z.2, z2])⟩
            refine sort_stubs (P := PP) (e := st.e) (l := st.bs) (by ktr_units) (by with_reducible assumption) (by with_reducible assumption) (UpdF.tail (by exact offA) (UpdF.tail (by exact offu.2) (UpdF.head rB))) bl mk.ok.bnd ?hS ?_
            case hS =>
              intro v hv
              have z := mk.ok.bin v hv
              obtain ⟨t, t', k, hm⟩ := inR v z.2 (by omega)
              exact ⟨t, t', k, by simp [hm]⟩
            intro bs1 cB1 h7 hpermB hsortB F7 N7
            have bl1 : bs1.length ≤ 5 := by rw [hpermB.length_eq]; exact bl
            try dsimp only
            try k_fold
            k_steps
            refine Stop.out ?_
            rename News _ _ _ _ => NZ
            rename Fr _ _ _ _ => FZ
            obtain ⟨sm, hsm⟩ : ∃ sm, sm = bs1.take ((st.e u).toNat / 2) := ⟨_, rfl⟩
            obtain ⟨lr, hlr⟩ : ∃ lr, lr = bs1.drop (bs1.length - ((st.e u).toNat - (st.e u).toNat / 2)) := ⟨_, rfl⟩
            rw [← hsm, ← hlr] at NZ
            rename_i D1 hXa lD1 hXb D2 hXc lD2 hX
            rw [← hsm] at lD2
            have lZ1 : sm.length ≤ 5 := by rw [hsm, List.length_take]; omega
            have lZ2 : lr.length ≤ 5 := by rw [hlr, List.length_drop]; omega
            refine Assign_zipflat (h₀ := g') (by rfl) (by with_unfolding_all rfl) (by with_unfolding_all rfl) (by decide) (by rfl) (by decide) (by rfl) (by rfl) (by decide) (by decide) (by decide) (by rfl) (by rfl) ?_
            k_steps
            refine Stop.out ?_
            refine call_zip_ll (News.isList NZ List.mem_cons_self) (News.isList NZ (List.mem_cons_of_mem _ List.mem_cons_self)) fun hzz zz Z kz => ?_
            refine ⟨zz, _, _, _, _, _, _, _, rfl, Z, FZ.keeps kz, NZ.grown kz, fun p hp => Heap.lt_size (NZ p hp).1, FZ.ns.lt, by simp; omega, ?_⟩
            intro D hh9 tk9 F9 N9 l9
            rw [lst_alt] at N9
            try dsimp only
            try k_fold
            k_steps
            refine Stop.out ?_
            obtain ⟨T9, hT9, N9⟩ := tail_of3 N9
            have lT9 : ∀ p ∈ ((D1 : Addr), listOf (refsOf PP sm) 0) :: T9, @LT.lt Nat _ p.1 D2 := fun p hp => by rw [hT9] at hp; exact lD2 p hp
            have lU9 : ∀ p ∈ ((D2 : Addr), listOf (refsOf PP lr) 0) :: (D1, listOf (refsOf PP sm) 0) :: T9, @LT.lt Nat _ p.1 D := fun p hp => by rw [hT9] at hp; exact l9 p hp
            have q1 : @LT.lt Nat _ D2 D := lU9 _ List.mem_cons_self
            have q2 : @LT.lt Nat _ D1 D := lU9 _ (List.mem_cons_of_mem _ List.mem_cons_self)
            have q3 : @LT.lt Nat _ D1 D2 := lT9 _ List.mem_cons_self
            have tD : ∀ p ∈ T9, p.1 ≠ D := fun p hp => Nat.ne_of_lt (lU9 p (List.mem_cons_of_mem _ (List.mem_cons_of_mem _ hp)))
            have tD2 : ∀ p ∈ T9, p.1 ≠ D2 := fun p hp => Nat.ne_of_lt (lT9 p (List.mem_cons_of_mem _ hp))
            have hss : sm.length ≤ lr.length := by rw [hsm, hlr, List.length_take, List.length_drop]; omega
            obtain ⟨zs, hzs⟩ : ∃ zs, zs = altZ lr sm (min lr.length sm.length) := ⟨_, rfl⟩
            have hzl : zs.length = 2 * min lr.length sm.length := by rw [hzs, altZ_len]
            rw [← hzs] at N9
            refine wpAny_mono (Q := IfMid g' L' s (fun y => if y = PySem.Str.ofString "stubs" then some (.ref D) else if y = PySem.Str.ofString "large" then some (.ref D2) else if y = PySem.Str.ofString "small" then some (.ref D1) else if y = PySem.Str.ofString "u" then some (.int (u : Int) tu') else if y = PySem.Str.ofString "degree" then some (.int (st.e u) tu) else if y = PySem.Str.ofString "astubs" then some (.ref LA) else if y = PySem.Str.ofString "bstubs" then some (.ref LB) else if y = PySem.Str.ofString "G" then some (.ref x) else m1 y) PP D D2 D1 (altD lr sm) sm T9) ?ifw (fun f s' hq => ?aft2) (fun _ _ e => e)
            case ifw =>
              clear lT9 lU9 lD1 lD2 l9 NZ FZ Z kz
              rcases nil_or_last lr with hl | ⟨lg, v, hl⟩
              · have z0 : lr.length = 0 := by rw [hl]; rfl
                refine wpAny_If ?_
                k_steps
                rename News _ _ _ _ => NI
                rename Fr _ _ _ _ => FI
                exact IfMid.intro ((altD_even (by rw [← hzs]; omega)).trans hzs.symm) FI NI
              · have z0 : lr.length = lg.length + 1 := by rw [hl]; simp
                have z1 : (lg ++ [v]).length = lg.length + 1 := by simp
                rw [hl] at N9
                refine wpAny_If ?_
                k_steps
                · rename News _ _ _ _ => NI
                  rename Fr _ _ _ _ => FI
                  exact IfMid.intro ((altD_last hl (by rw [← hzs]; omega)).trans (by rw [← hzs])) FI NI
                · rename News _ _ _ _ => NI
                  rename Fr _ _ _ _ => FI
                  exact IfMid.intro ((altD_even (by rw [← hzs]; omega)).trans hzs.symm) FI NI

            obtain ⟨rfl, hI, tkI, cI, cI2, lgI, rfl, FI, NI⟩ := hq
            try dsimp only
            try k_fold
            walk1
            refine' for_own ?F ?hx ?hp ?_
            case F => k_asm
            case hx => exact rfl
            case hp => rfl
            walk1
            rw [hT9] at NI
            have ND : News g' L' hI ((D, listOf (refsOf PP (altD lr sm)) cI) :: (LA, listOf (refsOf PP as') _) :: (PP u, pairObj (st.e u) tu (u : Int) tu' ku) :: (LB, listOf (refsOf PP bs1) cB1) :: R) := News.perm NI (fun p hp => by
              rcases List.mem_cons.mp hp with h | h
              · rw [h]; exact List.mem_cons_self
              · exact List.mem_cons_of_mem _ (List.mem_cons_of_mem _ (List.mem_cons_of_mem _ h)))
            have lD := fun p hp => lU9 p (by rw [hT9]; exact List.mem_cons_of_mem _ (List.mem_cons_of_mem _ hp))
            rw [hR] at ND lD
            obtain ⟨S2, NS2, mD2, mk2⟩ := loop_start mk uS mA2 mu mB2 (by omega) ND lD hpermB
            clear ND lD
            obtain ⟨DD, hDD⟩ : ∃ DD, DD = altD lr sm := ⟨_, rfl⟩
            rw [← hDD] at mD2 mk2
            have pure1 := pust as2 as' u st bs1 pu hpA mk.ok (by assumption) ul.1 hpermB hsortB
            rw [← hlr, ← hsm, ← hDD] at pure1
            have inDD : ∀ v ∈ DD, as.length ≤ v ∧ v < as.length + bs.length := fun v hv => mk.ok.bin v (hpermB.mem_iff.mp (by rw [hDD] at hv; exact (mem_altD hss v hv).elim (fun h => by rw [hlr] at h; exact List.mem_of_mem_drop h) (fun h => by rw [hsm] at h; exact List.mem_of_mem_take h)))
            refine loop_listM (items := refsOf PP DD) (c := cI) [PySem.Str.ofString "v"] (fun I i u' n' => ∃ S' G' Ad', n' = S' ++ G' ∧ Mk PySem.Challenge.rw_ez0195_01.row.prog w ((D, listOf (refsOf PP DD) cI) :: S0) x d ag an aa [kE w "graph" t0 ag, kE w "_node" t1 an, kE w "_adj" t2 aa, kE w "adj" t3 aa, kE w "nodes" 777 nv] f1 (as.length + bs.length) as.length (fun v => [(PySem.Str.ofString "bipartite", if v < as.length then .int 0 ta else .int 1 tb)]) LA LB PP as' ((DD.take i).foldl (St.step u) { st with bs := bs1 }) S' G' Ad') ?hh (by k_asm) NS2 ?hm ?h0 ?turn2 ?done2
            case hh => rfl
            case hm => exact List.mem_append_left _ mD2
            case h0 => exact fun I hI => ⟨S2, G, Ad, rfl, by simpa using mk2⟩
            case turn2 =>
              intro I i v uu hh tk oI news1 hI hv hJ F9 N9 hnI
              obtain ⟨S', G', Ad', rfl, mk9⟩ := hJ
              obtain ⟨tg, htg, rfl⟩ : ∃ tg, DD[i]? = some tg ∧ v = .ref (PP tg) := by
                simp only [List.getElem?_toArray, List.getElem?_map] at hv
                cases hd : DD[i]? with
                | none => rw [hd] at hv; simp at hv
                | some tg => rw [hd] at hv; exact ⟨tg, rfl, (by simpa using hv.symm)⟩
              have htgD : tg ∈ DD := List.mem_of_getElem? htg
              have rg := inDD tg htgD
              obtain ⟨sti, hsti⟩ : ∃ sti, sti = (DD.take i).foldl (St.step u) { st with bs := bs1 } := ⟨_, rfl⟩
              rw [← hsti] at mk9
              have hnext : (DD.take (i + 1)).foldl (St.step u) { st with bs := bs1 } = sti.step u tg := by
                rw [List.take_succ, htg, List.foldl_append, ← hsti]; rfl
              obtain ⟨t1', t1'', k1, m1⟩ := mk9.ti.pr tg rg.2
              obtain ⟨c2, m2⟩ := mk9.ti.sb
              have mD9 := mk9.ti.rest _ List.mem_cons_self
              have offt := mk9.ti.offP tg rg.2
              have NY : News g' L' hh ((I, oI) :: (S' ++ G')) := News.perm N9 (fun p hp => by
                simp only [List.mem_cons] at hp ⊢
                rcases hp with h | h
                · exact .inl h
                · exact .inr (.inr h))
              have mX := mk9.gi.inst
              have mDd := mk9.gi.dict
              have hes : ∀ p ∈ [((PP tg : Addr), pairObj (sti.e tg) t1' (tg : Int) t1'' k1), (x, instObj 617 d), (d, dictS [kE w "graph" t0 ag, kE w "_node" t1 an, kE w "_adj" t2 aa, kE w "adj" t3 aa, kE w "nodes" 777 nv] 5)], p ∈ (I, oI) :: (S' ++ G') := by
                intro p hp
                simp only [List.mem_cons, List.not_mem_nil, or_false] at hp
                rcases hp with h | h | h <;> rw [h]
                · simp [m1]
                · simp [mX]
                · simp [mDd]
              have NF9 : News g' L' hh ((PP tg, pairObj (sti.e tg) t1' (tg : Int) t1'' k1) :: (x, instObj 617 d) :: (d, dictS [kE w "graph" t0 ag, kE w "_node" t1 an, kE w "_adj" t2 aa, kE w "adj" t3 aa, kE w "nodes" 777 nv] 5) :: rms ((I, oI) :: (S' ++ G')) [PP tg, x, d]) := front_of NY hes
              have uY : Uniq ((I, oI) :: (S' ++ G')) := fun hp hq e => News.uniq NY hp hq e
              have apI : Apart ((I, oI) :: S') G' := by
                intro p hp q hq
                rcases List.mem_cons.mp hp with e | hp
                · rw [e]; exact (hnI q (List.mem_append_right _ hq)).symm
                · exact mk9.ap p hp q hq
              have uS9 : Uniq S' := fun hp hq e => uY (List.mem_cons_of_mem _ (List.mem_append_left _ hp)) (List.mem_cons_of_mem _ (List.mem_append_left _ hq)) e
              clear N9
              k_steps
              refine Stop.out ?_
              rename News _ _ _ _ => NC
              have NY2 := back_all (es := [((PP tg : Addr), pairObj (sti.e tg) t1' (tg : Int) t1'' k1), (x, instObj 617 d), (d, dictS [kE w "graph" t0 ag, kE w "_node" t1 an, kE w "_adj" t2 aa, kE w "adj" t3 aa, kE w "nodes" 777 nv] 5)]) NC hes uY
              have okN := mk9.ok
              refine' add_edge_any (u := u) (v := tg) (S := (I, oI) :: S') (G := G') (f := f1) (Ad := Ad') (Nb := sti.N) ?a1 ?a2 ?a3 NY2 ?a5 ?a6 ?a7 ?a8 ?a9 ?a10 mk9.adj mk9.eo ?a13 ?a14 apI mk9.gi ?_
              case a1 => k_asm
              case a2 => k_asm
              case a3 => k_asm
              case a5 => k_asm
              case a6 => ktr_room
              case a7 => ktr_units
              case a8 => omega
              case a9 => exact rg.2
              case a10 => omega
              case a13 => exact Nat.le_trans (nodup_len (okN.nnd u) (okN.nin u)) (by omega)
              case a14 => exact Nat.le_trans (nodup_len (okN.nnd tg) (okN.nin tg)) (by omega)
              intro h8 tk8 G2 Ad2 F8 N8 ap8 gi8 adj8 eo8
              have hes8 : ∀ p ∈ [((PP tg : Addr), pairObj (sti.e tg) t1' (tg : Int) t1'' k1), (LB, listOf (refsOf PP sti.bs) c2)], p ∈ ((I, oI) :: S') ++ G2 := by
                intro p hp
                simp only [List.mem_cons, List.not_mem_nil, or_false] at hp
                rcases hp with h | h <;> rw [h]
                · simp [m1]
                · simp [m2]
              have NF8 : News g' L' h8 ((PP tg, pairObj (sti.e tg) t1' (tg : Int) t1'' k1) :: (LB, listOf (refsOf PP sti.bs) c2) :: rms (((I, oI) :: S') ++ G2) [PP tg, LB]) := front_of N8 hes8
              obtain ⟨R8, hR8⟩ : ∃ R8, R8 = rms (((I, oI) :: S') ++ G2) [PP tg, LB] := ⟨_, rfl⟩
              have rT8 : ∀ p ∈ R8, p.1 ≠ PP tg := by rw [hR8]; exact rms_ne (by simp)
              have rL8 : ∀ p ∈ R8, p.1 ≠ LB := by rw [hR8]; exact rms_ne (by simp)
              rw [← hR8] at NF8
              clear N8 NY2 NC
              try dsimp only
              try k_fold
              k_steps
              · refine Stop.out ?_
                rename News _ _ _ _ => NR
                have hz : sti.e tg - 1 = 0 := by assumption
                replace NR : News g' L' _ ((PP tg, pairObj (sti.e tg - 1) _ (tg : Int) t1'' k1) :: (LB, listOf (refsOf PP sti.bs) c2) :: R8) := NR
                have htb : tg ∈ sti.bs := (okN.inb tg rg.1 rg.2).mpr (by omega)
                have bl9 : sti.bs.length ≤ 60 := Nat.le_trans (nodup_from okN.bnd okN.bin) (by omega)
                refine remove_stub (P := PP) (e := fun k => if k = tg then sti.e tg - 1 else sti.e k) (l := sti.bs) (by ktr_units) (by with_reducible assumption) NR (UpdF.tail (by exact offt.2) (UpdF.head rL8)) bl9 ?hS9 htb ?_
                case hS9 =>
                  intro v hv
                  by_cases qv : v = tg
                  · subst qv
                    exact ⟨_, _, _, by simp only [if_true]; exact List.mem_cons_self⟩
                  · have zv := okN.bin v hv
                    obtain ⟨tv, tv', kv, hm⟩ := mk9.ti.pr v zv.2
                    refine ⟨tv, tv', kv, ?_⟩
                    simp only [qv, if_false]
                    refine List.mem_cons_of_mem _ (List.mem_cons_of_mem _ ?_)
                    rw [hR8]
                    exact mem_rms (by simp [hm]) (by simp [mk9.ti.inj v tg zv.2 rg.2 qv, (mk9.ti.offP v zv.2).2])
                intro h10 c10 F10 N10
                rw [hR8] at N10
                obtain ⟨S3', n1, n2, n3⟩ := turn_end mk9 uS9 m1 m2 rg (by omega) (fun p hp => hnI p (List.mem_append_left _ hp)) ap8 gi8 adj8 eo8 rfl (by rw [if_pos hz]) N10
                try dsimp only
                try k_fold
                k_steps
                refine ⟨_, _, _, _, rfl, F10, n1, n2, ?_, S3', G2, Ad2, rfl, by rw [hnext]; exact n3⟩
                intro y hy1 hy2
                have hy3 : y ≠ PySem.Str.ofString "v" := fun e => by rw [e] at hy2; exact absurd hy2 (by decide)
                simp only [hy3, hy1, hy2, if_false, Bool.false_eq_true]
              · rename News _ _ _ _ => NR
                rename Fr _ _ _ _ => FR
                have hz : ¬ (sti.e tg - 1 = 0) := by assumption
                replace NR : News g' L' _ ((PP tg, pairObj (sti.e tg - 1) _ (tg : Int) t1'' k1) :: (LB, listOf (refsOf PP sti.bs) c2) :: R8) := NR
                rw [hR8] at NR
                obtain ⟨S3', n1, n2, n3⟩ := turn_end mk9 uS9 m1 m2 rg (by omega) (fun p hp => hnI p (List.mem_append_left _ hp)) ap8 gi8 adj8 eo8 rfl (by rw [if_neg hz]) NR
                refine ⟨_, _, _, _, rfl, FR, n1, n2, ?_, S3', G2, Ad2, rfl, by rw [hnext]; exact n3⟩
                intro y hy1 hy2
                have hy3 : y ≠ PySem.Str.ofString "v" := fun e => by rw [e] at hy2; exact absurd hy2 (by decide)
                simp only [hy3, hy1, hy2, if_false, Bool.false_eq_true]
            case done2 =>
              intro I uu hh tk news' hI hJ F9 N9 hn9
              obtain ⟨S', G', Ad', rfl, mk9⟩ := hJ
              rw [show (refsOf PP DD).size = DD.length by simp, List.take_length] at mk9
              try dsimp only
              try k_fold
              k_steps
              refine ⟨_, _, _, _, as'.length, rfl, F9, N9, by have z := hpA.length_eq; simp at z; omega, ⟨by with_unfolding_all rfl, by with_unfolding_all rfl, by with_unfolding_all rfl⟩, S', G', as', _, Ad', rfl, rfl, mk9.weak, pure1⟩
      case aft =>
        obtain ⟨rfl, h9, tk9, m9, S9, G9, st9, Ad9, rfl, F9, vg9, N9, rest9, ap9, gi9, adj9, pe9⟩ := hq
        have e9 : m9 = fun y => if y = PySem.Str.ofString "G" then some (.ref x) else m9 y := by
          funext y
          split
          · rename_i z; rw [z]; exact vg9
          · rfl
        rw [e9] at F9
        obtain ⟨og9, mg9, dg9⟩ := gi9.gr
        have uY9 : Uniq (S9 ++ G9) := fun hp hq e => News.uniq N9 hp hq e
        have hes9 : ∀ p ∈ [((ag : Addr), og9), (x, instObj 617 d), (d, dictS [kE w "graph" t0 ag, kE w "_node" t1 an, kE w "_adj" t2 aa, kE w "adj" t3 aa, kE w "nodes" 777 nv] 5)], p ∈ S9 ++ G9 := by
          intro p hp
          simp only [List.mem_cons, List.not_mem_nil, or_false] at hp
          rcases hp with h | h | h <;> rw [h]
          · exact List.mem_append_right _ mg9
          · exact List.mem_append_right _ gi9.inst
          · exact List.mem_append_right _ gi9.dict
        have NF9 : News g' L' h9 ((ag, og9) :: (x, instObj 617 d) :: (d, dictS [kE w "graph" t0 ag, kE w "_node" t1 an, kE w "_adj" t2 aa, kE w "adj" t3 aa, kE w "nodes" 777 nv] 5) :: rms (S9 ++ G9) [ag, x, d]) := front_of N9 hes9
        obtain ⟨R9, hR9⟩ : ∃ R9, R9 = rms (S9 ++ G9) [ag, x, d] := ⟨_, rfl⟩
        have rG9 : ∀ p ∈ R9, p.1 ≠ ag := by rw [hR9]; exact rms_ne (by simp)
        rw [← hR9] at NF9
        clear N9
        try dsimp only
        try k_fold
        k_steps
        rename News h₀ _ _ _ => kN
        rename Fr h₀ _ _ _ => kF
        rename Obj.IsDictOf _ _ (stored [] _ _) => dn9
        rw [hR9] at kN
        have rest9' : ∀ p ∈ ((la : Addr), listOf av.toArray ca) :: (lb, listOf bv.toArray cb) :: news, p ∈ S9 := fun p hp => rest9 p (by
          rw [hS0]
          simp only [List.mem_cons] at hp ⊢
          rcases hp with h | h | h <;> simp [h])
        obtain ⟨n1, n2⟩ := name_end gi9 ap9 mg9 uY9 rest9' kN
        exact done _ _ _ f1 nv ta tb t3 _ Ad9 st9 kF n1 n2 (gi9.gname dn9) adj9 pe9
end Mine
end
section
open PySem PySem.W PySem.Calls PyProof.Rows
set_option maxRecDepth 100000
set_option maxHeartbeats 4000000
namespace Mine
theorem fresh_E13 : True := by
  w_top off
  trivial
local macro_rules | `(tactic| k_room) => `(tactic| ktr_room)
local macro_rules | `(tactic| walk_at "getAttr ref") => `(tactic| (k_here; k_dflt (first
  | refine' get_ownS ?k1 ?k2 ?k3 ?k4 ?k5 ?k6 ?k7 ?k8 ?k9 ?_; (case k1 => k_asm); (case k2 => k_asm); (case k3 => k_inst); (case k4 => k_is); (case k5 => k_is); (case k6 => k_is); (case k7 => k_is); (case k8 => k_get); (case k9 => k_handed); k_whole
  | refine' get_ownD ?k1 ?k2 ?k3 ?k4 ?k5 ?k6 ?k7 ?kt ?k8 ?k9 ?_; (case k1 => k_asm); (case k2 => k_asm); (case k3 => k_inst); (case k4 => k_is); (case k5 => k_is); (case k6 => k_is); (case k7 => k_is); (case kt => k_is); (case k8 => k_get); (case k9 => k_handed); k_whole)))
local macro_rules | `(tactic| walk_at "getMethod ref") => `(tactic| (k_here; k_dflt (first
  | refine' method_instS ?k1 ?k2 ?k3 ?k4 ?k5 ?k6 ?k7 ?_; (case k1 => k_asm); (case k2 => k_asm); (case k3 => k_inst); (case k4 => k_is); (case k5 => k_is); (case k6 => k_is); (case k7 => k_get); k_whole
  | refine' method_getS ?k1 ?k2 ?_; (case k1 => k_asm); (case k2 => k_mem); k_whole)))
local macro_rules | `(tactic| k_all) => `(tactic| exact far_of (by assumption) (by omega))
local macro_rules | `(tactic| walk_at "call builtin:dict.get") => `(tactic| (k_here; k_dflt (refine' getS_miss ?k1 ?k2 ?k3 ?k4 ?k5 ?_; (case k1 => k_asm); (case k2 => k_mem); (case k3 => k_keys); (case k4 => k_get); (case k5 => k_asm); k_whole)))
local macro_rules | `(tactic| walk_at "setItem ref str") => `(tactic| (k_here; k_dflt (refine' setS_new ?k1 ?k2 ?k3 ?k4 ?k5 ?k6 ?_; (case k1 => k_asm); (case k2 => k_asm); (case k6 => k_upd); (case k3 => k_keys); (case k4 => k_get); (case k5 => (rw [sizeLine_eq]; exact Nat.le_of_ble_eq_true (by with_unfolding_all rfl))); k_whole; intro h' F' N'; (try dsimp only [List.cons_append, List.nil_append] at N'); (try k_sweep))))
local macro_rules | `(tactic| walk_at "call builtin:dict.clear") => `(tactic| (k_here; k_dflt (refine' clear_K (knd := PySem.strKind _ _) ?k1 ?k2 ?k3 ?k4 ?_; (case k1 => k_asm); (case k2 => k_asm); (case k3 => k_updF); (case k4 => assumption); k_whole; intro h' o' F' N' hd'; (try dsimp only [List.cons_append, List.nil_append] at N'); (try k_sweep))))
local macro_rules | `(tactic| k_all) => `(tactic| with_reducible assumption)
local macro_rules | `(tactic| walk_at "call builtin:len") => `(tactic| (k_here; (with_reducible show wpAny _ _ (call (Value.builtin "len") [Value.ref _]) _ _ _); k_dflt (refine' len_ints_fit ?k1 ?k2 ?k3 ?_; (case k1 => exact News.isList (by k_asm) (by k_mem)); (case k2 => assumption); (case k3 => omega); k_whole)))
local macro_rules | `(tactic| walk_at "call builtin:sum") => `(tactic| (k_here; (with_reducible show wpAny _ _ (call (Value.builtin "sum") [Value.ref _]) _ _ _); k_dflt (refine' sumQ ?k0 ?k1 ?k2 ?k3 ?k4 ?k5 ?_; (case k0 => with_unfolding_all rfl); (case k1 => k_asm); (case k2 => k_asm); (case k3 => exact News.isList (by k_asm) (by k_mem)); (case k4 => assumption); (case k5 => assumption); k_whole); intro h' tk' t' F' N'))
local macro_rules | `(tactic| walk_at "call builtin:max") => `(tactic| (k_here; (with_reducible show wpAny _ _ (call (Value.builtin _) [Value.ref _]) _ _ _); k_dflt (refine' kso_max ?k1 ?k2 ?k3 ?k4 ?k5 ?k6 ?_; (case k1 => k_asm); (case k2 => k_asm); (case k3 => exact News.isList (by k_asm) (by k_mem)); (case k4 => assumption); (case k5 => omega); (case k6 => with_unfolding_all rfl); k_whole); intro h' M' t' k' F' N' a' b'))
local macro_rules | `(tactic| walk_at "call ref") => `(tactic| (k_here; (with_reducible show wpAny _ _ (call (Value.ref 672) _ _) _ _ _); refine Stop.mk ?_))
local macro_rules | `(tactic| walk_at "execs cons") => `(tactic| ((with_reducible show wpAny _ _ (execs (Stmt.Raise _ _ _ :: _) _) _ _ _); refine Stop.mk ?_))
local macro_rules | `(tactic| k_ne) => `(tactic| (refine neN ?_; (try dsimp only); first | with_reducible assumption | (refine Ne.symm ?_; with_reducible assumption)))
theorem refuse0_N {w : World} {p : Program} {loose : List Str} {mean : ExcName → Option Value} {mg mb : Str → Option Value} {dp un : Nat} {gd : Option (List Code)} {cn : Str} {nm} {ig ic : Bool} {mo : List (Str × Const)} {a : Addr} {ccd : Value} {cl : List (Str × Addr)} {outer : List Env} {A₀ : Around} {base h₀ : Heap} {L : Addr} {m : Str → Option Value} {news : List (Addr × Obj)} {s : Shared}
    {Q E : Value → Shared → Prop} {x d ag an aa : Nat} {oag oan oaa : Obj} {t0 t1 t2 : Tok} {la lb ca cb : Nat} {av bv : List Value} {as bs : List Int} {q q2 : Int} :
    Below A₀ base outer h₀ → Fr h₀ L s.heap m → (Mine.LawTop.hd.heap_39 w.params).In h₀ → News h₀ L s.heap ((aa, oaa) :: (an, oan) :: (ag, oag) :: (x, instObj 617 d) :: (d, dictOf [kE w "graph" t0 ag, kE w "_node" t1 an, kE w "_adj" t2 aa] 3) :: (la, listOf av.toArray ca) :: (lb, listOf bv.toArray cb) :: news) → Top p loose mean mg mb h₀ → dp + 100 < recursionLimit → un + 1000 < cLine →
    oag.IsDictOf (PySem.strKind PySem.Challenge.rw_ez0195_01.row.prog w) [] → oan.IsDictOf (PySem.strKind PySem.Challenge.rw_ez0195_01.row.prog w) [] → oaa.IsDictOf (PySem.strKind PySem.Challenge.rw_ez0195_01.row.prog w) [] → 
    (x == sysModules) = false → (aa == sysModules) = false → (an == sysModules) = false → (ag == sysModules) = false → (d == sysModules) = false →
    d < x → x < ag → ag < an → an < aa → (∀ p ∈ (la, listOf av.toArray ca) :: (lb, listOf bv.toArray cb) :: news, p.1 ≠ d) → (∀ p ∈ (la, listOf av.toArray ca) :: (lb, listOf bv.toArray cb) :: news, p.1 ≠ x) → (∀ p ∈ (la, listOf av.toArray ca) :: (lb, listOf bv.toArray cb) :: news, p.1 ≠ ag) → (∀ p ∈ (la, listOf av.toArray ca) :: (lb, listOf bv.toArray cb) :: news, p.1 ≠ an) → (∀ p ∈ (la, listOf av.toArray ca) :: (lb, listOf bv.toArray cb) :: news, p.1 ≠ aa) →
    IntsAre av as → IntsAre bv bs → 5 ≤ as.length → as.length ≤ 6 → bs.length ≤ 6 → as.sum = q → bs.sum = q2 → q ≠ q2 → (∀ y ∈ as, 0 ≤ y ∧ y ≤ 8) → (∀ y ∈ bs, 1 ≤ y ∧ y ≤ 8) → 
    (∀ h' tk e t vs g, Fr h₀ L g m → g.UpToSlots h' → RaisedS base g (envX cn (csF nm ig ic mo) L a ccd cl :: outer) e (.ref 44) t vs ((la, listOf av.toArray ca) :: (lb, listOf bv.toArray cb) :: news) h' → E (.ref e) { s with heap := h', toks := tk }) →
    wpN (model PySem.Challenge.rw_ez0195_01.row.prog w) (ktrTop dp un gd cn (csF nm ig ic mo) L a ccd cl outer) (call (.ref 653) [.ref la, .ref lb, .ref x] []) Q E s := by
  k_fill
  intro B F X N T hd hu e1 e2 e3 g0 g1 g2 g3 g4 l1 l2 l3 l4 l5 l6 l7 l8 l9 ia ib na na2 nb hsa hsb hqq ba bb refused
  have qa : q.natAbs.log2 < 1920 := small_sum hsa (by omega) ba
  have qb : q2.natAbs.log2 < 1920 := small_sum hsb (by omega) (fun y hy => ⟨by have := (bb y hy).1; omega, (bb y hy).2⟩)
  refine n_call ?_
  refine' n_defC ?k1 ?k2 ?k3 ?k4 ?k5 ?kA ?kF ?kK ?k6 ?k7 ?k8 ?k9 ?kB ?kD ?_ ?c2 ?c3 ?c4
  case kA => exact rfl
  case kF => exact rfl
  case kK => exact rfl
  case k1 => k_asm
  case k2 => k_asm
  case k3 => k_asm
  case k4 => k_asm
  case k5 => k_asm
  case k6 => k_is
  case k7 => k_is
  case k8 => k_room
  case k9 => first | exact BindsTo.of_eq rfl | exact binds_K (by k_in) rfl (by k_is) rfl rfl rfl | fail "k_enter: no rule for these arguments"
  case kB => exact rfl
  case kD => decide +kernel
  case c2 => exact rfl
  case c3 => exact rfl
  case c4 => exact rfl
  intro g' L' h' tk' cells FG' F' N' Y' B' X' T' lw
  k_lt lw
  have lN := allLt_all lw.2.2.2.2.2.2.2
  k_cells Y'
  rename_i o1 o2 o3 d1 d2 d3
  (try simp only [List.cons_append, List.nil_append] at N')
  replace F' : Fr g' L' h' (fun y => if y = PySem.Str.ofString "create_using" then some (Value.ref x) else none) := by with_unfolding_all exact F'
  replace d1 : o1.data = .cell none := by with_unfolding_all exact d1
  replace d2 : o2.data = .cell (some (.ref lb)) := by with_unfolding_all exact d2
  replace d3 : o3.data = .cell (some (.ref la)) := by with_unfolding_all exact d3
  (try dsimp only)
  (try k_lift B')
  refine n_last (n_assign (n_callName ?_))
  k_steps
  refine n_callK (K := Mine.LawTop.hd.heap_39 w.params) X' (by k_is) ?_
  k_steps

  refine' empty_graph_N (t0 := t0) (t1 := t1) (t2 := t2) (news := (L' + 1 + 1 + 1, o1) :: (L' + 1 + 1, o2) :: (L' + 1, o3) :: (la, listOf av.toArray ca) :: (lb, listOf bv.toArray cb) :: news) (oan := oan) (oag := oag) (oaa := oaa) (d := d) (aa := aa) (ag := ag) (an := an) ?h1 ?h2 ?h3 ?h4 ?h5 ?h6 ?h7 ?h8 ?h9 ?h10 ?h11 ?h12 ?h13 ?h14 ?h15 ?h16 ?h17 ?h18 ?h19 ?h20 ?h21 ?h22 ?h23 ?_
  case h1 => k_asm
  case h2 => k_asm
  case h3 => k_asm
  case h4 =>
    refine News.perm N' ?_
    intro p hp
    simp only [List.mem_cons] at hp ⊢
    rcases hp with h | h | h | h | h | h | h | h | h | h | h <;> simp [h]
  case h5 => k_asm
  case h6 => ktr_room
  case h7 => ktr_units
  case h8 => k_asm
  case h9 => k_asm
  case h10 => k_asm
  case h11 => k_asm
  case h12 => k_asm
  case h13 => k_asm
  case h14 => k_asm
  case h15 => k_asm
  case h16 => k_asm
  case h17 => k_asm
  case h18 => k_asm
  case h19 => exact cells_ne (by omega) (by omega) (by omega) l5
  case h20 => exact cells_ne (by omega) (by omega) (by omega) l6
  case h21 => exact cells_ne (by omega) (by omega) (by omega) l7
  case h22 => exact cells_ne (by omega) (by omega) (by omega) l8
  case h23 => exact cells_ne (by omega) (by omega) (by omega) l9
  intro h2 tk2 t3 og on oa F2 N2 dg dn da
  k_fold
  k_steps
  · exact absurd (by assumption) hqq
  refine Stop.out ?_
  refine wpAny_execs_cons ?_
  refine' Raise_ownC (x := PySem.Str.ofString "NetworkXError") ?F ?g ?O PySem.F.excBase_Exception ?h ?za ?zb ?zc ?zd ?ze ?zf ?_
  case F => k_asm
  case g => exact TopRead.g (by k_asm)
  case O => exact own_of_in (by k_asm) (by k_asm) (by k_is) (by k_exc)
  case h => exact rfl
  case za => exact rfl
  case zb => exact rfl
  case zc => exact rfl
  case zd => exact rfl
  case ze => decide
  case zf => exact rfl
  walk1
  rename News g' L' _ _ => NN
  rename Fr g' L' _ _ => FF
  refine' fstr2 FF ?ha ?hb qa qb ?hc ?hd2 ?he ?hf ?hg2 ?hh2 ?hi2 ?_
  case ha => with_unfolding_all rfl
  case hb => with_unfolding_all rfl
  case hc => decide
  case hd2 => decide
  case he => exact rfl
  case hf => exact rfl
  case hg2 => exact rfl
  case hh2 => decide
  case hi2 => decide
  intro xm tm tkm
  walk1
  refine ⟨by rw [sizeLine_eq, List.length_singleton]; omega, FF.keep, fun hE eE mE => ?_⟩
  refine leave_raiseC B' mE FF (news := (la, listOf av.toArray ca) :: (lb, listOf bv.toArray cb) :: news) (fun p hp => NN p ?hmem) rfl (fun hc => nomatch hc) ?_
  case hmem =>
    simp only [List.mem_cons] at hp ⊢
    rcases hp with h | h | h <;> simp [h]
  intro hR tR R U
  exact refused _ _ _ _ _ _ FG' U R
end Mine
end
section
open PySem PySem.W PySem.Calls PyProof.Rows
set_option maxRecDepth 100000
set_option maxHeartbeats 4000000
namespace Mine
theorem fresh_E14 : True := by
  w_top off
  trivial
local macro_rules | `(tactic| walk_at "nought") => `(tactic| fail)
local macro_rules | `(tactic| k_room) => `(tactic| ktr_room)
local macro_rules | `(tactic| walk_at "getAttr ref") => `(tactic| (k_here; k_dflt (first
  | refine' get_ownS ?k1 ?k2 ?k3 ?k4 ?k5 ?k6 ?k7 ?k8 ?k9 ?_; (case k1 => k_asm); (case k2 => k_asm); (case k3 => k_inst); (case k4 => k_is); (case k5 => k_is); (case k6 => k_is); (case k7 => k_is); (case k8 => k_get); (case k9 => k_handed); k_whole
  | refine' get_ownD ?k1 ?k2 ?k3 ?k4 ?k5 ?k6 ?k7 ?kt ?k8 ?k9 ?_; (case k1 => k_asm); (case k2 => k_asm); (case k3 => k_inst); (case k4 => k_is); (case k5 => k_is); (case k6 => k_is); (case k7 => k_is); (case kt => k_is); (case k8 => k_get); (case k9 => k_handed); k_whole)))
local macro_rules | `(tactic| walk_at "getMethod ref") => `(tactic| (k_here; k_dflt (first
  | refine' method_instS ?k1 ?k2 ?k3 ?k4 ?k5 ?k6 ?k7 ?_; (case k1 => k_asm); (case k2 => k_asm); (case k3 => k_inst); (case k4 => k_is); (case k5 => k_is); (case k6 => k_is); (case k7 => k_get); k_whole
  | refine' method_getS ?k1 ?k2 ?_; (case k1 => k_asm); (case k2 => k_mem); k_whole)))
local macro_rules | `(tactic| k_all) => `(tactic| exact far_of (by assumption) (by omega))
local macro_rules | `(tactic| walk_at "call builtin:dict.get") => `(tactic| (k_here; k_dflt (refine' getS_miss ?k1 ?k2 ?k3 ?k4 ?k5 ?_; (case k1 => k_asm); (case k2 => k_mem); (case k3 => k_keys); (case k4 => k_get); (case k5 => k_asm); k_whole)))
local macro_rules | `(tactic| walk_at "setItem ref str") => `(tactic| (k_here; k_dflt (refine' setS_new ?k1 ?k2 ?k3 ?k4 ?k5 ?k6 ?_; (case k1 => k_asm); (case k2 => k_asm); (case k6 => k_upd); (case k3 => k_keys); (case k4 => k_get); (case k5 => (rw [sizeLine_eq]; exact Nat.le_of_ble_eq_true (by with_unfolding_all rfl))); k_whole; intro h' F' N'; (try dsimp only [List.cons_append, List.nil_append] at N'); (try k_sweep))))
local macro_rules | `(tactic| walk_at "call builtin:dict.clear") => `(tactic| (k_here; k_dflt (refine' clear_K (knd := PySem.strKind _ _) ?k1 ?k2 ?k3 ?k4 ?_; (case k1 => k_asm); (case k2 => k_asm); (case k3 => k_updF); (case k4 => assumption); k_whole; intro h' o' F' N' hd'; (try dsimp only [List.cons_append, List.nil_append] at N'); (try k_sweep))))
local macro_rules | `(tactic| k_all) => `(tactic| with_reducible assumption)
local macro_rules | `(tactic| walk_at "call builtin:len") => `(tactic| (k_here; (with_reducible show wpAny _ _ (call (Value.builtin "len") [Value.ref _]) _ _ _); k_dflt (refine' len_ints_fit ?k1 ?k2 ?k3 ?_; (case k1 => exact News.isList (by k_asm) (by k_mem)); (case k2 => assumption); (case k3 => omega); k_whole)))
local macro_rules | `(tactic| walk_at "call builtin:sum") => `(tactic| (k_here; (with_reducible show wpAny _ _ (call (Value.builtin "sum") [Value.ref _]) _ _ _); k_dflt (refine' sumQ ?k0 ?k1 ?k2 ?k3 ?k4 ?k5 ?_; (case k0 => with_unfolding_all rfl); (case k1 => k_asm); (case k2 => k_asm); (case k3 => exact News.isList (by k_asm) (by k_mem)); (case k4 => assumption); (case k5 => assumption); k_whole); intro h' tk' t' F' N'))
local macro_rules | `(tactic| walk_at "call builtin:max") => `(tactic| (k_here; (with_reducible show wpAny _ _ (call (Value.builtin _) [Value.ref _]) _ _ _); k_dflt (refine' kso_max ?k1 ?k2 ?k3 ?k4 ?k5 ?k6 ?_; (case k1 => k_asm); (case k2 => k_asm); (case k3 => exact News.isList (by k_asm) (by k_mem)); (case k4 => assumption); (case k5 => omega); (case k6 => with_unfolding_all rfl); k_whole); intro h' M' t' k' F' N' a' b'))
local macro_rules | `(tactic| walk_at "call ref") => `(tactic| (k_here; (with_reducible show wpAny _ _ (call (Value.ref 672) _ _) _ _ _); refine Stop.mk ?_))
local macro_rules | `(tactic| walk_at "execs cons") => `(tactic| ((with_reducible show wpAny _ _ (execs (Stmt.Raise _ _ _ :: _) _) _ _ _); refine Stop.mk ?_))
local macro_rules | `(tactic| k_ne) => `(tactic| (refine neN ?_; (try dsimp only); first | with_reducible assumption | (refine Ne.symm ?_; with_reducible assumption)))
theorem refuse1_N {w : World} {p : Program} {loose : List Str} {mean : ExcName → Option Value} {mg mb : Str → Option Value} {dp un : Nat} {gd : Option (List Code)} {cn : Str} {nm} {ig ic : Bool} {mo : List (Str × Const)} {a : Addr} {ccd : Value} {cl : List (Str × Addr)} {outer : List Env} {A₀ : Around} {base h₀ : Heap} {L : Addr} {m : Str → Option Value} {news : List (Addr × Obj)} {s : Shared}
    {Q E : Value → Shared → Prop} {x d ag an aa : Nat} {oag oan oaa : Obj} {t0 t1 t2 : Tok} {la lb ca cb : Nat} {av bv : List Value} {as bs : List Int} {q q2 : Int} :
    Below A₀ base outer h₀ → Fr h₀ L s.heap m → (Mine.LawTop.hd.heap_39 w.params).In h₀ → News h₀ L s.heap ((aa, oaa) :: (an, oan) :: (ag, oag) :: (x, instObj 617 d) :: (d, dictOf [kE w "graph" t0 ag, kE w "_node" t1 an, kE w "_adj" t2 aa] 3) :: (la, listOf av.toArray ca) :: (lb, listOf bv.toArray cb) :: news) → Top p loose mean mg mb h₀ → dp + 100 < recursionLimit → un + 1000 < cLine →
    oag.IsDictOf (PySem.strKind PySem.Challenge.rw_ez0195_01.row.prog w) [] → oan.IsDictOf (PySem.strKind PySem.Challenge.rw_ez0195_01.row.prog w) [] → oaa.IsDictOf (PySem.strKind PySem.Challenge.rw_ez0195_01.row.prog w) [] → 
    (x == sysModules) = false → (aa == sysModules) = false → (an == sysModules) = false → (ag == sysModules) = false → (d == sysModules) = false →
    d < x → x < ag → ag < an → an < aa → (∀ p ∈ (la, listOf av.toArray ca) :: (lb, listOf bv.toArray cb) :: news, p.1 ≠ d) → (∀ p ∈ (la, listOf av.toArray ca) :: (lb, listOf bv.toArray cb) :: news, p.1 ≠ x) → (∀ p ∈ (la, listOf av.toArray ca) :: (lb, listOf bv.toArray cb) :: news, p.1 ≠ ag) → (∀ p ∈ (la, listOf av.toArray ca) :: (lb, listOf bv.toArray cb) :: news, p.1 ≠ an) → (∀ p ∈ (la, listOf av.toArray ca) :: (lb, listOf bv.toArray cb) :: news, p.1 ≠ aa) →
    IntsAre av as → IntsAre bv bs → 5 ≤ as.length → as.length ≤ 6 → bs.length ≤ 6 → as.sum = q → bs.sum = q2 → q ≠ q2 → (∀ y ∈ as, 0 ≤ y ∧ y ≤ 8) → (∀ y ∈ bs, 1 ≤ y ∧ y ≤ 8) → 
    (∀ h' tk e t vs g, Fr h₀ L g m → g.UpToSlots h' → RaisedS base g (envX cn (csF nm ig ic mo) L a ccd cl :: outer) e (.ref 44) t vs ((la, listOf av.toArray ca) :: (lb, listOf bv.toArray cb) :: news) h' → E (.ref e) { s with heap := h', toks := tk }) →
    wpN (model PySem.Challenge.rw_ez0195_01.row.prog w) (ktrTop dp un gd cn (csF nm ig ic mo) L a ccd cl outer) (call (.ref 659) [.ref la, .ref lb, .ref x] []) Q E s := by
  k_fill
  intro B F X N T hd hu e1 e2 e3 g0 g1 g2 g3 g4 l1 l2 l3 l4 l5 l6 l7 l8 l9 ia ib na na2 nb hsa hsb hqq ba bb refused
  have qa : q.natAbs.log2 < 1920 := small_sum hsa (by omega) ba
  have qb : q2.natAbs.log2 < 1920 := small_sum hsb (by omega) (fun y hy => ⟨by have := (bb y hy).1; omega, (bb y hy).2⟩)
  refine n_call ?_
  refine' n_defC ?k1 ?k2 ?k3 ?k4 ?k5 ?kA ?kF ?kK ?k6 ?k7 ?k8 ?k9 ?kB ?kD ?_ ?c2 ?c3 ?c4
  case kA => exact rfl
  case kF => exact rfl
  case kK => exact rfl
  case k1 => k_asm
  case k2 => k_asm
  case k3 => k_asm
  case k4 => k_asm
  case k5 => k_asm
  case k6 => k_is
  case k7 => k_is
  case k8 => k_room
  case k9 => first | exact BindsTo.of_eq rfl | exact binds_K (by k_in) rfl (by k_is) rfl rfl rfl | fail "k_enter: no rule for these arguments"
  case kB => exact rfl
  case kD => decide +kernel
  case c2 => exact rfl
  case c3 => exact rfl
  case c4 => exact rfl
  intro g' L' h' tk' cells FG' F' N' Y' B' X' T' lw
  k_lt lw
  have lN := allLt_all lw.2.2.2.2.2.2.2
  k_cells Y'
  rename_i o1 o2 o3 d1 d2 d3
  (try simp only [List.cons_append, List.nil_append] at N')
  replace F' : Fr g' L' h' (fun y => if y = PySem.Str.ofString "create_using" then some (Value.ref x) else none) := by with_unfolding_all exact F'
  replace d1 : o1.data = .cell none := by with_unfolding_all exact d1
  replace d2 : o2.data = .cell (some (.ref lb)) := by with_unfolding_all exact d2
  replace d3 : o3.data = .cell (some (.ref la)) := by with_unfolding_all exact d3
  (try dsimp only)
  (try k_lift B')
  refine n_last (n_assign (n_callName ?_))
  k_steps
  refine n_callK (K := Mine.LawTop.hd.heap_39 w.params) X' (by k_is) ?_
  k_steps

  refine' empty_graph_N (t0 := t0) (t1 := t1) (t2 := t2) (news := (L' + 1 + 1 + 1, o1) :: (L' + 1 + 1, o2) :: (L' + 1, o3) :: (la, listOf av.toArray ca) :: (lb, listOf bv.toArray cb) :: news) (oan := oan) (oag := oag) (oaa := oaa) (d := d) (aa := aa) (ag := ag) (an := an) ?h1 ?h2 ?h3 ?h4 ?h5 ?h6 ?h7 ?h8 ?h9 ?h10 ?h11 ?h12 ?h13 ?h14 ?h15 ?h16 ?h17 ?h18 ?h19 ?h20 ?h21 ?h22 ?h23 ?_
  case h1 => k_asm
  case h2 => k_asm
  case h3 => k_asm
  case h4 =>
    refine News.perm N' ?_
    intro p hp
    simp only [List.mem_cons] at hp ⊢
    rcases hp with h | h | h | h | h | h | h | h | h | h | h <;> simp [h]
  case h5 => k_asm
  case h6 => ktr_room
  case h7 => ktr_units
  case h8 => k_asm
  case h9 => k_asm
  case h10 => k_asm
  case h11 => k_asm
  case h12 => k_asm
  case h13 => k_asm
  case h14 => k_asm
  case h15 => k_asm
  case h16 => k_asm
  case h17 => k_asm
  case h18 => k_asm
  case h19 => exact cells_ne (by omega) (by omega) (by omega) l5
  case h20 => exact cells_ne (by omega) (by omega) (by omega) l6
  case h21 => exact cells_ne (by omega) (by omega) (by omega) l7
  case h22 => exact cells_ne (by omega) (by omega) (by omega) l8
  case h23 => exact cells_ne (by omega) (by omega) (by omega) l9
  intro h2 tk2 t3 og on oa F2 N2 dg dn da
  k_fold
  k_steps
  · exact absurd (by assumption) hqq
  refine Stop.out ?_
  refine wpAny_execs_cons ?_
  refine' Raise_ownC (x := PySem.Str.ofString "NetworkXError") ?F ?g ?O PySem.F.excBase_Exception ?h ?za ?zb ?zc ?zd ?ze ?zf ?_
  case F => k_asm
  case g => exact TopRead.g (by k_asm)
  case O => exact own_of_in (by k_asm) (by k_asm) (by k_is) (by k_exc)
  case h => exact rfl
  case za => exact rfl
  case zb => exact rfl
  case zc => exact rfl
  case zd => exact rfl
  case ze => decide
  case zf => exact rfl
  walk1
  rename News g' L' _ _ => NN
  rename Fr g' L' _ _ => FF
  refine' fstr2 FF ?ha ?hb qa qb ?hc ?hd2 ?he ?hf ?hg2 ?hh2 ?hi2 ?_
  case ha => with_unfolding_all rfl
  case hb => with_unfolding_all rfl
  case hc => decide
  case hd2 => decide
  case he => exact rfl
  case hf => exact rfl
  case hg2 => exact rfl
  case hh2 => decide
  case hi2 => decide
  intro xm tm tkm
  walk1
  refine ⟨by rw [sizeLine_eq, List.length_singleton]; omega, FF.keep, fun hE eE mE => ?_⟩
  refine leave_raiseC B' mE FF (news := (la, listOf av.toArray ca) :: (lb, listOf bv.toArray cb) :: news) (fun p hp => NN p ?hmem) rfl (fun hc => nomatch hc) ?_
  case hmem =>
    simp only [List.mem_cons] at hp ⊢
    rcases hp with h | h | h <;> simp [h]
  intro hR tR R U
  exact refused _ _ _ _ _ _ FG' U R
end Mine
end
section
open PySem PySem.W PySem.Calls PyProof.Rows
set_option maxRecDepth 100000
set_option maxHeartbeats 4000000
namespace Mine
theorem fresh_E15 : True := by
  w_top off
  trivial
local macro_rules | `(tactic| k_room) => `(tactic| ktr_room)
local macro_rules | `(tactic| walk_at "getAttr ref") => `(tactic| (k_here; k_dflt (first
  | refine' get_ownS ?k1 ?k2 ?k3 ?k4 ?k5 ?k6 ?k7 ?k8 ?k9 ?_; (case k1 => k_asm); (case k2 => k_asm); (case k3 => k_inst); (case k4 => k_is); (case k5 => k_is); (case k6 => k_is); (case k7 => k_is); (case k8 => k_get); (case k9 => k_handed); k_whole
  | refine' get_ownD ?k1 ?k2 ?k3 ?k4 ?k5 ?k6 ?k7 ?kt ?k8 ?k9 ?_; (case k1 => k_asm); (case k2 => k_asm); (case k3 => k_inst); (case k4 => k_is); (case k5 => k_is); (case k6 => k_is); (case k7 => k_is); (case kt => k_is); (case k8 => k_get); (case k9 => k_handed); k_whole)))
local macro_rules | `(tactic| walk_at "getMethod ref") => `(tactic| (k_here; k_dflt (first
  | refine' method_instS ?k1 ?k2 ?k3 ?k4 ?k5 ?k6 ?k7 ?_; (case k1 => k_asm); (case k2 => k_asm); (case k3 => k_inst); (case k4 => k_is); (case k5 => k_is); (case k6 => k_is); (case k7 => k_get); k_whole
  | refine' method_getS ?k1 ?k2 ?_; (case k1 => k_asm); (case k2 => k_mem); k_whole)))
local macro_rules | `(tactic| k_all) => `(tactic| exact far_of (by assumption) (by omega))
local macro_rules | `(tactic| walk_at "call builtin:dict.get") => `(tactic| (k_here; k_dflt (refine' getS_miss ?k1 ?k2 ?k3 ?k4 ?k5 ?_; (case k1 => k_asm); (case k2 => k_mem); (case k3 => k_keys); (case k4 => k_get); (case k5 => k_asm); k_whole)))
local macro_rules | `(tactic| walk_at "setItem ref str") => `(tactic| (k_here; k_dflt (refine' setS_new ?k1 ?k2 ?k3 ?k4 ?k5 ?k6 ?_; (case k1 => k_asm); (case k2 => k_asm); (case k6 => k_upd); (case k3 => k_keys); (case k4 => k_get); (case k5 => (rw [sizeLine_eq]; exact Nat.le_of_ble_eq_true (by with_unfolding_all rfl))); k_whole; intro h' F' N'; (try dsimp only [List.cons_append, List.nil_append] at N'); (try k_sweep))))
local macro_rules | `(tactic| walk_at "call builtin:dict.clear") => `(tactic| (k_here; k_dflt (refine' clear_K (knd := PySem.strKind _ _) ?k1 ?k2 ?k3 ?k4 ?_; (case k1 => k_asm); (case k2 => k_asm); (case k3 => k_updF); (case k4 => assumption); k_whole; intro h' o' F' N' hd'; (try dsimp only [List.cons_append, List.nil_append] at N'); (try k_sweep))))
local macro_rules | `(tactic| k_all) => `(tactic| with_reducible assumption)
local macro_rules | `(tactic| walk_at "call builtin:len") => `(tactic| (k_here; (with_reducible show wpAny _ _ (call (Value.builtin "len") [Value.ref _]) _ _ _); k_dflt (refine' len_ints_fit ?k1 ?k2 ?k3 ?_; (case k1 => exact News.isList (by k_asm) (by k_mem)); (case k2 => assumption); (case k3 => omega); k_whole)))
local macro_rules | `(tactic| walk_at "call builtin:sum") => `(tactic| (k_here; (with_reducible show wpAny _ _ (call (Value.builtin "sum") [Value.ref _]) _ _ _); k_dflt (refine' sumQ ?k0 ?k1 ?k2 ?k3 ?k4 ?k5 ?_; (case k0 => with_unfolding_all rfl); (case k1 => k_asm); (case k2 => k_asm); (case k3 => exact News.isList (by k_asm) (by k_mem)); (case k4 => assumption); (case k5 => assumption); k_whole); intro h' tk' t' F' N'))
local macro_rules | `(tactic| walk_at "call builtin:max") => `(tactic| (k_here; (with_reducible show wpAny _ _ (call (Value.builtin _) [Value.ref _]) _ _ _); k_dflt (refine' kso_max ?k1 ?k2 ?k3 ?k4 ?k5 ?k6 ?_; (case k1 => k_asm); (case k2 => k_asm); (case k3 => exact News.isList (by k_asm) (by k_mem)); (case k4 => assumption); (case k5 => omega); (case k6 => with_unfolding_all rfl); k_whole); intro h' M' t' k' F' N' a' b'))
local macro_rules | `(tactic| walk_at "call ref") => `(tactic| (k_here; (with_reducible show wpAny _ _ (call (Value.ref 672) _ _) _ _ _); refine Stop.mk ?_))
local macro_rules | `(tactic| walk_at "execs cons") => `(tactic| ((with_reducible show wpAny _ _ (execs (Stmt.Raise _ _ _ :: _) _) _ _ _); refine Stop.mk ?_))
local macro_rules | `(tactic| k_ne) => `(tactic| (refine neN ?_; (try dsimp only); first | with_reducible assumption | (refine Ne.symm ?_; with_reducible assumption)))
theorem refuse2_N {w : World} {p : Program} {loose : List Str} {mean : ExcName → Option Value} {mg mb : Str → Option Value} {dp un : Nat} {gd : Option (List Code)} {cn : Str} {nm} {ig ic : Bool} {mo : List (Str × Const)} {a : Addr} {ccd : Value} {cl : List (Str × Addr)} {outer : List Env} {A₀ : Around} {base h₀ : Heap} {L : Addr} {m : Str → Option Value} {news : List (Addr × Obj)} {s : Shared}
    {Q E : Value → Shared → Prop} {x d ag an aa : Nat} {oag oan oaa : Obj} {t0 t1 t2 : Tok} {la lb ca cb : Nat} {av bv : List Value} {as bs : List Int} {q q2 : Int} :
    Below A₀ base outer h₀ → Fr h₀ L s.heap m → (Mine.LawTop.hd.heap_39 w.params).In h₀ → News h₀ L s.heap ((aa, oaa) :: (an, oan) :: (ag, oag) :: (x, instObj 617 d) :: (d, dictOf [kE w "graph" t0 ag, kE w "_node" t1 an, kE w "_adj" t2 aa] 3) :: (la, listOf av.toArray ca) :: (lb, listOf bv.toArray cb) :: news) → Top p loose mean mg mb h₀ → dp + 100 < recursionLimit → un + 1000 < cLine →
    oag.IsDictOf (PySem.strKind PySem.Challenge.rw_ez0195_01.row.prog w) [] → oan.IsDictOf (PySem.strKind PySem.Challenge.rw_ez0195_01.row.prog w) [] → oaa.IsDictOf (PySem.strKind PySem.Challenge.rw_ez0195_01.row.prog w) [] → 
    (x == sysModules) = false → (aa == sysModules) = false → (an == sysModules) = false → (ag == sysModules) = false → (d == sysModules) = false →
    d < x → x < ag → ag < an → an < aa → (∀ p ∈ (la, listOf av.toArray ca) :: (lb, listOf bv.toArray cb) :: news, p.1 ≠ d) → (∀ p ∈ (la, listOf av.toArray ca) :: (lb, listOf bv.toArray cb) :: news, p.1 ≠ x) → (∀ p ∈ (la, listOf av.toArray ca) :: (lb, listOf bv.toArray cb) :: news, p.1 ≠ ag) → (∀ p ∈ (la, listOf av.toArray ca) :: (lb, listOf bv.toArray cb) :: news, p.1 ≠ an) → (∀ p ∈ (la, listOf av.toArray ca) :: (lb, listOf bv.toArray cb) :: news, p.1 ≠ aa) →
    IntsAre av as → IntsAre bv bs → 5 ≤ as.length → as.length ≤ 6 → bs.length ≤ 6 → as.sum = q → bs.sum = q2 → q ≠ q2 → (∀ y ∈ as, 0 ≤ y ∧ y ≤ 8) → (∀ y ∈ bs, 1 ≤ y ∧ y ≤ 8) → 
    (∀ h' tk e t vs g, Fr h₀ L g m → g.UpToSlots h' → RaisedS base g (envX cn (csF nm ig ic mo) L a ccd cl :: outer) e (.ref 44) t vs ((la, listOf av.toArray ca) :: (lb, listOf bv.toArray cb) :: news) h' → E (.ref e) { s with heap := h', toks := tk }) →
    wpN (model PySem.Challenge.rw_ez0195_01.row.prog w) (ktrTop dp un gd cn (csF nm ig ic mo) L a ccd cl outer) (call (.ref 665) [.ref la, .ref lb, .ref x] []) Q E s := by
  k_fill
  intro B F X N T hd hu e1 e2 e3 g0 g1 g2 g3 g4 l1 l2 l3 l4 l5 l6 l7 l8 l9 ia ib na na2 nb hsa hsb hqq ba bb refused
  have qa : q.natAbs.log2 < 1920 := small_sum hsa (by omega) ba
  have qb : q2.natAbs.log2 < 1920 := small_sum hsb (by omega) (fun y hy => ⟨by have := (bb y hy).1; omega, (bb y hy).2⟩)
  refine n_call ?_
  refine' n_defC ?k1 ?k2 ?k3 ?k4 ?k5 ?kA ?kF ?kK ?k6 ?k7 ?k8 ?k9 ?kB ?kD ?_ ?c2 ?c3 ?c4
  case kA => exact rfl
  case kF => exact rfl
  case kK => exact rfl
  case k1 => k_asm
  case k2 => k_asm
  case k3 => k_asm
  case k4 => k_asm
  case k5 => k_asm
  case k6 => k_is
  case k7 => k_is
  case k8 => k_room
  case k9 => first | exact BindsTo.of_eq rfl | exact binds_K (by k_in) rfl (by k_is) rfl rfl rfl | fail "k_enter: no rule for these arguments"
  case kB => exact rfl
  case kD => decide +kernel
  case c2 => exact rfl
  case c3 => exact rfl
  case c4 => exact rfl
  intro g' L' h' tk' cells FG' F' N' Y' B' X' T' lw
  k_lt lw
  have lN := allLt_all lw.2.2.2.2.2.2.2
  k_cells Y'
  rename_i o1 o2 o3 d1 d2 d3
  (try simp only [List.cons_append, List.nil_append] at N')
  replace F' : Fr g' L' h' (fun y => if y = PySem.Str.ofString "create_using" then some (Value.ref x) else none) := by with_unfolding_all exact F'
  replace d1 : o1.data = .cell none := by with_unfolding_all exact d1
  replace d2 : o2.data = .cell (some (.ref lb)) := by with_unfolding_all exact d2
  replace d3 : o3.data = .cell (some (.ref la)) := by with_unfolding_all exact d3
  (try dsimp only)
  (try k_lift B')
  refine n_last (n_assign (n_callName ?_))
  k_steps
  refine n_callK (K := Mine.LawTop.hd.heap_39 w.params) X' (by k_is) ?_
  k_steps

  refine' empty_graph_N (t0 := t0) (t1 := t1) (t2 := t2) (news := (L' + 1 + 1 + 1, o1) :: (L' + 1 + 1, o2) :: (L' + 1, o3) :: (la, listOf av.toArray ca) :: (lb, listOf bv.toArray cb) :: news) (oan := oan) (oag := oag) (oaa := oaa) (d := d) (aa := aa) (ag := ag) (an := an) ?h1 ?h2 ?h3 ?h4 ?h5 ?h6 ?h7 ?h8 ?h9 ?h10 ?h11 ?h12 ?h13 ?h14 ?h15 ?h16 ?h17 ?h18 ?h19 ?h20 ?h21 ?h22 ?h23 ?_
  case h1 => k_asm
  case h2 => k_asm
  case h3 => k_asm
  case h4 =>
    refine News.perm N' ?_
    intro p hp
    simp only [List.mem_cons] at hp ⊢
    rcases hp with h | h | h | h | h | h | h | h | h | h | h <;> simp [h]
  case h5 => k_asm
  case h6 => ktr_room
  case h7 => ktr_units
  case h8 => k_asm
  case h9 => k_asm
  case h10 => k_asm
  case h11 => k_asm
  case h12 => k_asm
  case h13 => k_asm
  case h14 => k_asm
  case h15 => k_asm
  case h16 => k_asm
  case h17 => k_asm
  case h18 => k_asm
  case h19 => exact cells_ne (by omega) (by omega) (by omega) l5
  case h20 => exact cells_ne (by omega) (by omega) (by omega) l6
  case h21 => exact cells_ne (by omega) (by omega) (by omega) l7
  case h22 => exact cells_ne (by omega) (by omega) (by omega) l8
  case h23 => exact cells_ne (by omega) (by omega) (by omega) l9
  intro h2 tk2 t3 og on oa F2 N2 dg dn da
  k_fold
  k_steps
  · exact absurd (by assumption) hqq
  refine Stop.out ?_
  refine wpAny_execs_cons ?_
  refine' Raise_ownC (x := PySem.Str.ofString "NetworkXError") ?F ?g ?O PySem.F.excBase_Exception ?h ?za ?zb ?zc ?zd ?ze ?zf ?_
  case F => k_asm
  case g => exact TopRead.g (by k_asm)
  case O => exact own_of_in (by k_asm) (by k_asm) (by k_is) (by k_exc)
  case h => exact rfl
  case za => exact rfl
  case zb => exact rfl
  case zc => exact rfl
  case zd => exact rfl
  case ze => decide
  case zf => exact rfl
  walk1
  rename News g' L' _ _ => NN
  rename Fr g' L' _ _ => FF
  refine' fstr2 FF ?ha ?hb qa qb ?hc ?hd2 ?he ?hf ?hg2 ?hh2 ?hi2 ?_
  case ha => with_unfolding_all rfl
  case hb => with_unfolding_all rfl
  case hc => decide
  case hd2 => decide
  case he => exact rfl
  case hf => exact rfl
  case hg2 => exact rfl
  case hh2 => decide
  case hi2 => decide
  intro xm tm tkm
  walk1
  refine ⟨by rw [sizeLine_eq, List.length_singleton]; omega, FF.keep, fun hE eE mE => ?_⟩
  refine leave_raiseC B' mE FF (news := (la, listOf av.toArray ca) :: (lb, listOf bv.toArray cb) :: news) (fun p hp => NN p ?hmem) rfl (fun hc => nomatch hc) ?_
  case hmem =>
    simp only [List.mem_cons] at hp ⊢
    rcases hp with h | h | h <;> simp [h]
  intro hR tR R U
  exact refused _ _ _ _ _ _ FG' U R
end Mine
end
section
open PySem PySem.W PySem.Calls PyProof.Rows
set_option maxRecDepth 100000
set_option maxHeartbeats 4000000
namespace Mine
theorem fresh_E17 : True := by
  w_top off
  trivial
local macro_rules | `(tactic| k_room) => `(tactic| ktr_room)
local macro_rules | `(tactic| walk_at "getAttr ref") => `(tactic| (k_here; k_dflt (first
  | refine' get_ownS ?k1 ?k2 ?k3 ?k4 ?k5 ?k6 ?k7 ?k8 ?k9 ?_; (case k1 => k_asm); (case k2 => k_asm); (case k3 => k_inst); (case k4 => k_is); (case k5 => k_is); (case k6 => k_is); (case k7 => k_is); (case k8 => k_get); (case k9 => k_handed); k_whole
  | refine' get_ownD ?k1 ?k2 ?k3 ?k4 ?k5 ?k6 ?k7 ?kt ?k8 ?k9 ?_; (case k1 => k_asm); (case k2 => k_asm); (case k3 => k_inst); (case k4 => k_is); (case k5 => k_is); (case k6 => k_is); (case k7 => k_is); (case kt => k_is); (case k8 => k_get); (case k9 => k_handed); k_whole)))
local macro_rules | `(tactic| walk_at "getMethod ref") => `(tactic| (k_here; k_dflt (first
  | refine' method_instS ?k1 ?k2 ?k3 ?k4 ?k5 ?k6 ?k7 ?_; (case k1 => k_asm); (case k2 => k_asm); (case k3 => k_inst); (case k4 => k_is); (case k5 => k_is); (case k6 => k_is); (case k7 => k_get); k_whole
  | refine' method_getS ?k1 ?k2 ?_; (case k1 => k_asm); (case k2 => k_mem); k_whole)))
local macro_rules | `(tactic| k_all) => `(tactic| exact far_of (by assumption) (by omega))
local macro_rules | `(tactic| walk_at "call builtin:dict.get") => `(tactic| (k_here; k_dflt (refine' getS_miss ?k1 ?k2 ?k3 ?k4 ?k5 ?_; (case k1 => k_asm); (case k2 => k_mem); (case k3 => k_keys); (case k4 => k_get); (case k5 => k_asm); k_whole)))
local macro_rules | `(tactic| walk_at "setItem ref str") => `(tactic| (k_here; k_dflt (refine' setS_new ?k1 ?k2 ?k3 ?k4 ?k5 ?k6 ?_; (case k1 => k_asm); (case k2 => k_asm); (case k6 => k_upd); (case k3 => k_keys); (case k4 => k_get); (case k5 => (rw [sizeLine_eq]; exact Nat.le_of_ble_eq_true (by with_unfolding_all rfl))); k_whole; intro h' F' N'; (try dsimp only [List.cons_append, List.nil_append] at N'); (try k_sweep))))
local macro_rules | `(tactic| walk_at "call builtin:dict.clear") => `(tactic| (k_here; k_dflt (refine' clear_K (knd := PySem.strKind _ _) ?k1 ?k2 ?k3 ?k4 ?_; (case k1 => k_asm); (case k2 => k_asm); (case k3 => k_updF); (case k4 => assumption); k_whole; intro h' o' F' N' hd'; (try dsimp only [List.cons_append, List.nil_append] at N'); (try k_sweep))))
local macro_rules | `(tactic| k_all) => `(tactic| with_reducible assumption)
local macro_rules | `(tactic| k_ne) => `(tactic| (refine neN ?_; (try dsimp only); first | with_reducible assumption | (refine Ne.symm ?_; with_reducible assumption)))
theorem new_end {w : World} {h₀ : Heap} {L : Addr} {m : Str → Option Value} {news : List (Addr × Obj)} {s : Shared} {Q : Value → Shared → Prop}
    (done : ∀ h' tk x d ag an aa oag oan oaa t0 t1 t2, Fr h₀ L h' m → News h₀ L h' ((aa, oaa) :: (an, oan) :: (ag, oag) :: (x, instObj 617 d) :: (d, dictOf [kE w "graph" t0 ag, kE w "_node" t1 an, kE w "_adj" t2 aa] 3) :: news) →
      oag.IsDictOf (PySem.strKind PySem.Challenge.rw_ez0195_01.row.prog w) [] → oan.IsDictOf (PySem.strKind PySem.Challenge.rw_ez0195_01.row.prog w) [] → oaa.IsDictOf (PySem.strKind PySem.Challenge.rw_ez0195_01.row.prog w) [] →
      (x == sysModules) = false → (aa == sysModules) = false → (an == sysModules) = false → (ag == sysModules) = false → (d == sysModules) = false →
      @LT.lt Nat _ d x → @LT.lt Nat _ x ag → @LT.lt Nat _ ag an → @LT.lt Nat _ an aa → (∀ p ∈ news, @LT.lt Nat _ p.1 d) → Q (.ref x) { s with heap := h', toks := tk })
    {h' : Heap} {tk x d ag an aa D : Nat} {oag oan oaa oD : Obj} {t0 t1 t2 : Tok} {kvs : List (Str × Value)} (FF : Fr h₀ L h' m)
    (NN : News h₀ L h' ((aa, oaa) :: (an, oan) :: (ag, oag) :: (D, oD) :: (x, instObj 617 d) :: (d, dictOf [kE w "graph" t0 ag, kE w "_node" t1 an, kE w "_adj" t2 aa] 3) :: news))
    (dg : oag.IsDictOf (PySem.strKind PySem.Challenge.rw_ez0195_01.row.prog w) kvs) (dh : PyProof.V.FlatPairs PyData.str kvs (ktMergeD [] []))
    (dn : oan.IsDictOf (PySem.strKind PySem.Challenge.rw_ez0195_01.row.prog w) []) (da : oaa.IsDictOf (PySem.strKind PySem.Challenge.rw_ez0195_01.row.prog w) [])
    (za : (aa == sysModules) = false) (zn : (an == sysModules) = false) (zg : (ag == sysModules) = false)
    (l1 : d < x) (l2 : x < ag) (l3 : ag < an) (l4 : an < aa) (l5 : ∀ p ∈ news, @LT.lt Nat _ p.1 d) (hz : ∃ p ∈ news, @LT.lt Nat _ 1 p.1) : Q (.ref x) { s with heap := h', toks := tk } := by
  have hk : kvs = [] := List.length_eq_zero_iff.mp (by rw [flat_len dh]; rfl)
  subst hk
  obtain ⟨p, hp, h1⟩ := hz
  have hd : @LT.lt Nat _ 1 d := Nat.lt_trans h1 (l5 p hp)
  refine done h' tk x d ag an aa oag oan oaa t0 t1 t2 FF (News.perm NN fun q hq => ?_) dg dn da ?_ za zn zg ?_ l1 l2 l3 l4 l5
  · simp only [List.mem_cons] at hq ⊢
    rcases hq with h | h | h | h | h | h <;> simp [h]
  · exact beq_false_of_ne (fun e => by have : x = 1 := e; omega)
  · exact beq_false_of_ne (fun e => by have : d = 1 := e; omega)
theorem graph_new {w : World} {p : Program} {loose : List Str} {mean : ExcName → Option Value} {mg mb : Str → Option Value} {dp un : Nat} {gd : Option (List Code)} {cn : Str} {nm} {ig ic : Bool} {mo : List (Str × Const)} {a : Addr} {ccd : Value} {cl : List (Str × Addr)} {outer : List Env} {A₀ : Around} {base h₀ : Heap} {L : Addr} {m : Str → Option Value} {news : List (Addr × Obj)} {s : Shared}
    {Q E : Value → Shared → Prop} :
    Below A₀ base outer h₀ → Fr h₀ L s.heap m → (Mine.LawTop.hd.heap_39 w.params).In h₀ → News h₀ L s.heap news → Top p loose mean mg mb h₀ → dp + 20 < recursionLimit → un + 100 < cLine → (∃ p ∈ news, @LT.lt Nat _ 1 p.1) →
    (∀ h' tk x d ag an aa oag oan oaa t0 t1 t2, Fr h₀ L h' m → News h₀ L h' ((aa, oaa) :: (an, oan) :: (ag, oag) :: (x, instObj 617 d) :: (d, dictOf [kE w "graph" t0 ag, kE w "_node" t1 an, kE w "_adj" t2 aa] 3) :: news) →
      oag.IsDictOf (PySem.strKind PySem.Challenge.rw_ez0195_01.row.prog w) [] → oan.IsDictOf (PySem.strKind PySem.Challenge.rw_ez0195_01.row.prog w) [] → oaa.IsDictOf (PySem.strKind PySem.Challenge.rw_ez0195_01.row.prog w) [] →
      (x == sysModules) = false → (aa == sysModules) = false → (an == sysModules) = false → (ag == sysModules) = false → (d == sysModules) = false →
      @LT.lt Nat _ d x → @LT.lt Nat _ x ag → @LT.lt Nat _ ag an → @LT.lt Nat _ an aa → (∀ p ∈ news, @LT.lt Nat _ p.1 d) → Q (.ref x) { s with heap := h', toks := tk }) →
    wpAny (model PySem.Challenge.rw_ez0195_01.row.prog w) (ktrTop dp un gd cn (csF nm ig ic mo) L a ccd cl outer) (call (.ref 617) [] []) Q E s := by
  k_fill
  intro B F X N T hd hu hz done
  k_steps
  rename News h₀ _ _ _ => NN
  rename Fr h₀ _ _ _ => FF
  refine' new_end done FF NN ?dg ?dh ?dn ?da ?za ?zn ?zg ?l1 ?l2 ?l3 ?l4 ?l5 hz
  case dg => assumption
  case dh => assumption
  case dn => assumption
  case da => assumption
  case za => assumption
  case zn => assumption
  case zg => assumption
  case l5 => assumption
  case l1 => omega
  case l2 => omega
  case l3 => omega
  case l4 => omega
end Mine
end
section
open PySem PySem.W PySem.Calls PyProof.Rows
set_option maxRecDepth 100000
set_option maxHeartbeats 4000000
namespace Mine
theorem fresh_E16 : True := by
  w_top off
  trivial
local macro_rules | `(tactic| k_room) => `(tactic| ktr_room)
local macro_rules | `(tactic| walk_at "getAttr ref") => `(tactic| (k_here; k_dflt (first
  | refine' get_ownS ?k1 ?k2 ?k3 ?k4 ?k5 ?k6 ?k7 ?k8 ?k9 ?_; (case k1 => k_asm); (case k2 => k_asm); (case k3 => k_inst); (case k4 => k_is); (case k5 => k_is); (case k6 => k_is); (case k7 => k_is); (case k8 => k_get); (case k9 => k_handed); k_whole
  | refine' get_ownD ?k1 ?k2 ?k3 ?k4 ?k5 ?k6 ?k7 ?kt ?k8 ?k9 ?_; (case k1 => k_asm); (case k2 => k_asm); (case k3 => k_inst); (case k4 => k_is); (case k5 => k_is); (case k6 => k_is); (case k7 => k_is); (case kt => k_is); (case k8 => k_get); (case k9 => k_handed); k_whole)))
local macro_rules | `(tactic| walk_at "getMethod ref") => `(tactic| (k_here; k_dflt (first
  | refine' method_instS ?k1 ?k2 ?k3 ?k4 ?k5 ?k6 ?k7 ?_; (case k1 => k_asm); (case k2 => k_asm); (case k3 => k_inst); (case k4 => k_is); (case k5 => k_is); (case k6 => k_is); (case k7 => k_get); k_whole
  | refine' method_getS ?k1 ?k2 ?_; (case k1 => k_asm); (case k2 => k_mem); k_whole)))
local macro_rules | `(tactic| k_all) => `(tactic| exact far_of (by assumption) (by omega))
local macro_rules | `(tactic| walk_at "call builtin:dict.get") => `(tactic| (k_here; k_dflt (refine' getS_miss ?k1 ?k2 ?k3 ?k4 ?k5 ?_; (case k1 => k_asm); (case k2 => k_mem); (case k3 => k_keys); (case k4 => k_get); (case k5 => k_asm); k_whole)))
local macro_rules | `(tactic| walk_at "setItem ref str") => `(tactic| (k_here; k_dflt (refine' setS_new ?k1 ?k2 ?k3 ?k4 ?k5 ?k6 ?_; (case k1 => k_asm); (case k2 => k_asm); (case k6 => k_upd); (case k3 => k_keys); (case k4 => k_get); (case k5 => (rw [sizeLine_eq]; exact Nat.le_of_ble_eq_true (by with_unfolding_all rfl))); k_whole; intro h' F' N'; (try dsimp only [List.cons_append, List.nil_append] at N'); (try k_sweep))))
local macro_rules | `(tactic| walk_at "call builtin:dict.clear") => `(tactic| (k_here; k_dflt (refine' clear_K (knd := PySem.strKind _ _) ?k1 ?k2 ?k3 ?k4 ?_; (case k1 => k_asm); (case k2 => k_asm); (case k3 => k_updF); (case k4 => assumption); k_whole; intro h' o' F' N' hd'; (try dsimp only [List.cons_append, List.nil_append] at N'); (try k_sweep))))
local macro_rules | `(tactic| k_all) => `(tactic| with_reducible assumption)
local macro_rules | `(tactic| walk_at "call ref") => `(tactic| (k_here; (with_reducible show wpAny _ _ (call (Value.ref 617) _ _) _ _ _); refine Stop.mk ?_))
local macro_rules | `(tactic| k_ne) => `(tactic| (refine neN ?_; (try dsimp only); first | with_reducible assumption | (refine Ne.symm ?_; with_reducible assumption)))
theorem lookup3 {α : Type} {x1 x2 x3 : Str} {v1 v2 v3 : α} (y : Str) : [(x3, v3), (x2, v2), (x1, v1)].lookup y = if y = x3 then some v3 else if y = x2 then some v2 else if y = x1 then some v1 else none := by
  simp only [List.lookup]
  by_cases h3 : y = x3
  · subst h3; simp
  · have : (y == x3) = false := by simpa using h3
    rw [this, if_neg h3]
    by_cases h2 : y = x2
    · subst h2; simp
    · have : (y == x2) = false := by simpa using h2
      rw [this, if_neg h2]
      by_cases h1 : y = x1
      · subst h1; simp
      · have : (y == x1) = false := by simpa using h1
        rw [this, if_neg h1]
theorem made0_N {w : World} {p : Program} {loose : List Str} {mean : ExcName → Option Value} {mg mb : Str → Option Value} {dp un : Nat} {gd : Option (List Code)} {cn : Str} {nm} {ig ic : Bool} {mo : List (Str × Const)} {a : Addr} {ccd : Value} {cl : List (Str × Addr)} {outer : List Env} {A₀ : Around} {base h₀ : Heap} {L : Addr} {m : Str → Option Value} {news : List (Addr × Obj)} {s : Shared}
    {Q E : Value → Shared → Prop} {la lb ca cb : Nat} {av bv : List Value} {as bs : List Int} {tw : Tok} :
    Below A₀ base outer h₀ → Fr h₀ L s.heap m → (Mine.LawTop.hd.heap_39 w.params).In h₀ → News h₀ L s.heap ((la, listOf av.toArray ca) :: (lb, listOf bv.toArray cb) :: news) → Top p loose mean mg mb h₀ → dp + 150 < recursionLimit → un + 1200 < cLine → (∃ p ∈ (la, listOf av.toArray ca) :: (lb, listOf bv.toArray cb) :: news, @LT.lt Nat _ 1 p.1) →
    IntsAre av as → IntsAre bv bs → as.length = 5 → bs.length ≤ 5 → as.sum = bs.sum → (∀ y ∈ as, 0 ≤ y ∧ y ≤ 8) → (∀ y ∈ bs, 1 ≤ y ∧ y ≤ 8) → 
    (∀ h' tk G' x d ag an aa t0 t1 t2 f' nv ta tb t3 gk Ad st, Fr h₀ L h' m → News h₀ L h' (((la, listOf av.toArray ca) :: (lb, listOf bv.toArray cb) :: news) ++ G') → Apart ((la, listOf av.toArray ca) :: (lb, listOf bv.toArray cb) :: news) G' →
      GI PySem.Challenge.rw_ez0195_01.row.prog w G' x d ag an aa [kE w "graph" t0 ag, kE w "_node" t1 an, kE w "_adj" t2 aa, kE w "adj" t3 aa, kE w "nodes" 777 nv] 5 f' (as.length + bs.length) Ad (fun v => [(PySem.Str.ofString "bipartite", if v < as.length then .int 0 ta else .int 1 tb)]) gk → AdjOf Ad st.N (as.length + bs.length) → LawPE 0 as bs st → Q (.ref x) { s with heap := h', toks := tk }) →
    wpN (model PySem.Challenge.rw_ez0195_01.row.prog w) (ktrTop dp un gd cn (csF nm ig ic mo) L a ccd cl outer) (call (.ref 679) [.int 0 tw, .ref la, .ref lb] []) Q E s := by
  k_fill
  intro B F X N T hd hu hz ia ib na nb hs ba bb done
  refine n_call ?_
  refine' n_def ?k1 ?k2 ?k3 ?k4 ?k5 ?kA ?kF ?kK ?k6 ?k7 ?k8 ?k9 ?kB ?_ ?c2 ?c3 ?c4 ?c5
  case kA => exact rfl
  case kF => exact rfl
  case kK => exact rfl
  case k1 => k_asm
  case k2 => k_asm
  case k3 => k_asm
  case k4 => k_asm
  case k5 => k_asm
  case k6 => k_is
  case k7 => k_is
  case k8 => k_room
  case k9 => first | exact BindsTo.of_eq rfl | exact binds_K (by k_in) rfl (by k_is) rfl rfl rfl | fail "k_enter: no rule for these arguments"
  case kB => exact locs rfl
  case c2 => exact rfl
  case c3 => exact rfl
  case c4 => exact rfl
  case c5 => decide
  intro g' L' h' FG' F' N' B' X' T'
  replace F' : Fr g' L' h' (fun y => if y = PySem.Str.ofString "upper" then some (Value.ref lb) else if y = PySem.Str.ofString "lower" then some (Value.ref la) else if y = PySem.Str.ofString "way" then some (Value.int 0 tw) else none) := by
    have e : ∀ f, f = (fun y => if y = PySem.Str.ofString "upper" then some (Value.ref lb) else if y = PySem.Str.ofString "lower" then some (Value.ref la) else if y = PySem.Str.ofString "way" then some (Value.int 0 tw) else none) → Fr g' L' h' f → Fr g' L' h' (fun y => if y = PySem.Str.ofString "upper" then some (Value.ref lb) else if y = PySem.Str.ofString "lower" then some (Value.ref la) else if y = PySem.Str.ofString "way" then some (Value.int 0 tw) else none) := fun f e q => e ▸ q
    refine e _ ?_ F'
    funext y
    exact lookup3 y
  try dsimp only
  refine n_execs (n_if ?_)
  k_steps
  refine n_last (n_return (n_callName ?_))
  k_steps
  refine n_callK (K := Mine.LawTop.hd.heap_39 w.params) X' (by k_is) ?_
  k_steps
  refine Stop.out ?_
  refine' graph_new ?h1 ?h2 ?h3 ?h4 ?h5 ?h6 ?h7 ?h8 ?_
  case h1 => k_asm
  case h2 => k_asm
  case h3 => k_asm
  case h4 => k_asm
  case h5 => k_asm
  case h6 => ktr_room
  case h7 => ktr_units
  case h8 => exact hz
  intro h2 tk2 x d ag an aa oag oan oaa t0 t1 t2 F2 N2 dg dn da zx za zn zg zd l1 l2 l3 l4 l5
  k_fold
  k_steps
  refine' maker0_N (t0 := t0) (t1 := t1) (t2 := t2) (oan := oan) (oag := oag) (oaa := oaa) (d := d) (aa := aa) (ag := ag) (an := an) (q := as.sum) (Pure := PP0 (GRof as bs) (as.length + bs.length) as.length (askedOf as bs)) (PE := LawPE 0 as bs) ?h1 ?h2 ?h3 ?h4 ?h5 ?h6 ?h7 dg dn da zx za zn zg zd l1 l2 l3 l4 ?h8 ?h9 ?h10 ?h11 ?h12 ia ib na nb rfl hs.symm ba bb ?p1 ?p2 ?p3 ?p4 ?p5 ?p6 ?_
  case h1 => k_asm
  case h2 => k_asm
  case h3 => k_asm
  case h4 => k_asm
  case h5 => k_asm
  case h6 => ktr_room
  case h7 => ktr_units
  case h8 => exact fun p hp => Nat.ne_of_lt (l5 p hp)
  case h9 => exact fun p hp => Nat.ne_of_lt (Nat.lt_trans (l5 p hp) l1)
  case h10 => exact fun p hp => Nat.ne_of_lt (Nat.lt_trans (l5 p hp) (Nat.lt_trans l1 l2))
  case h11 => exact fun p hp => Nat.ne_of_lt (Nat.lt_trans (l5 p hp) (Nat.lt_trans l1 (Nat.lt_trans l2 l3)))
  case h12 => exact fun p hp => Nat.ne_of_lt (Nat.lt_trans (l5 p hp) (Nat.lt_trans l1 (Nat.lt_trans l2 (Nat.lt_trans l3 l4))))
  case p1 => exact fun as1 hp hw => start0 ba bb hs hp hw
  case p2 => exact fun as' u st bs' hp _ h hu' hb hsort => PP0.step (Nat.le_add_right _ _) hp h hu' hb hsort
  case p3 => exact fun as' u st hp h => LawPE.of0 (PP0.zero (Nat.le_add_right _ _) hp h)
  case p4 => exact fun st hp => LawPE.of0 (PP0.nil (Nat.le_add_right _ _) hp)
  case p5 => exact fun as' st hp => PC.use hp.1.1
  case p6 => exact fun hz' bs1 e => zero_end ba bb hs hz' bs1 e
  intro h3 tk3 G' f' nv ta tb t3 gk Ad st F3 N3 ap gi adj pe
  k_steps
  rename News h₀ _ _ _ => kN
  rename Fr h₀ _ _ _ => kF
  exact done _ _ G' x d ag an aa t0 t1 t2 f' nv ta tb t3 gk Ad st kF kN ap gi adj pe
theorem rej0_N {w : World} {p : Program} {loose : List Str} {mean : ExcName → Option Value} {mg mb : Str → Option Value} {dp un : Nat} {gd : Option (List Code)} {cn : Str} {nm} {ig ic : Bool} {mo : List (Str × Const)} {a : Addr} {ccd : Value} {cl : List (Str × Addr)} {outer : List Env} {A₀ : Around} {base h₀ : Heap} {L : Addr} {m : Str → Option Value} {news : List (Addr × Obj)} {s : Shared}
    {Q E : Value → Shared → Prop} {la lb ca cb : Nat} {av bv : List Value} {as bs : List Int} {tw : Tok} :
    Below A₀ base outer h₀ → Fr h₀ L s.heap m → (Mine.LawTop.hd.heap_39 w.params).In h₀ → News h₀ L s.heap ((la, listOf av.toArray ca) :: (lb, listOf bv.toArray cb) :: news) → Top p loose mean mg mb h₀ → dp + 150 < recursionLimit → un + 1200 < cLine → (∃ p ∈ (la, listOf av.toArray ca) :: (lb, listOf bv.toArray cb) :: news, @LT.lt Nat _ 1 p.1) →
    IntsAre av as → IntsAre bv bs → 5 ≤ as.length → as.length ≤ 6 → bs.length ≤ 6 → as.sum ≠ bs.sum → (∀ y ∈ as, 0 ≤ y ∧ y ≤ 8) → (∀ y ∈ bs, 1 ≤ y ∧ y ≤ 8) → 
    (∀ h' tk e t vs g, Fr h₀ L g m → g.UpToSlots h' → RaisedS base g (envX cn (csF nm ig ic mo) L a ccd cl :: outer) e (.ref 44) t vs ((la, listOf av.toArray ca) :: (lb, listOf bv.toArray cb) :: news) h' → E (.ref e) { s with heap := h', toks := tk }) →
    wpN (model PySem.Challenge.rw_ez0195_01.row.prog w) (ktrTop dp un gd cn (csF nm ig ic mo) L a ccd cl outer) (call (.ref 679) [.int 0 tw, .ref la, .ref lb] []) Q E s := by
  k_fill
  intro B F X N T hd hu hz ia ib na na2 nb hs ba bb refused
  refine n_call ?_
  refine' n_def ?k1 ?k2 ?k3 ?k4 ?k5 ?kA ?kF ?kK ?k6 ?k7 ?k8 ?k9 ?kB ?_ ?c2 ?c3 ?c4 ?c5
  case kA => exact rfl
  case kF => exact rfl
  case kK => exact rfl
  case k1 => k_asm
  case k2 => k_asm
  case k3 => k_asm
  case k4 => k_asm
  case k5 => k_asm
  case k6 => k_is
  case k7 => k_is
  case k8 => k_room
  case k9 => first | exact BindsTo.of_eq rfl | exact binds_K (by k_in) rfl (by k_is) rfl rfl rfl | fail "k_enter: no rule for these arguments"
  case kB => exact locs rfl
  case c2 => exact rfl
  case c3 => exact rfl
  case c4 => exact rfl
  case c5 => decide
  intro g' L' h' FG' F' N' B' X' T'
  replace F' : Fr g' L' h' (fun y => if y = PySem.Str.ofString "upper" then some (Value.ref lb) else if y = PySem.Str.ofString "lower" then some (Value.ref la) else if y = PySem.Str.ofString "way" then some (Value.int 0 tw) else none) := by
    have e : ∀ f, f = (fun y => if y = PySem.Str.ofString "upper" then some (Value.ref lb) else if y = PySem.Str.ofString "lower" then some (Value.ref la) else if y = PySem.Str.ofString "way" then some (Value.int 0 tw) else none) → Fr g' L' h' f → Fr g' L' h' (fun y => if y = PySem.Str.ofString "upper" then some (Value.ref lb) else if y = PySem.Str.ofString "lower" then some (Value.ref la) else if y = PySem.Str.ofString "way" then some (Value.int 0 tw) else none) := fun f e q => e ▸ q
    refine e _ ?_ F'
    funext y
    exact lookup3 y
  try dsimp only
  refine n_execs (n_if ?_)
  k_steps
  refine n_last (n_return (n_callName ?_))
  k_steps
  refine n_callK (K := Mine.LawTop.hd.heap_39 w.params) X' (by k_is) ?_
  k_steps
  refine Stop.out ?_
  refine' graph_new ?h1 ?h2 ?h3 ?h4 ?h5 ?h6 ?h7 ?h8 ?_
  case h1 => k_asm
  case h2 => k_asm
  case h3 => k_asm
  case h4 => k_asm
  case h5 => k_asm
  case h6 => ktr_room
  case h7 => ktr_units
  case h8 => exact hz
  intro h2 tk2 x d ag an aa oag oan oaa t0 t1 t2 F2 N2 dg dn da zx za zn zg zd l1 l2 l3 l4 l5
  k_fold
  k_steps
  refine' refuse0_N (t0 := t0) (t1 := t1) (t2 := t2) (oan := oan) (oag := oag) (oaa := oaa) (d := d) (aa := aa) (ag := ag) (an := an) (q := as.sum) (q2 := bs.sum) ?h1 ?h2 ?h3 ?h4 ?h5 ?h6 ?h7 dg dn da zx za zn zg zd l1 l2 l3 l4 ?h8 ?h9 ?h10 ?h11 ?h12 ia ib na na2 nb rfl rfl hs ba bb ?_
  case h1 => k_asm
  case h2 => k_asm
  case h3 => k_asm
  case h4 => k_asm
  case h5 => k_asm
  case h6 => ktr_room
  case h7 => ktr_units
  case h8 => exact fun p hp => Nat.ne_of_lt (l5 p hp)
  case h9 => exact fun p hp => Nat.ne_of_lt (Nat.lt_trans (l5 p hp) l1)
  case h10 => exact fun p hp => Nat.ne_of_lt (Nat.lt_trans (l5 p hp) (Nat.lt_trans l1 l2))
  case h11 => exact fun p hp => Nat.ne_of_lt (Nat.lt_trans (l5 p hp) (Nat.lt_trans l1 (Nat.lt_trans l2 l3)))
  case h12 => exact fun p hp => Nat.ne_of_lt (Nat.lt_trans (l5 p hp) (Nat.lt_trans l1 (Nat.lt_trans l2 (Nat.lt_trans l3 l4))))
  intro h3 tk3 e t vs g F3 U3 R3
  refine leave_onS B' F3 R3 U3 ?_
  intro h4 R4 _ U4
  exact refused _ _ _ _ _ _ FG' U4 R4
theorem made1_N {w : World} {p : Program} {loose : List Str} {mean : ExcName → Option Value} {mg mb : Str → Option Value} {dp un : Nat} {gd : Option (List Code)} {cn : Str} {nm} {ig ic : Bool} {mo : List (Str × Const)} {a : Addr} {ccd : Value} {cl : List (Str × Addr)} {outer : List Env} {A₀ : Around} {base h₀ : Heap} {L : Addr} {m : Str → Option Value} {news : List (Addr × Obj)} {s : Shared}
    {Q E : Value → Shared → Prop} {la lb ca cb : Nat} {av bv : List Value} {as bs : List Int} {tw : Tok} :
    Below A₀ base outer h₀ → Fr h₀ L s.heap m → (Mine.LawTop.hd.heap_39 w.params).In h₀ → News h₀ L s.heap ((la, listOf av.toArray ca) :: (lb, listOf bv.toArray cb) :: news) → Top p loose mean mg mb h₀ → dp + 150 < recursionLimit → un + 1200 < cLine → (∃ p ∈ (la, listOf av.toArray ca) :: (lb, listOf bv.toArray cb) :: news, @LT.lt Nat _ 1 p.1) →
    IntsAre av as → IntsAre bv bs → as.length = 5 → bs.length ≤ 5 → as.sum = bs.sum → (∀ y ∈ as, 0 ≤ y ∧ y ≤ 8) → (∀ y ∈ bs, 1 ≤ y ∧ y ≤ 8) → 
    (∀ h' tk G' x d ag an aa t0 t1 t2 f' nv ta tb t3 gk Ad st, Fr h₀ L h' m → News h₀ L h' (((la, listOf av.toArray ca) :: (lb, listOf bv.toArray cb) :: news) ++ G') → Apart ((la, listOf av.toArray ca) :: (lb, listOf bv.toArray cb) :: news) G' →
      GI PySem.Challenge.rw_ez0195_01.row.prog w G' x d ag an aa [kE w "graph" t0 ag, kE w "_node" t1 an, kE w "_adj" t2 aa, kE w "adj" t3 aa, kE w "nodes" 777 nv] 5 f' (as.length + bs.length) Ad (fun v => [(PySem.Str.ofString "bipartite", if v < as.length then .int 0 ta else .int 1 tb)]) gk → AdjOf Ad st.N (as.length + bs.length) → LawPE 1 as bs st → Q (.ref x) { s with heap := h', toks := tk }) →
    wpN (model PySem.Challenge.rw_ez0195_01.row.prog w) (ktrTop dp un gd cn (csF nm ig ic mo) L a ccd cl outer) (call (.ref 679) [.int 1 tw, .ref la, .ref lb] []) Q E s := by
  k_fill
  intro B F X N T hd hu hz ia ib na nb hs ba bb done
  refine n_call ?_
  refine' n_def ?k1 ?k2 ?k3 ?k4 ?k5 ?kA ?kF ?kK ?k6 ?k7 ?k8 ?k9 ?kB ?_ ?c2 ?c3 ?c4 ?c5
  case kA => exact rfl
  case kF => exact rfl
  case kK => exact rfl
  case k1 => k_asm
  case k2 => k_asm
  case k3 => k_asm
  case k4 => k_asm
  case k5 => k_asm
  case k6 => k_is
  case k7 => k_is
  case k8 => k_room
  case k9 => first | exact BindsTo.of_eq rfl | exact binds_K (by k_in) rfl (by k_is) rfl rfl rfl | fail "k_enter: no rule for these arguments"
  case kB => exact locs rfl
  case c2 => exact rfl
  case c3 => exact rfl
  case c4 => exact rfl
  case c5 => decide
  intro g' L' h' FG' F' N' B' X' T'
  replace F' : Fr g' L' h' (fun y => if y = PySem.Str.ofString "upper" then some (Value.ref lb) else if y = PySem.Str.ofString "lower" then some (Value.ref la) else if y = PySem.Str.ofString "way" then some (Value.int 1 tw) else none) := by
    have e : ∀ f, f = (fun y => if y = PySem.Str.ofString "upper" then some (Value.ref lb) else if y = PySem.Str.ofString "lower" then some (Value.ref la) else if y = PySem.Str.ofString "way" then some (Value.int 1 tw) else none) → Fr g' L' h' f → Fr g' L' h' (fun y => if y = PySem.Str.ofString "upper" then some (Value.ref lb) else if y = PySem.Str.ofString "lower" then some (Value.ref la) else if y = PySem.Str.ofString "way" then some (Value.int 1 tw) else none) := fun f e q => e ▸ q
    refine e _ ?_ F'
    funext y
    exact lookup3 y
  try dsimp only
  refine n_execs (n_if ?_)
  k_steps
  refine n_execs_nil ?_
  try dsimp only
  refine n_execs (n_if ?_)
  k_steps
  refine n_last (n_return (n_callName ?_))
  k_steps
  refine n_callK (K := Mine.LawTop.hd.heap_39 w.params) X' (by k_is) ?_
  k_steps
  refine Stop.out ?_
  refine' graph_new ?h1 ?h2 ?h3 ?h4 ?h5 ?h6 ?h7 ?h8 ?_
  case h1 => k_asm
  case h2 => k_asm
  case h3 => k_asm
  case h4 => k_asm
  case h5 => k_asm
  case h6 => ktr_room
  case h7 => ktr_units
  case h8 => exact hz
  intro h2 tk2 x d ag an aa oag oan oaa t0 t1 t2 F2 N2 dg dn da zx za zn zg zd l1 l2 l3 l4 l5
  k_fold
  k_steps
  refine' maker1_N (t0 := t0) (t1 := t1) (t2 := t2) (oan := oan) (oag := oag) (oaa := oaa) (d := d) (aa := aa) (ag := ag) (an := an) (q := as.sum) (Pure := PC (as.length + bs.length) as.length (askedOf as bs)) (PE := LawPE 1 as bs) ?h1 ?h2 ?h3 ?h4 ?h5 ?h6 ?h7 dg dn da zx za zn zg zd l1 l2 l3 l4 ?h8 ?h9 ?h10 ?h11 ?h12 ia ib na nb rfl hs.symm ba bb ?p1 ?p2 ?p3 ?p4 ?p5 ?p6 ?_
  case h1 => k_asm
  case h2 => k_asm
  case h3 => k_asm
  case h4 => k_asm
  case h5 => k_asm
  case h6 => ktr_room
  case h7 => ktr_units
  case h8 => exact fun p hp => Nat.ne_of_lt (l5 p hp)
  case h9 => exact fun p hp => Nat.ne_of_lt (Nat.lt_trans (l5 p hp) l1)
  case h10 => exact fun p hp => Nat.ne_of_lt (Nat.lt_trans (l5 p hp) (Nat.lt_trans l1 l2))
  case h11 => exact fun p hp => Nat.ne_of_lt (Nat.lt_trans (l5 p hp) (Nat.lt_trans l1 (Nat.lt_trans l2 l3)))
  case h12 => exact fun p hp => Nat.ne_of_lt (Nat.lt_trans (l5 p hp) (Nat.lt_trans l1 (Nat.lt_trans l2 (Nat.lt_trans l3 l4))))
  case p1 => exact fun as1 bs1 hp hw hb2 hw2 => PC.start hp (asked_nonneg ba bb) (Nat.le_add_right _ _)
  case p2 => exact fun as' u st hp ok h hu' => way1 (Nat.le_add_right _ _) hp ok h hu'
  case p3 => exact fun as' u st hp h => LawPE.of12 (by decide) hp
  case p4 => exact fun st hp => LawPE.of12 (by decide) hp
  case p5 => exact fun as' st hp => PC.use hp
  case p6 => exact fun hz' bs1 e => zero_end ba bb hs hz' bs1 e
  intro h3 tk3 G' f' nv ta tb t3 gk Ad st F3 N3 ap gi adj pe
  k_steps
  rename News h₀ _ _ _ => kN
  rename Fr h₀ _ _ _ => kF
  exact done _ _ G' x d ag an aa t0 t1 t2 f' nv ta tb t3 gk Ad st kF kN ap gi adj pe
theorem rej1_N {w : World} {p : Program} {loose : List Str} {mean : ExcName → Option Value} {mg mb : Str → Option Value} {dp un : Nat} {gd : Option (List Code)} {cn : Str} {nm} {ig ic : Bool} {mo : List (Str × Const)} {a : Addr} {ccd : Value} {cl : List (Str × Addr)} {outer : List Env} {A₀ : Around} {base h₀ : Heap} {L : Addr} {m : Str → Option Value} {news : List (Addr × Obj)} {s : Shared}
    {Q E : Value → Shared → Prop} {la lb ca cb : Nat} {av bv : List Value} {as bs : List Int} {tw : Tok} :
    Below A₀ base outer h₀ → Fr h₀ L s.heap m → (Mine.LawTop.hd.heap_39 w.params).In h₀ → News h₀ L s.heap ((la, listOf av.toArray ca) :: (lb, listOf bv.toArray cb) :: news) → Top p loose mean mg mb h₀ → dp + 150 < recursionLimit → un + 1200 < cLine → (∃ p ∈ (la, listOf av.toArray ca) :: (lb, listOf bv.toArray cb) :: news, @LT.lt Nat _ 1 p.1) →
    IntsAre av as → IntsAre bv bs → 5 ≤ as.length → as.length ≤ 6 → bs.length ≤ 6 → as.sum ≠ bs.sum → (∀ y ∈ as, 0 ≤ y ∧ y ≤ 8) → (∀ y ∈ bs, 1 ≤ y ∧ y ≤ 8) → 
    (∀ h' tk e t vs g, Fr h₀ L g m → g.UpToSlots h' → RaisedS base g (envX cn (csF nm ig ic mo) L a ccd cl :: outer) e (.ref 44) t vs ((la, listOf av.toArray ca) :: (lb, listOf bv.toArray cb) :: news) h' → E (.ref e) { s with heap := h', toks := tk }) →
    wpN (model PySem.Challenge.rw_ez0195_01.row.prog w) (ktrTop dp un gd cn (csF nm ig ic mo) L a ccd cl outer) (call (.ref 679) [.int 1 tw, .ref la, .ref lb] []) Q E s := by
  k_fill
  intro B F X N T hd hu hz ia ib na na2 nb hs ba bb refused
  refine n_call ?_
  refine' n_def ?k1 ?k2 ?k3 ?k4 ?k5 ?kA ?kF ?kK ?k6 ?k7 ?k8 ?k9 ?kB ?_ ?c2 ?c3 ?c4 ?c5
  case kA => exact rfl
  case kF => exact rfl
  case kK => exact rfl
  case k1 => k_asm
  case k2 => k_asm
  case k3 => k_asm
  case k4 => k_asm
  case k5 => k_asm
  case k6 => k_is
  case k7 => k_is
  case k8 => k_room
  case k9 => first | exact BindsTo.of_eq rfl | exact binds_K (by k_in) rfl (by k_is) rfl rfl rfl | fail "k_enter: no rule for these arguments"
  case kB => exact locs rfl
  case c2 => exact rfl
  case c3 => exact rfl
  case c4 => exact rfl
  case c5 => decide
  intro g' L' h' FG' F' N' B' X' T'
  replace F' : Fr g' L' h' (fun y => if y = PySem.Str.ofString "upper" then some (Value.ref lb) else if y = PySem.Str.ofString "lower" then some (Value.ref la) else if y = PySem.Str.ofString "way" then some (Value.int 1 tw) else none) := by
    have e : ∀ f, f = (fun y => if y = PySem.Str.ofString "upper" then some (Value.ref lb) else if y = PySem.Str.ofString "lower" then some (Value.ref la) else if y = PySem.Str.ofString "way" then some (Value.int 1 tw) else none) → Fr g' L' h' f → Fr g' L' h' (fun y => if y = PySem.Str.ofString "upper" then some (Value.ref lb) else if y = PySem.Str.ofString "lower" then some (Value.ref la) else if y = PySem.Str.ofString "way" then some (Value.int 1 tw) else none) := fun f e q => e ▸ q
    refine e _ ?_ F'
    funext y
    exact lookup3 y
  try dsimp only
  refine n_execs (n_if ?_)
  k_steps
  refine n_execs_nil ?_
  try dsimp only
  refine n_execs (n_if ?_)
  k_steps
  refine n_last (n_return (n_callName ?_))
  k_steps
  refine n_callK (K := Mine.LawTop.hd.heap_39 w.params) X' (by k_is) ?_
  k_steps
  refine Stop.out ?_
  refine' graph_new ?h1 ?h2 ?h3 ?h4 ?h5 ?h6 ?h7 ?h8 ?_
  case h1 => k_asm
  case h2 => k_asm
  case h3 => k_asm
  case h4 => k_asm
  case h5 => k_asm
  case h6 => ktr_room
  case h7 => ktr_units
  case h8 => exact hz
  intro h2 tk2 x d ag an aa oag oan oaa t0 t1 t2 F2 N2 dg dn da zx za zn zg zd l1 l2 l3 l4 l5
  k_fold
  k_steps
  refine' refuse1_N (t0 := t0) (t1 := t1) (t2 := t2) (oan := oan) (oag := oag) (oaa := oaa) (d := d) (aa := aa) (ag := ag) (an := an) (q := as.sum) (q2 := bs.sum) ?h1 ?h2 ?h3 ?h4 ?h5 ?h6 ?h7 dg dn da zx za zn zg zd l1 l2 l3 l4 ?h8 ?h9 ?h10 ?h11 ?h12 ia ib na na2 nb rfl rfl hs ba bb ?_
  case h1 => k_asm
  case h2 => k_asm
  case h3 => k_asm
  case h4 => k_asm
  case h5 => k_asm
  case h6 => ktr_room
  case h7 => ktr_units
  case h8 => exact fun p hp => Nat.ne_of_lt (l5 p hp)
  case h9 => exact fun p hp => Nat.ne_of_lt (Nat.lt_trans (l5 p hp) l1)
  case h10 => exact fun p hp => Nat.ne_of_lt (Nat.lt_trans (l5 p hp) (Nat.lt_trans l1 l2))
  case h11 => exact fun p hp => Nat.ne_of_lt (Nat.lt_trans (l5 p hp) (Nat.lt_trans l1 (Nat.lt_trans l2 l3)))
  case h12 => exact fun p hp => Nat.ne_of_lt (Nat.lt_trans (l5 p hp) (Nat.lt_trans l1 (Nat.lt_trans l2 (Nat.lt_trans l3 l4))))
  intro h3 tk3 e t vs g F3 U3 R3
  refine leave_onS B' F3 R3 U3 ?_
  intro h4 R4 _ U4
  exact refused _ _ _ _ _ _ FG' U4 R4
theorem made2_N {w : World} {p : Program} {loose : List Str} {mean : ExcName → Option Value} {mg mb : Str → Option Value} {dp un : Nat} {gd : Option (List Code)} {cn : Str} {nm} {ig ic : Bool} {mo : List (Str × Const)} {a : Addr} {ccd : Value} {cl : List (Str × Addr)} {outer : List Env} {A₀ : Around} {base h₀ : Heap} {L : Addr} {m : Str → Option Value} {news : List (Addr × Obj)} {s : Shared}
    {Q E : Value → Shared → Prop} {la lb ca cb : Nat} {av bv : List Value} {as bs : List Int} {tw : Tok} :
    Below A₀ base outer h₀ → Fr h₀ L s.heap m → (Mine.LawTop.hd.heap_39 w.params).In h₀ → News h₀ L s.heap ((la, listOf av.toArray ca) :: (lb, listOf bv.toArray cb) :: news) → Top p loose mean mg mb h₀ → dp + 150 < recursionLimit → un + 1200 < cLine → (∃ p ∈ (la, listOf av.toArray ca) :: (lb, listOf bv.toArray cb) :: news, @LT.lt Nat _ 1 p.1) →
    IntsAre av as → IntsAre bv bs → as.length = 5 → bs.length ≤ 5 → as.sum = bs.sum → (∀ y ∈ as, 0 ≤ y ∧ y ≤ 8) → (∀ y ∈ bs, 1 ≤ y ∧ y ≤ 8) → 
    (∀ h' tk G' x d ag an aa t0 t1 t2 f' nv ta tb t3 gk Ad st, Fr h₀ L h' m → News h₀ L h' (((la, listOf av.toArray ca) :: (lb, listOf bv.toArray cb) :: news) ++ G') → Apart ((la, listOf av.toArray ca) :: (lb, listOf bv.toArray cb) :: news) G' →
      GI PySem.Challenge.rw_ez0195_01.row.prog w G' x d ag an aa [kE w "graph" t0 ag, kE w "_node" t1 an, kE w "_adj" t2 aa, kE w "adj" t3 aa, kE w "nodes" 777 nv] 5 f' (as.length + bs.length) Ad (fun v => [(PySem.Str.ofString "bipartite", if v < as.length then .int 0 ta else .int 1 tb)]) gk → AdjOf Ad st.N (as.length + bs.length) → LawPE 2 as bs st → Q (.ref x) { s with heap := h', toks := tk }) →
    wpN (model PySem.Challenge.rw_ez0195_01.row.prog w) (ktrTop dp un gd cn (csF nm ig ic mo) L a ccd cl outer) (call (.ref 679) [.int 2 tw, .ref la, .ref lb] []) Q E s := by
  k_fill
  intro B F X N T hd hu hz ia ib na nb hs ba bb done
  refine n_call ?_
  refine' n_def ?k1 ?k2 ?k3 ?k4 ?k5 ?kA ?kF ?kK ?k6 ?k7 ?k8 ?k9 ?kB ?_ ?c2 ?c3 ?c4 ?c5
  case kA => exact rfl
  case kF => exact rfl
  case kK => exact rfl
  case k1 => k_asm
  case k2 => k_asm
  case k3 => k_asm
  case k4 => k_asm
  case k5 => k_asm
  case k6 => k_is
  case k7 => k_is
  case k8 => k_room
  case k9 => first | exact BindsTo.of_eq rfl | exact binds_K (by k_in) rfl (by k_is) rfl rfl rfl | fail "k_enter: no rule for these arguments"
  case kB => exact locs rfl
  case c2 => exact rfl
  case c3 => exact rfl
  case c4 => exact rfl
  case c5 => decide
  intro g' L' h' FG' F' N' B' X' T'
  replace F' : Fr g' L' h' (fun y => if y = PySem.Str.ofString "upper" then some (Value.ref lb) else if y = PySem.Str.ofString "lower" then some (Value.ref la) else if y = PySem.Str.ofString "way" then some (Value.int 2 tw) else none) := by
    have e : ∀ f, f = (fun y => if y = PySem.Str.ofString "upper" then some (Value.ref lb) else if y = PySem.Str.ofString "lower" then some (Value.ref la) else if y = PySem.Str.ofString "way" then some (Value.int 2 tw) else none) → Fr g' L' h' f → Fr g' L' h' (fun y => if y = PySem.Str.ofString "upper" then some (Value.ref lb) else if y = PySem.Str.ofString "lower" then some (Value.ref la) else if y = PySem.Str.ofString "way" then some (Value.int 2 tw) else none) := fun f e q => e ▸ q
    refine e _ ?_ F'
    funext y
    exact lookup3 y
  try dsimp only
  refine n_execs (n_if ?_)
  k_steps
  refine n_execs_nil ?_
  try dsimp only
  refine n_execs (n_if ?_)
  k_steps
  refine n_execs_nil ?_
  try dsimp only
  refine n_last (n_return (n_callName ?_))
  k_steps
  refine n_callK (K := Mine.LawTop.hd.heap_39 w.params) X' (by k_is) ?_
  k_steps
  refine Stop.out ?_
  refine' graph_new ?h1 ?h2 ?h3 ?h4 ?h5 ?h6 ?h7 ?h8 ?_
  case h1 => k_asm
  case h2 => k_asm
  case h3 => k_asm
  case h4 => k_asm
  case h5 => k_asm
  case h6 => ktr_room
  case h7 => ktr_units
  case h8 => exact hz
  intro h2 tk2 x d ag an aa oag oan oaa t0 t1 t2 F2 N2 dg dn da zx za zn zg zd l1 l2 l3 l4 l5
  k_fold
  k_steps
  refine' maker2_N (t0 := t0) (t1 := t1) (t2 := t2) (oan := oan) (oag := oag) (oaa := oaa) (d := d) (aa := aa) (ag := ag) (an := an) (q := as.sum) (Pure := PC (as.length + bs.length) as.length (askedOf as bs)) (PE := LawPE 2 as bs) ?h1 ?h2 ?h3 ?h4 ?h5 ?h6 ?h7 dg dn da zx za zn zg zd l1 l2 l3 l4 ?h8 ?h9 ?h10 ?h11 ?h12 ia ib na nb rfl hs.symm ba bb ?p1 ?p2 ?p3 ?p4 ?p5 ?p6 ?_
  case h1 => k_asm
  case h2 => k_asm
  case h3 => k_asm
  case h4 => k_asm
  case h5 => k_asm
  case h6 => ktr_room
  case h7 => ktr_units
  case h8 => exact fun p hp => Nat.ne_of_lt (l5 p hp)
  case h9 => exact fun p hp => Nat.ne_of_lt (Nat.lt_trans (l5 p hp) l1)
  case h10 => exact fun p hp => Nat.ne_of_lt (Nat.lt_trans (l5 p hp) (Nat.lt_trans l1 l2))
  case h11 => exact fun p hp => Nat.ne_of_lt (Nat.lt_trans (l5 p hp) (Nat.lt_trans l1 (Nat.lt_trans l2 l3)))
  case h12 => exact fun p hp => Nat.ne_of_lt (Nat.lt_trans (l5 p hp) (Nat.lt_trans l1 (Nat.lt_trans l2 (Nat.lt_trans l3 l4))))
  case p1 => exact PC.start (.refl _) (asked_nonneg ba bb) (Nat.le_add_right _ _)
  case p2 => exact fun as2 as' u st bs' hp hpm ok h hu' hb hsort => way2 (Nat.le_add_right _ _) hp hpm ok h hu' hb
  case p3 => exact fun as2 as' u st hp hpm h => LawPE.of12 (by decide) hp
  case p4 => exact fun st hp => LawPE.of12 (by decide) hp
  case p5 => exact fun as' st hp => PC.use hp
  case p6 => exact fun hz' bs1 e => zero_end ba bb hs hz' bs1 e
  intro h3 tk3 G' f' nv ta tb t3 gk Ad st F3 N3 ap gi adj pe
  k_steps
  rename News h₀ _ _ _ => kN
  rename Fr h₀ _ _ _ => kF
  exact done _ _ G' x d ag an aa t0 t1 t2 f' nv ta tb t3 gk Ad st kF kN ap gi adj pe
theorem rej2_N {w : World} {p : Program} {loose : List Str} {mean : ExcName → Option Value} {mg mb : Str → Option Value} {dp un : Nat} {gd : Option (List Code)} {cn : Str} {nm} {ig ic : Bool} {mo : List (Str × Const)} {a : Addr} {ccd : Value} {cl : List (Str × Addr)} {outer : List Env} {A₀ : Around} {base h₀ : Heap} {L : Addr} {m : Str → Option Value} {news : List (Addr × Obj)} {s : Shared}
    {Q E : Value → Shared → Prop} {la lb ca cb : Nat} {av bv : List Value} {as bs : List Int} {tw : Tok} :
    Below A₀ base outer h₀ → Fr h₀ L s.heap m → (Mine.LawTop.hd.heap_39 w.params).In h₀ → News h₀ L s.heap ((la, listOf av.toArray ca) :: (lb, listOf bv.toArray cb) :: news) → Top p loose mean mg mb h₀ → dp + 150 < recursionLimit → un + 1200 < cLine → (∃ p ∈ (la, listOf av.toArray ca) :: (lb, listOf bv.toArray cb) :: news, @LT.lt Nat _ 1 p.1) →
    IntsAre av as → IntsAre bv bs → 5 ≤ as.length → as.length ≤ 6 → bs.length ≤ 6 → as.sum ≠ bs.sum → (∀ y ∈ as, 0 ≤ y ∧ y ≤ 8) → (∀ y ∈ bs, 1 ≤ y ∧ y ≤ 8) → 
    (∀ h' tk e t vs g, Fr h₀ L g m → g.UpToSlots h' → RaisedS base g (envX cn (csF nm ig ic mo) L a ccd cl :: outer) e (.ref 44) t vs ((la, listOf av.toArray ca) :: (lb, listOf bv.toArray cb) :: news) h' → E (.ref e) { s with heap := h', toks := tk }) →
    wpN (model PySem.Challenge.rw_ez0195_01.row.prog w) (ktrTop dp un gd cn (csF nm ig ic mo) L a ccd cl outer) (call (.ref 679) [.int 2 tw, .ref la, .ref lb] []) Q E s := by
  k_fill
  intro B F X N T hd hu hz ia ib na na2 nb hs ba bb refused
  refine n_call ?_
  refine' n_def ?k1 ?k2 ?k3 ?k4 ?k5 ?kA ?kF ?kK ?k6 ?k7 ?k8 ?k9 ?kB ?_ ?c2 ?c3 ?c4 ?c5
  case kA => exact rfl
  case kF => exact rfl
  case kK => exact rfl
  case k1 => k_asm
  case k2 => k_asm
  case k3 => k_asm
  case k4 => k_asm
  case k5 => k_asm
  case k6 => k_is
  case k7 => k_is
  case k8 => k_room
  case k9 => first | exact BindsTo.of_eq rfl | exact binds_K (by k_in) rfl (by k_is) rfl rfl rfl | fail "k_enter: no rule for these arguments"
  case kB => exact locs rfl
  case c2 => exact rfl
  case c3 => exact rfl
  case c4 => exact rfl
  case c5 => decide
  intro g' L' h' FG' F' N' B' X' T'
  replace F' : Fr g' L' h' (fun y => if y = PySem.Str.ofString "upper" then some (Value.ref lb) else if y = PySem.Str.ofString "lower" then some (Value.ref la) else if y = PySem.Str.ofString "way" then some (Value.int 2 tw) else none) := by
    have e : ∀ f, f = (fun y => if y = PySem.Str.ofString "upper" then some (Value.ref lb) else if y = PySem.Str.ofString "lower" then some (Value.ref la) else if y = PySem.Str.ofString "way" then some (Value.int 2 tw) else none) → Fr g' L' h' f → Fr g' L' h' (fun y => if y = PySem.Str.ofString "upper" then some (Value.ref lb) else if y = PySem.Str.ofString "lower" then some (Value.ref la) else if y = PySem.Str.ofString "way" then some (Value.int 2 tw) else none) := fun f e q => e ▸ q
    refine e _ ?_ F'
    funext y
    exact lookup3 y
  try dsimp only
  refine n_execs (n_if ?_)
  k_steps
  refine n_execs_nil ?_
  try dsimp only
  refine n_execs (n_if ?_)
  k_steps
  refine n_execs_nil ?_
  try dsimp only
  refine n_last (n_return (n_callName ?_))
  k_steps
  refine n_callK (K := Mine.LawTop.hd.heap_39 w.params) X' (by k_is) ?_
  k_steps
  refine Stop.out ?_
  refine' graph_new ?h1 ?h2 ?h3 ?h4 ?h5 ?h6 ?h7 ?h8 ?_
  case h1 => k_asm
  case h2 => k_asm
  case h3 => k_asm
  case h4 => k_asm
  case h5 => k_asm
  case h6 => ktr_room
  case h7 => ktr_units
  case h8 => exact hz
  intro h2 tk2 x d ag an aa oag oan oaa t0 t1 t2 F2 N2 dg dn da zx za zn zg zd l1 l2 l3 l4 l5
  k_fold
  k_steps
  refine' refuse2_N (t0 := t0) (t1 := t1) (t2 := t2) (oan := oan) (oag := oag) (oaa := oaa) (d := d) (aa := aa) (ag := ag) (an := an) (q := as.sum) (q2 := bs.sum) ?h1 ?h2 ?h3 ?h4 ?h5 ?h6 ?h7 dg dn da zx za zn zg zd l1 l2 l3 l4 ?h8 ?h9 ?h10 ?h11 ?h12 ia ib na na2 nb rfl rfl hs ba bb ?_
  case h1 => k_asm
  case h2 => k_asm
  case h3 => k_asm
  case h4 => k_asm
  case h5 => k_asm
  case h6 => ktr_room
  case h7 => ktr_units
  case h8 => exact fun p hp => Nat.ne_of_lt (l5 p hp)
  case h9 => exact fun p hp => Nat.ne_of_lt (Nat.lt_trans (l5 p hp) l1)
  case h10 => exact fun p hp => Nat.ne_of_lt (Nat.lt_trans (l5 p hp) (Nat.lt_trans l1 l2))
  case h11 => exact fun p hp => Nat.ne_of_lt (Nat.lt_trans (l5 p hp) (Nat.lt_trans l1 (Nat.lt_trans l2 l3)))
  case h12 => exact fun p hp => Nat.ne_of_lt (Nat.lt_trans (l5 p hp) (Nat.lt_trans l1 (Nat.lt_trans l2 (Nat.lt_trans l3 l4))))
  intro h3 tk3 e t vs g F3 U3 R3
  refine leave_onS B' F3 R3 U3 ?_
  intro h4 R4 _ U4
  exact refused _ _ _ _ _ _ FG' U4 R4
theorem made_N {w : World} {p : Program} {loose : List Str} {mean : ExcName → Option Value} {mg mb : Str → Option Value} {dp un : Nat} {gd : Option (List Code)} {cn : Str} {nm} {ig ic : Bool} {mo : List (Str × Const)} {a : Addr} {ccd : Value} {cl : List (Str × Addr)} {outer : List Env} {A₀ : Around} {base h₀ : Heap} {L : Addr} {m : Str → Option Value} {news : List (Addr × Obj)} {s : Shared}
    {Q E : Value → Shared → Prop} {la lb ca cb : Nat} {av bv : List Value} {as bs : List Int} {tw : Tok} {way : Int} (hway : way = 0 ∨ way = 1 ∨ way = 2) :
    Below A₀ base outer h₀ → Fr h₀ L s.heap m → (Mine.LawTop.hd.heap_39 w.params).In h₀ → News h₀ L s.heap ((la, listOf av.toArray ca) :: (lb, listOf bv.toArray cb) :: news) → Top p loose mean mg mb h₀ → dp + 150 < recursionLimit → un + 1200 < cLine → (∃ p ∈ (la, listOf av.toArray ca) :: (lb, listOf bv.toArray cb) :: news, @LT.lt Nat _ 1 p.1) →
    IntsAre av as → IntsAre bv bs → as.length = 5 → bs.length ≤ 5 → as.sum = bs.sum → (∀ y ∈ as, 0 ≤ y ∧ y ≤ 8) → (∀ y ∈ bs, 1 ≤ y ∧ y ≤ 8) → 
    (∀ h' tk G' x d ag an aa t0 t1 t2 f' nv ta tb t3 gk Ad st, Fr h₀ L h' m → News h₀ L h' (((la, listOf av.toArray ca) :: (lb, listOf bv.toArray cb) :: news) ++ G') → Apart ((la, listOf av.toArray ca) :: (lb, listOf bv.toArray cb) :: news) G' →
      GI PySem.Challenge.rw_ez0195_01.row.prog w G' x d ag an aa [kE w "graph" t0 ag, kE w "_node" t1 an, kE w "_adj" t2 aa, kE w "adj" t3 aa, kE w "nodes" 777 nv] 5 f' (as.length + bs.length) Ad (fun v => [(PySem.Str.ofString "bipartite", if v < as.length then .int 0 ta else .int 1 tb)]) gk → AdjOf Ad st.N (as.length + bs.length) → LawPE way as bs st → Q (.ref x) { s with heap := h', toks := tk }) →
    wpN (model PySem.Challenge.rw_ez0195_01.row.prog w) (ktrTop dp un gd cn (csF nm ig ic mo) L a ccd cl outer) (call (.ref 679) [.int way tw, .ref la, .ref lb] []) Q E s := by
  rcases hway with rfl | rfl | rfl
  · exact made0_N
  · exact made1_N
  · exact made2_N
theorem rej_N {w : World} {p : Program} {loose : List Str} {mean : ExcName → Option Value} {mg mb : Str → Option Value} {dp un : Nat} {gd : Option (List Code)} {cn : Str} {nm} {ig ic : Bool} {mo : List (Str × Const)} {a : Addr} {ccd : Value} {cl : List (Str × Addr)} {outer : List Env} {A₀ : Around} {base h₀ : Heap} {L : Addr} {m : Str → Option Value} {news : List (Addr × Obj)} {s : Shared}
    {Q E : Value → Shared → Prop} {la lb ca cb : Nat} {av bv : List Value} {as bs : List Int} {tw : Tok} {way : Int} (hway : way = 0 ∨ way = 1 ∨ way = 2) :
    Below A₀ base outer h₀ → Fr h₀ L s.heap m → (Mine.LawTop.hd.heap_39 w.params).In h₀ → News h₀ L s.heap ((la, listOf av.toArray ca) :: (lb, listOf bv.toArray cb) :: news) → Top p loose mean mg mb h₀ → dp + 150 < recursionLimit → un + 1200 < cLine → (∃ p ∈ (la, listOf av.toArray ca) :: (lb, listOf bv.toArray cb) :: news, @LT.lt Nat _ 1 p.1) →
    IntsAre av as → IntsAre bv bs → 5 ≤ as.length → as.length ≤ 6 → bs.length ≤ 6 → as.sum ≠ bs.sum → (∀ y ∈ as, 0 ≤ y ∧ y ≤ 8) → (∀ y ∈ bs, 1 ≤ y ∧ y ≤ 8) → 
    (∀ h' tk e t vs g, Fr h₀ L g m → g.UpToSlots h' → RaisedS base g (envX cn (csF nm ig ic mo) L a ccd cl :: outer) e (.ref 44) t vs ((la, listOf av.toArray ca) :: (lb, listOf bv.toArray cb) :: news) h' → E (.ref e) { s with heap := h', toks := tk }) →
    wpN (model PySem.Challenge.rw_ez0195_01.row.prog w) (ktrTop dp un gd cn (csF nm ig ic mo) L a ccd cl outer) (call (.ref 679) [.int way tw, .ref la, .ref lb] []) Q E s := by
  rcases hway with rfl | rfl | rfl
  · exact rej0_N
  · exact rej1_N
  · exact rej2_N
end Mine
end
section
open PySem PySem.W PySem.Calls PyProof.Rows
set_option maxRecDepth 100000
set_option maxHeartbeats 4000000
namespace Mine
theorem fresh_E18 : True := by
  w_top off
  trivial
local macro_rules | `(tactic| k_room) => `(tactic| ktr_room)
local macro_rules | `(tactic| walk_at "getAttr ref") => `(tactic| (k_here; k_dflt (first
  | refine' get_ownS ?k1 ?k2 ?k3 ?k4 ?k5 ?k6 ?k7 ?k8 ?k9 ?_; (case k1 => k_asm); (case k2 => k_asm); (case k3 => k_inst); (case k4 => k_is); (case k5 => k_is); (case k6 => k_is); (case k7 => k_is); (case k8 => k_get); (case k9 => k_handed); k_whole
  | refine' get_ownD ?k1 ?k2 ?k3 ?k4 ?k5 ?k6 ?k7 ?kt ?k8 ?k9 ?_; (case k1 => k_asm); (case k2 => k_asm); (case k3 => k_inst); (case k4 => k_is); (case k5 => k_is); (case k6 => k_is); (case k7 => k_is); (case kt => k_is); (case k8 => k_get); (case k9 => k_handed); k_whole)))
local macro_rules | `(tactic| walk_at "getMethod ref") => `(tactic| (k_here; k_dflt (first
  | refine' method_instS ?k1 ?k2 ?k3 ?k4 ?k5 ?k6 ?k7 ?_; (case k1 => k_asm); (case k2 => k_asm); (case k3 => k_inst); (case k4 => k_is); (case k5 => k_is); (case k6 => k_is); (case k7 => k_get); k_whole
  | refine' method_getS ?k1 ?k2 ?_; (case k1 => k_asm); (case k2 => k_mem); k_whole)))
local macro_rules | `(tactic| k_all) => `(tactic| exact far_of (by assumption) (by omega))
local macro_rules | `(tactic| walk_at "call builtin:dict.get") => `(tactic| (k_here; k_dflt (refine' getS_miss ?k1 ?k2 ?k3 ?k4 ?k5 ?_; (case k1 => k_asm); (case k2 => k_mem); (case k3 => k_keys); (case k4 => k_get); (case k5 => k_asm); k_whole)))
local macro_rules | `(tactic| walk_at "setItem ref str") => `(tactic| (k_here; k_dflt (refine' setS_new ?k1 ?k2 ?k3 ?k4 ?k5 ?k6 ?_; (case k1 => k_asm); (case k2 => k_asm); (case k6 => k_upd); (case k3 => k_keys); (case k4 => k_get); (case k5 => (rw [sizeLine_eq]; exact Nat.le_of_ble_eq_true (by with_unfolding_all rfl))); k_whole; intro h' F' N'; (try dsimp only [List.cons_append, List.nil_append] at N'); (try k_sweep))))
local macro_rules | `(tactic| walk_at "call builtin:dict.clear") => `(tactic| (k_here; k_dflt (refine' clear_K (knd := PySem.strKind _ _) ?k1 ?k2 ?k3 ?k4 ?_; (case k1 => k_asm); (case k2 => k_asm); (case k3 => k_updF); (case k4 => assumption); k_whole; intro h' o' F' N' hd'; (try dsimp only [List.cons_append, List.nil_append] at N'); (try k_sweep))))
local macro_rules | `(tactic| k_all) => `(tactic| with_reducible assumption)
local macro_rules | `(tactic| k_ne) => `(tactic| (refine neN ?_; (try dsimp only); first | with_reducible assumption | (refine Ne.symm ?_; with_reducible assumption)))
theorem refused_N {w : World} {p : Program} {loose : List Str} {mean : ExcName → Option Value} {mg mb : Str → Option Value} {dp un : Nat} {gd : Option (List Code)} {cn : Str} {nm} {ig ic : Bool} {mo : List (Str × Const)} {a : Addr} {ccd : Value} {cl : List (Str × Addr)} {A₀ : Around} {base h₀ : Heap} {L : Addr} {m : Str → Option Value} {news : List (Addr × Obj)} {s : Shared}
    {Q E : Value → Shared → Prop} {la lb ca cb : Nat} {av bv : List Value} {as bs : List Int} {tw : Tok} {way : Int} (hway : way = 0 ∨ way = 1 ∨ way = 2) :
    Below A₀ base [] h₀ → Fr h₀ L s.heap m → (Mine.LawTop.hd.heap_39 w.params).In h₀ → (Mine.LawTop.hd.heap_39 w.params).In base → Top p loose mean mg mb base → News h₀ L s.heap ((la, listOf av.toArray ca) :: (lb, listOf bv.toArray cb) :: news) → Top p loose mean mg mb h₀ → dp + 160 < recursionLimit → un + 1300 < cLine → (∃ p ∈ (la, listOf av.toArray ca) :: (lb, listOf bv.toArray cb) :: news, @LT.lt Nat _ 1 p.1) →
    IntsAre av as → IntsAre bv bs → 5 ≤ as.length → as.length ≤ 6 → bs.length ≤ 6 → as.sum ≠ bs.sum → (∀ y ∈ as, 0 ≤ y ∧ y ≤ 8) → (∀ y ∈ bs, 1 ≤ y ∧ y ≤ 8) → 
    (∀ h' tk, Fr h₀ L h' m → News h₀ L h' ((la, listOf av.toArray ca) :: (lb, listOf bv.toArray cb) :: news) → Q (.bool true) { s with heap := h', toks := tk }) →
    wpN (model PySem.Challenge.rw_ez0195_01.row.prog w) (ktrTop dp un gd cn (csF nm ig ic mo) L a ccd cl []) (call (.ref 686) [.int way tw, .ref la, .ref lb] []) Q E s := by
  k_fill
  intro B F X XB TB N T hd hu hz ia ib na na2 nb hs ba bb done
  refine n_call ?_
  refine' n_defS0 ?k1 ?k2 ?k3 ?k4 ?k5 ?kA ?kF ?kK ?k6 ?k7 ?k8 ?k9 ?kB ?_ ?c2 ?c3 ?c4 ?c5
  case kA => exact rfl
  case kF => exact rfl
  case kK => exact rfl
  case k1 => k_asm
  case k2 => k_asm
  case k3 => exact X
  case k4 => k_asm
  case k5 => exact T
  case k6 => k_is
  case k7 => k_is
  case k8 => k_room
  case k9 => first | exact BindsTo.of_eq rfl | exact binds_K (by k_in) rfl (by k_is) rfl rfl rfl | fail "k_enter: no rule for these arguments"
  case kB => exact locs rfl
  case c2 => exact rfl
  case c3 => exact rfl
  case c4 => exact rfl
  case c5 => decide
  intro g' L' h' FG' F' N' B' X' T' D'
  replace F' : Fr g' L' h' (fun y => if y = PySem.Str.ofString "upper" then some (Value.ref lb) else if y = PySem.Str.ofString "lower" then some (Value.ref la) else if y = PySem.Str.ofString "way" then some (Value.int way tw) else none) := by
    have e : ∀ f, f = (fun y => if y = PySem.Str.ofString "upper" then some (Value.ref lb) else if y = PySem.Str.ofString "lower" then some (Value.ref la) else if y = PySem.Str.ofString "way" then some (Value.int way tw) else none) → Fr g' L' h' f → Fr g' L' h' (fun y => if y = PySem.Str.ofString "upper" then some (Value.ref lb) else if y = PySem.Str.ofString "lower" then some (Value.ref la) else if y = PySem.Str.ofString "way" then some (Value.int way tw) else none) := fun f e q => e ▸ q
    refine e _ ?_ F'
    funext y
    exact lookup3 y
  try dsimp only
  refine n_last (n_try_except (n_last (n_exprAt (n_callName ?_))))
  k_steps
  refine n_callK (K := Mine.LawTop.hd.heap_39 w.params) X' (by k_is) ?_
  k_steps
  rename News g' _ _ _ => NN
  rename Fr g' _ _ _ => FF
  refine' rej_N hway ?h1 ?h2 ?h3 ?h4 ?h5 ?h6 ?h7 hz ia ib na na2 nb hs ba bb ?_
  case h1 => k_asm
  case h2 => k_asm
  case h3 => exact X'
  case h4 => k_asm
  case h5 => exact T'
  case h6 => ktr_room
  case h7 => ktr_units
  intro h3 tk3 e t vs g F3 U3 R3
  refine caught_SO0 (KF := Mine.LawTop.hd.heap_39 w.params) (C := 44) R3 F3 B' U3 XB TB D' KtsTurn.refl ?ex ?q ?_ (by rfl) (by rfl) (by decide)
  case ex => k_is
  case q => kts_isx
  intro h4 g4 n4 T4 F4 N4 G4 M4 K4 X4 P4 D4
  clear B' X' T' D' R3 F3 U3 NN FF N4 G4
  k_steps
  rename Fr h₀ _ _ _ => kF
  rename News h₀ _ _ _ => kN
  exact done _ _ kF kN
end Mine
end
section
open PySem PySem.W PySem.Calls PyProof.Rows PyProof.Rows.LCg
set_option maxRecDepth 100000
set_option maxHeartbeats 1000000
namespace Mine
theorem fresh_E26 : True := by
  w_top off
  trivial
local macro_rules | `(tactic| k_room) => `(tactic| ktr_room)
local macro_rules | `(tactic| walk_at "getAttr ref") => `(tactic| (k_here; k_dflt (first
  | refine' get_ownS ?k1 ?k2 ?k3 ?k4 ?k5 ?k6 ?k7 ?k8 ?k9 ?_; (case k1 => k_asm); (case k2 => k_asm); (case k3 => k_inst); (case k4 => k_is); (case k5 => k_is); (case k6 => k_is); (case k7 => k_is); (case k8 => k_get); (case k9 => k_handed); k_whole
  | refine' get_ownD ?k1 ?k2 ?k3 ?k4 ?k5 ?k6 ?k7 ?kt ?k8 ?k9 ?_; (case k1 => k_asm); (case k2 => k_asm); (case k3 => k_inst); (case k4 => k_is); (case k5 => k_is); (case k6 => k_is); (case k7 => k_is); (case kt => k_is); (case k8 => k_get); (case k9 => k_handed); k_whole)))
local macro_rules | `(tactic| walk_at "getMethod ref") => `(tactic| (k_here; k_dflt (first
  | refine' method_instS ?k1 ?k2 ?k3 ?k4 ?k5 ?k6 ?k7 ?_; (case k1 => k_asm); (case k2 => k_asm); (case k3 => k_inst); (case k4 => k_is); (case k5 => k_is); (case k6 => k_is); (case k7 => k_get); k_whole
  | refine' method_getS ?k1 ?k2 ?_; (case k1 => k_asm); (case k2 => k_mem); k_whole)))
local macro_rules | `(tactic| k_all) => `(tactic| exact far_of (by assumption) (by omega))
local macro_rules | `(tactic| walk_at "call builtin:dict.get") => `(tactic| (k_here; k_dflt (refine' getS_miss ?k1 ?k2 ?k3 ?k4 ?k5 ?_; (case k1 => k_asm); (case k2 => k_mem); (case k3 => k_keys); (case k4 => k_get); (case k5 => k_asm); k_whole)))
local macro_rules | `(tactic| walk_at "setItem ref str") => `(tactic| (k_here; k_dflt (refine' setS_new ?k1 ?k2 ?k3 ?k4 ?k5 ?k6 ?_; (case k1 => k_asm); (case k2 => k_asm); (case k6 => k_upd); (case k3 => k_keys); (case k4 => k_get); (case k5 => (rw [sizeLine_eq]; exact Nat.le_of_ble_eq_true (by with_unfolding_all rfl))); k_whole; intro h' F' N'; (try dsimp only [List.cons_append, List.nil_append] at N'); (try k_sweep))))
local macro_rules | `(tactic| walk_at "call builtin:dict.clear") => `(tactic| (k_here; k_dflt (refine' clear_K (knd := PySem.strKind _ _) ?k1 ?k2 ?k3 ?k4 ?_; (case k1 => k_asm); (case k2 => k_asm); (case k3 => k_updF); (case k4 => assumption); k_whole; intro h' o' F' N' hd'; (try dsimp only [List.cons_append, List.nil_append] at N'); (try k_sweep))))
local macro_rules | `(tactic| k_all) => `(tactic| with_reducible assumption)
local macro_rules | `(tactic| walk_at "call builtin:all") => `(tactic| (k_here; refine Stop.mk ?_))
local macro_rules | `(tactic| walk_at "eval ListComp") => `(tactic| (refine Stop.mk ?_))
local macro_rules | `(tactic| walk_at "And") => `(tactic| (refine Stop.mk ?_))
local macro_rules | `(tactic| walk_at "getItem ref int") => `(tactic| (k_here; k_dflt (refine kdt_getItem (knd := PySem.intKind _ _) (by k_asm) (by k_mem) (by k_asm) (intKind_is _ _ _ _) (by first | assumption | exact valueAt_stored_self _ _ _) ?_)))
local macro_rules | `(tactic| k_ne) => `(tactic| (refine neN ?_; (try dsimp only); first | with_reducible assumption | (refine Ne.symm ?_; with_reducible assumption)))
theorem rows_at {n i : Nat} {g : Nat → Value} {u : Int} {z : Value} (h : (rows n g)[i]? = some (u, z)) : i < n ∧ u = (i : Int) ∧ z = g i := by
  by_cases hi : i < n
  · have e2 : (rows n g)[i]? = some ((i : Int), g i) := by simp [rows, hi]
    rw [e2] at h
    cases h
    exact ⟨hi, rfl, rfl⟩
  · have e2 : (rows n g)[i]? = none := by simp [rows, hi]
    rw [e2] at h
    cases h
theorem adj_mem {Ad : Nat → List (Int × Value)} {N : Nat → List Nat} {n i j : Nat} {v : Int} {z : Value} (h : AdjOf Ad N n) (hi : i < n) (e : (Ad i)[j]? = some (v, z)) : ∃ k : Nat, k ∈ N i ∧ v = (k : Int) := by
  have h1 : v ∈ (Ad i).map (·.1) := List.mem_map.mpr ⟨_, List.mem_of_getElem? e, rfl⟩
  rw [h i hi] at h1
  obtain ⟨k, hk, ek⟩ := List.mem_map.mp h1
  exact ⟨k, hk, ek.symm⟩
theorem bools_true {vs : List Value} (h : ∀ v ∈ vs, v = .bool true) : LSm.BoolsAre vs (vs.map fun _ => true) := by
  induction vs with
  | nil => exact .nil
  | cons v vs ih =>
    rw [h v List.mem_cons_self]
    exact .cons true (ih fun z hz => h z (List.mem_cons_of_mem _ hz))
theorem all_map_true {α : Type} (vs : List α) : (vs.map fun _ => true).all id = true := by
  rw [List.all_eq_true]
  intro b hb
  obtain ⟨_, _, rfl⟩ := List.mem_map.mp hb
  rfl
/-- the second row on a graph: its lines go across -/
theorem law_T2 {w : World} {s : Shared} {p : Program} {loose : List Str} {mean : ExcName → Option Value} {mg mb : Str → Option Value} {h₀ h' : Heap} {L' fa LA VA AA I : Nat} {cd : Value} {oI oA oV oL o1 o2 o3 o4 : Obj} {tk : Nat} {av : List Value} {as bs : List Int} {ca : Nat} {m₁ : Str → Option Value} {Q : Flow → Shared → Prop} {E : Value → Shared → Prop}
    {G : List (Addr × Obj)} {x d ag an aa nv : Nat} {t0 t1 t2 t3 : Tok} {f : Nat → Nat} {Ad : Nat → List (Int × Value)} {Bd : Nat → List (Str × Value)} {gk : List (Str × Value)} {N : Nat → List Nat} :
    Below callerA h₀ [] h₀ → (Mine.LawTop.hd.heap_39 w.params).In h₀ → Top p loose mean mg mb h₀ →
    Fr h₀ L' h' (fun y => if y = PySem.Str.ofString "good" then some (Value.bool true) else if y = PySem.Str.ofString "asked" then some (Value.ref AA) else m₁ y) →
    News h₀ L' h' ([(I, oI), (AA, listOf av.toArray ca), (VA, oV), (LA, oL), (L' + 1 + 1 + 1 + 1, o1), (L' + 1 + 1 + 1, o2), (L' + 1 + 1, o3), (L' + 1, o4)] ++ G) →
    Apart [(I, oI), (AA, listOf av.toArray ca), (VA, oV), (LA, oL), (L' + 1 + 1 + 1 + 1, o1), (L' + 1 + 1 + 1, o2), (L' + 1 + 1, o3), (L' + 1, o4)] G →
    GI PySem.Challenge.rw_ez0195_01.row.prog w G x d ag an aa [kE w "graph" t0 ag, kE w "_node" t1 an, kE w "_adj" t2 aa, kE w "adj" t3 aa, kE w "nodes" 777 nv] 5 f (as.length + bs.length) Ad Bd gk → AdjOf Ad N (as.length + bs.length) → (∀ v, v < as.length + bs.length → ∀ k ∈ N v, (v < as.length ↔ as.length ≤ k)) → (∀ v, v < as.length + bs.length → (N v).length ≤ 8) →
    o1.data = .cell (some (.ref x)) → as.length = 5 → bs.length ≤ 5 →
    (∀ h' tk, Fr h₀ L' h' (fun y => if y = PySem.Str.ofString "good" then some (Value.bool true) else if y = PySem.Str.ofString "asked" then some (Value.ref AA) else m₁ y) → News h₀ L' h' ([(I, oI), (AA, listOf av.toArray ca), (VA, oV), (LA, oL), (L' + 1 + 1 + 1 + 1, o1), (L' + 1 + 1 + 1, o2), (L' + 1 + 1, o3), (L' + 1, o4)] ++ G) →
      wpN (model PySem.Challenge.rw_ez0195_01.row.prog w) (callerA.deeper (lawEnv L' fa cd)) (execs ((forBody ((recOf Mine.LawTop.hd).body.drop 10)).drop 3) (lawEnv L' fa cd)) Q E { s with heap := h', toks := tk }) →
    wpN (model PySem.Challenge.rw_ez0195_01.row.prog w) (callerA.deeper (lawEnv L' fa cd)) (execs ((forBody ((recOf Mine.LawTop.hd).body.drop 10)).drop 2) (lawEnv L' fa cd)) Q E { s with heap := h', toks := tk } := by
  k_fill
  intro B' X T FF NN ap gi adj cross len8 d1 ha5 hb5 done
  have hU : Uniq G := fun hp hq e => News.uniq NN (List.mem_append_right _ hp) (List.mem_append_right _ hq) e
  dsimp only [recOf, lawEnv, List.drop, forBody]
  obtain ⟨oa, ma, da⟩ := gi.adj
  have hes : ∀ p ∈ [((aa : Addr), oa), (x, instObj 617 d), (d, dictS [kE w "graph" t0 ag, kE w "_node" t1 an, kE w "_adj" t2 aa, kE w "adj" t3 aa, kE w "nodes" 777 nv] 5)], p ∈ G := by
    intro p hp
    simp only [List.mem_cons, List.not_mem_nil, or_false] at hp
    rcases hp with e | e | e <;> rw [e]
    · exact ma
    · exact gi.inst
    · exact gi.dict
  obtain ⟨GR, hGR⟩ : ∃ GR, GR = rms G [aa, x, d] := ⟨_, rfl⟩
  have N3 : News h₀ L' h' ((aa, oa) :: (x, instObj 617 d) :: (d, dictS [kE w "graph" t0 ag, kE w "_node" t1 an, kE w "_adj" t2 aa, kE w "adj" t3 aa, kE w "nodes" 777 nv] 5) :: (I, oI) :: (AA, listOf av.toArray ca) :: (VA, oV) :: (LA, oL) :: (L' + 1 + 1 + 1 + 1, o1) :: (L' + 1 + 1 + 1, o2) :: (L' + 1 + 1, o3) :: (L' + 1, o4) :: GR) := by rw [hGR]; exact front_G0 NN (fun _ h => h) hes
  have loaa : (aa == sysModules) = false := gi.low _ (by simp)
  clear NN
  refine n_step ?_
  k_steps
  refine Stop.out ?_
  rename News h₀ L' _ _ => N4
  rename Fr h₀ L' _ _ => F4
  obtain ⟨b0, hb0⟩ : ∃ b0 : List (Addr × Obj), b0 = ((aa, oa) :: (x, instObj 617 d) :: (d, dictS [kE w "graph" t0 ag, kE w "_node" t1 an, kE w "_adj" t2 aa, kE w "adj" t3 aa, kE w "nodes" 777 nv] 5) :: (I, oI) :: (AA, listOf av.toArray ca) :: (VA, oV) :: (LA, oL) :: (L' + 1 + 1 + 1 + 1, o1) :: (L' + 1 + 1 + 1, o2) :: (L' + 1 + 1, o3) :: (L' + 1, o4) :: GR) := ⟨_, rfl⟩
  rw [← hb0] at N4
  refine' ListComp2_D (h₀ := h₀) (L := L') (m := (fun y => if y = PySem.Str.ofString "good" then some (Value.bool true) else if y = PySem.Str.ofString "asked" then some (Value.ref AA) else m₁ y)) (news := b0) (M := 10) (Good := fun v => v = .bool true) (d := aa) (od := oa) (kvs := rows (as.length + bs.length) fun v => .ref (f (2 * v))) (by rfl) (by rfl) ?hclos ?hcell ?hkind ?hnames ?hx ?hy (by decide) (by decide) ?hs0 ?hs1 (by rw [hb0]; exact List.mem_cons_self) da loaa (by rw [rows_length]; omega) ?h ?turn ?fin
  case hclos => with_unfolding_all rfl
  case hcell => decide
  case hkind => rfl
  case hnames => decide
  case hx => rfl
  case hy => rfl
  case hs0 => exact fun _ => rfl
  case hs1 => exact fun _ _ => rfl
  case h =>
    rw [hb0] at N4
    k_steps
    refine Stop.out ?_
    rename News h₀ L' _ _ => N5
    rename Fr h₀ L' _ _ => F5
    exact ⟨rfl, _, _, rfl, F5, by rw [hb0]; exact N5⟩
  case turn =>
    intro i u z tu hiu
    obtain ⟨hi, rfl, rfl⟩ := rows_at hiu
    obtain ⟨oi, mi, di⟩ := gi.adv i hi
    have off := gi.off (2 * i) (by omega)
    simp only [List.mem_cons, List.not_mem_nil, or_false, not_or] at off
    have mi' : ((f (2 * i) : Addr), oi) ∈ GR := by rw [hGR]; exact mem_rms mi (by simp only [List.mem_cons, List.not_mem_nil, or_false, not_or]; exact ⟨off.2.2.2.2, off.1, off.2.1⟩)
    have hv : valueAt (rows (as.length + bs.length) fun v => .ref (f (2 * v))) (i : Int) = some (.ref (f (2 * i))) := valueAt_rows hi
    refine ⟨f (2 * i), oi, Ad i, by rw [hb0]; simp [mi'], di, gi.lowf _ (by omega), by rw [adj.len hi]; have := len8 i hi; omega, ?ev1, ?ev2⟩
    case ev1 =>
      intro oC C D m2 ys hp tk1 E1 hoC hm2 F9 N9 off9 ne9
      rw [hb0] at N9
      clear N4 F4
      k_steps
      refine Stop.out ?_
      exact ⟨rfl, _, rfl⟩
    case ev2 =>
      intro j v z' tv hjv oC C D m2 ys hp tk1 E1 hoC hm2 hm3 F9 N9 off9 ne9
      clear N4 F4
      k_steps
      refine Stop.out ?_
      obtain ⟨k, hk, rfl⟩ := adj_mem adj hi hjv
      have hc := cross i hi k hk
      refine ⟨⟨_, rfl⟩, ?_⟩
      rw [ha5] at hc
      refine congrArg Value.bool ?_
      by_cases q : i < 5
      · have q2 : 5 ≤ k := hc.mp q
        have e1 : decide ((4 : Int) < (i : Int)) = false := by simp; omega
        have e2 : decide ((4 : Int) < (k : Int)) = true := by simp; omega
        rw [e1, e2]; rfl
      · have q2 : ¬ 5 ≤ k := fun z => q (hc.mpr z)
        have e1 : decide ((4 : Int) < (i : Int)) = true := by simp; omega
        have e2 : decide ((4 : Int) < (k : Int)) = false := by simp; omega
        rw [e1, e2]; rfl
  case fin =>
    intro ys D hp tk1 hg hlen F9 N9 off9
    k_steps
    refine Stop.out ?_
    refine LSm.all_bools F9 N9 (by rfl) ⟨_, (N9 _ List.mem_cons_self).1, rfl, _, rfl⟩ (bools_true hg) ?_
    intro h2 tk2 F2 N2
    rw [all_map_true]
    clear F9 F4 N4
    k_steps
    rename News h₀ L' _ _ => N11
    rename Fr h₀ L' _ _ => F11
    refine done _ _ (fr_dup F11) (fun p hp => N11 p (List.mem_cons_of_mem _ ?_))
    refine back_G (es := [((aa : Addr), oa), (x, instObj 617 d), (d, dictS [kE w "graph" t0 ag, kE w "_node" t1 an, kE w "_adj" t2 aa, kE w "adj" t3 aa, kE w "nodes" 777 nv] 5)]) hU hes (fun q hq => ?_) (fun q hq => ?_) (fun q hq => ?_) p hp
    · rw [hb0]
      simp only [List.mem_cons, List.not_mem_nil, or_false] at hq ⊢
      rcases hq with h | h | h | h | h | h | h | h <;> simp [h]
    · rw [hb0]
      simp only [List.mem_cons, List.not_mem_nil, or_false] at hq ⊢
      rcases hq with h | h | h <;> simp [h]
    · rw [hb0]
      have hq : q ∈ rms G [aa, x, d] := hq
      rw [← hGR] at hq
      simp [hq]
end Mine
end
section
open PySem PySem.W PySem.Calls PyProof.Rows PyProof.Rows.LCg
set_option maxRecDepth 100000
set_option maxHeartbeats 1000000
namespace Mine
theorem fresh_E27 : True := by
  w_top off
  trivial
local macro_rules | `(tactic| k_room) => `(tactic| ktr_room)
local macro_rules | `(tactic| walk_at "getAttr ref") => `(tactic| (k_here; k_dflt (first
  | refine' get_ownS ?k1 ?k2 ?k3 ?k4 ?k5 ?k6 ?k7 ?k8 ?k9 ?_; (case k1 => k_asm); (case k2 => k_asm); (case k3 => k_inst); (case k4 => k_is); (case k5 => k_is); (case k6 => k_is); (case k7 => k_is); (case k8 => k_get); (case k9 => k_handed); k_whole
  | refine' get_ownD ?k1 ?k2 ?k3 ?k4 ?k5 ?k6 ?k7 ?kt ?k8 ?k9 ?_; (case k1 => k_asm); (case k2 => k_asm); (case k3 => k_inst); (case k4 => k_is); (case k5 => k_is); (case k6 => k_is); (case k7 => k_is); (case kt => k_is); (case k8 => k_get); (case k9 => k_handed); k_whole)))
local macro_rules | `(tactic| walk_at "getMethod ref") => `(tactic| (k_here; k_dflt (first
  | refine' method_instS ?k1 ?k2 ?k3 ?k4 ?k5 ?k6 ?k7 ?_; (case k1 => k_asm); (case k2 => k_asm); (case k3 => k_inst); (case k4 => k_is); (case k5 => k_is); (case k6 => k_is); (case k7 => k_get); k_whole
  | refine' method_getS ?k1 ?k2 ?_; (case k1 => k_asm); (case k2 => k_mem); k_whole)))
local macro_rules | `(tactic| k_all) => `(tactic| exact far_of (by assumption) (by omega))
local macro_rules | `(tactic| walk_at "call builtin:dict.get") => `(tactic| (k_here; k_dflt (refine' getS_miss ?k1 ?k2 ?k3 ?k4 ?k5 ?_; (case k1 => k_asm); (case k2 => k_mem); (case k3 => k_keys); (case k4 => k_get); (case k5 => k_asm); k_whole)))
local macro_rules | `(tactic| walk_at "setItem ref str") => `(tactic| (k_here; k_dflt (refine' setS_new ?k1 ?k2 ?k3 ?k4 ?k5 ?k6 ?_; (case k1 => k_asm); (case k2 => k_asm); (case k6 => k_upd); (case k3 => k_keys); (case k4 => k_get); (case k5 => (rw [sizeLine_eq]; exact Nat.le_of_ble_eq_true (by with_unfolding_all rfl))); k_whole; intro h' F' N'; (try dsimp only [List.cons_append, List.nil_append] at N'); (try k_sweep))))
local macro_rules | `(tactic| walk_at "call builtin:dict.clear") => `(tactic| (k_here; k_dflt (refine' clear_K (knd := PySem.strKind _ _) ?k1 ?k2 ?k3 ?k4 ?_; (case k1 => k_asm); (case k2 => k_asm); (case k3 => k_updF); (case k4 => assumption); k_whole; intro h' o' F' N' hd'; (try dsimp only [List.cons_append, List.nil_append] at N'); (try k_sweep))))
local macro_rules | `(tactic| k_all) => `(tactic| with_reducible assumption)
local macro_rules | `(tactic| walk_at "pyIter ref") => `(tactic| (refine Stop.mk ?_))
local macro_rules | `(tactic| walk_at "eval ListComp") => `(tactic| (refine Stop.mk ?_))
local macro_rules | `(tactic| walk_at "EndF") => `(tactic| (refine Stop.mk ?_))
local macro_rules | `(tactic| walk_at "exec Assign cons ListComp") => `(tactic| (refine Stop.mk ?_))
local macro_rules | `(tactic| walk_at "getItem ref int") => `(tactic| (k_here; k_dflt (refine kdt_getItem (knd := PySem.intKind _ _) (by k_asm) (by k_mem) (by k_asm) (intKind_is _ _ _ _) (by first | assumption | exact valueAt_stored_self _ _ _) ?_)))
local macro_rules | `(tactic| k_ne) => `(tactic| (refine neN ?_; (try dsimp only); first | with_reducible assumption | (refine Ne.symm ?_; with_reducible assumption)))
theorem off1_sub {D : Addr} {l l' : List (Addr × Obj)} (h : Off1 D l) (hs : ∀ p ∈ l', p ∈ l) : Off1 D l' := ListComp_C.off1_of fun p hp => off1_all h p (hs p hp)
/-- the third row on a graph: its degrees -/
theorem law_T3 {w : World} {s : Shared} {p : Program} {loose : List Str} {mean : ExcName → Option Value} {mg mb : Str → Option Value} {h₀ h' : Heap} {L' fa LA VA AA I : Nat} {cd : Value} {oI oA oV oL o1 o2 o3 o4 : Obj} {tk : Nat} {av : List Value} {as bs : List Int} {ca : Nat} {m₁ : Str → Option Value} {Q : Flow → Shared → Prop} {E : Value → Shared → Prop}
    {G : List (Addr × Obj)} {x d ag an aa nv : Nat} {t0 t1 t2 t3 : Tok} {f : Nat → Nat} {Ad : Nat → List (Int × Value)} {Bd : Nat → List (Str × Value)} {gk : List (Str × Value)} {N : Nat → List Nat} :
    Below callerA h₀ [] h₀ → (Mine.LawTop.hd.heap_39 w.params).In h₀ → Top p loose mean mg mb h₀ →
    Fr h₀ L' h' (fun y => if y = PySem.Str.ofString "good" then some (Value.bool true) else if y = PySem.Str.ofString "asked" then some (Value.ref AA) else m₁ y) →
    News h₀ L' h' ([(I, oI), (AA, listOf av.toArray ca), (VA, oV), (LA, oL), (L' + 1 + 1 + 1 + 1, o1), (L' + 1 + 1 + 1, o2), (L' + 1 + 1, o3), (L' + 1, o4)] ++ G) →
    Apart [(I, oI), (AA, listOf av.toArray ca), (VA, oV), (LA, oL), (L' + 1 + 1 + 1 + 1, o1), (L' + 1 + 1 + 1, o2), (L' + 1 + 1, o3), (L' + 1, o4)] G →
    GI PySem.Challenge.rw_ez0195_01.row.prog w G x d ag an aa [kE w "graph" t0 ag, kE w "_node" t1 an, kE w "_adj" t2 aa, kE w "adj" t3 aa, kE w "nodes" 777 nv] 5 f (as.length + bs.length) Ad Bd gk → AdjOf Ad N (as.length + bs.length) → (∀ v, v < as.length + bs.length → (N v).length ≤ 8) →
    o1.data = .cell (some (.ref x)) → as.length = 5 → bs.length ≤ 5 →
    (∀ h' tk DG dv, Fr h₀ L' h' (fun y => if y = PySem.Str.ofString "degrees" then some (Value.ref DG) else if y = PySem.Str.ofString "good" then some (Value.bool true) else if y = PySem.Str.ofString "asked" then some (Value.ref AA) else m₁ y) → News h₀ L' h' ((DG, lst dv) :: ([(I, oI), (AA, listOf av.toArray ca), (VA, oV), (LA, oL), (L' + 1 + 1 + 1 + 1, o1), (L' + 1 + 1 + 1, o2), (L' + 1 + 1, o3), (L' + 1, o4)] ++ G)) → Off1 DG ([(I, oI), (AA, listOf av.toArray ca), (VA, oV), (LA, oL), (L' + 1 + 1 + 1 + 1, o1), (L' + 1 + 1 + 1, o2), (L' + 1 + 1, o3), (L' + 1, o4)] ++ G) → IntsAre dv ((List.range (as.length + bs.length)).map fun v => ((N v).length : Int)) →
      wpN (model PySem.Challenge.rw_ez0195_01.row.prog w) (callerA.deeper (lawEnv L' fa cd)) (execs ((forBody ((recOf Mine.LawTop.hd).body.drop 10)).drop 4) (lawEnv L' fa cd)) Q E { s with heap := h', toks := tk }) →
    wpN (model PySem.Challenge.rw_ez0195_01.row.prog w) (callerA.deeper (lawEnv L' fa cd)) (execs ((forBody ((recOf Mine.LawTop.hd).body.drop 10)).drop 3) (lawEnv L' fa cd)) Q E { s with heap := h', toks := tk } := by
  k_fill
  intro B' X T FF NN ap gi adj len8 d1 ha5 hb5 done
  have hU : Uniq G := fun hp hq e => News.uniq NN (List.mem_append_right _ hp) (List.mem_append_right _ hq) e
  dsimp only [recOf, lawEnv, List.drop, forBody]
  obtain ⟨oa, ma, da⟩ := gi.adj
  have hes : ∀ p ∈ [((aa : Addr), oa), (x, instObj 617 d), (d, dictS [kE w "graph" t0 ag, kE w "_node" t1 an, kE w "_adj" t2 aa, kE w "adj" t3 aa, kE w "nodes" 777 nv] 5)], p ∈ G := by
    intro p hp
    simp only [List.mem_cons, List.not_mem_nil, or_false] at hp
    rcases hp with e | e | e <;> rw [e]
    · exact ma
    · exact gi.inst
    · exact gi.dict
  obtain ⟨GR, hGR⟩ : ∃ GR, GR = rms G [aa, x, d] := ⟨_, rfl⟩
  have N3 : News h₀ L' h' ((aa, oa) :: (x, instObj 617 d) :: (d, dictS [kE w "graph" t0 ag, kE w "_node" t1 an, kE w "_adj" t2 aa, kE w "adj" t3 aa, kE w "nodes" 777 nv] 5) :: (I, oI) :: (AA, listOf av.toArray ca) :: (VA, oV) :: (LA, oL) :: (L' + 1 + 1 + 1 + 1, o1) :: (L' + 1 + 1 + 1, o2) :: (L' + 1 + 1, o3) :: (L' + 1, o4) :: GR) := by rw [hGR]; exact front_G0 NN (fun _ h => h) hes
  have loaa : (aa == sysModules) = false := gi.low _ (by simp)
  clear NN
  refine n_step ?_
  k_steps
  refine Stop.out ?_
  obtain ⟨b0, hb0⟩ : ∃ b0 : List (Addr × Obj), b0 = ((aa, oa) :: (x, instObj 617 d) :: (d, dictS [kE w "graph" t0 ag, kE w "_node" t1 an, kE w "_adj" t2 aa, kE w "adj" t3 aa, kE w "nodes" 777 nv] 5) :: (I, oI) :: (AA, listOf av.toArray ca) :: (VA, oV) :: (LA, oL) :: (L' + 1 + 1 + 1 + 1, o1) :: (L' + 1 + 1 + 1, o2) :: (L' + 1 + 1, o3) :: (L' + 1, o4) :: GR) := ⟨_, rfl⟩
  refine' Assign_F (h₀ := h₀) (L := L') (m := (fun y => if y = PySem.Str.ofString "good" then some (Value.bool true) else if y = PySem.Str.ofString "asked" then some (Value.ref AA) else m₁ y)) ?hLe ?hsw ?hclos ?hcell ?hkind ?hnames ?hx ?hy ?hpp ?_ ?hs
  case hLe => rfl
  case hsw => with_unfolding_all rfl
  case hclos => with_unfolding_all rfl
  case hcell => decide
  case hkind => rfl
  case hnames => decide
  case hx => rfl
  case hy => rfl
  case hpp => rfl
  case hs => exact fun _ => rfl
  k_steps
  refine Stop.out ?_
  rename News h₀ L' _ _ => N5
  rename Fr h₀ L' _ _ => F5
  rw [← hb0] at N5
  refine it_dict (d := aa) (od := oa) (kvs := rows (as.length + bs.length) fun v => .ref (f (2 * v))) (by rfl) F5 N5 (by rw [hb0]; exact List.mem_cons_self) da loaa ?_
  intro I2 h6 ep hI2 T6 F6 N6 up6
  refine CompF.mk (fun i zs => IntsAre zs ((List.range i).map fun v => ((N v).length : Int))) T6 (by rw [sizeLine_eq, rows_length]; omega) F6 N6 IntsAre.nil ?turn ?fin
  case turn =>
    intro i zs hi hJ v I3 oI3 C3 oC3 D3 m3 h7 tk7 E7 hP hoC3 hm3 F7 N7 off7 ne7
    obtain ⟨u, z, hu, hv⟩ := hP
    obtain ⟨ti, rfl⟩ := int_is hv
    obtain ⟨hi, rfl, rfl⟩ := rows_at hu
    obtain ⟨oi, mi, di⟩ := gi.adv i hi
    have off := gi.off (2 * i) (by omega)
    simp only [List.mem_cons, List.not_mem_nil, or_false, not_or] at off
    have mi' : ((f (2 * i) : Addr), oi) ∈ GR := by rw [hGR]; exact mem_rms mi (by simp only [List.mem_cons, List.not_mem_nil, or_false, not_or]; exact ⟨off.2.2.2.2, off.1, off.2.1⟩)
    have hv : valueAt (rows (as.length + bs.length) fun v => .ref (f (2 * v))) (i : Int) = some (.ref (f (2 * i))) := valueAt_rows hi
    have lofi : (f (2 * i) == sysModules) = false := gi.lowf _ (by omega)
    have hal := adj.len hi
    rw [hb0] at N7
    clear N5 F5 N6 F6
    k_steps
    rename News h₀ L' _ _ => N9
    rename Fr h₀ L' _ _ => F9
    have hm9 : ((f (2 * i) : Addr), oi) ∈ ((I3, oI3) :: (C3, oC3) :: (D3, lst zs) :: (aa, oa) :: (x, instObj 617 d) :: (d, dictS [kE w "graph" t0 ag, kE w "_node" t1 an, kE w "_adj" t2 aa, kE w "adj" t3 aa, kE w "nodes" 777 nv] 5) :: (I, oI) :: (AA, listOf av.toArray ca) :: (VA, oV) :: (LA, oL) :: (L' + 1 + 1 + 1 + 1, o1) :: (L' + 1 + 1 + 1, o2) :: (L' + 1 + 1, o3) :: (L' + 1, o4) :: GR) := by simp [mi']
    refine kda_len (knd := PySem.intKind _ _) N9 hm9 di lofi (by have := len8 i hi; omega) ?_
    refine EndF.intro F9 N9 (fun p hp => by rw [hb0] at hp; exact hp) ?_
    rw [hal, List.range_succ, List.map_append]
    exact ints_snoc hJ
  case fin =>
    intro zs hJ
    unfold LCg.FinA
    intro DG h8 tk8 F8 N8 off8
    clear N5 F5 N6 F6
    rw [rows_length] at hJ
    refine done _ _ DG zs F8 (fun p hp => N8 p ?_) ?_ hJ
    · rcases List.mem_cons.mp hp with rfl | hp
      · exact List.mem_cons_self
      refine List.mem_cons_of_mem _ ?_
      rw [hb0]
      refine back_G (es := [((aa : Addr), oa), (x, instObj 617 d), (d, dictS [kE w "graph" t0 ag, kE w "_node" t1 an, kE w "_adj" t2 aa, kE w "adj" t3 aa, kE w "nodes" 777 nv] 5)]) hU hes (fun q hq => ?_) (fun q hq => ?_) (fun q hq => ?_) p hp
      · simp only [List.mem_cons, List.not_mem_nil, or_false] at hq ⊢
        rcases hq with h | h | h | h | h | h | h | h <;> simp [h]
      · simp only [List.mem_cons, List.not_mem_nil, or_false] at hq ⊢
        rcases hq with h | h | h <;> simp [h]
      · have hq : q ∈ rms G [aa, x, d] := hq
        rw [← hGR] at hq
        simp [hq]
    · refine off1_sub off8 fun p hp => ?_
      rw [hb0]
      refine back_G (es := [((aa : Addr), oa), (x, instObj 617 d), (d, dictS [kE w "graph" t0 ag, kE w "_node" t1 an, kE w "_adj" t2 aa, kE w "adj" t3 aa, kE w "nodes" 777 nv] 5)]) hU hes (fun q hq => ?_) (fun q hq => ?_) (fun q hq => ?_) p hp
      · simp only [List.mem_cons, List.not_mem_nil, or_false] at hq ⊢
        rcases hq with h | h | h | h | h | h | h | h <;> simp [h]
      · simp only [List.mem_cons, List.not_mem_nil, or_false] at hq ⊢
        rcases hq with h | h | h <;> simp [h]
      · have hq : q ∈ rms G [aa, x, d] := hq
        rw [← hGR] at hq
        simp [hq]
end Mine
end
section
open PySem PySem.W PySem.Calls PyProof.Rows PyProof.Rows.LCg
set_option maxRecDepth 100000
set_option maxHeartbeats 1000000
namespace Mine
theorem fresh_E28 : True := by
  w_top off
  trivial
local macro_rules | `(tactic| k_room) => `(tactic| ktr_room)
local macro_rules | `(tactic| walk_at "getAttr ref") => `(tactic| (k_here; k_dflt (first
  | refine' get_ownS ?k1 ?k2 ?k3 ?k4 ?k5 ?k6 ?k7 ?k8 ?k9 ?_; (case k1 => k_asm); (case k2 => k_asm); (case k3 => k_inst); (case k4 => k_is); (case k5 => k_is); (case k6 => k_is); (case k7 => k_is); (case k8 => k_get); (case k9 => k_handed); k_whole
  | refine' get_ownD ?k1 ?k2 ?k3 ?k4 ?k5 ?k6 ?k7 ?kt ?k8 ?k9 ?_; (case k1 => k_asm); (case k2 => k_asm); (case k3 => k_inst); (case k4 => k_is); (case k5 => k_is); (case k6 => k_is); (case k7 => k_is); (case kt => k_is); (case k8 => k_get); (case k9 => k_handed); k_whole)))
local macro_rules | `(tactic| walk_at "getMethod ref") => `(tactic| (k_here; k_dflt (first
  | refine' method_instS ?k1 ?k2 ?k3 ?k4 ?k5 ?k6 ?k7 ?_; (case k1 => k_asm); (case k2 => k_asm); (case k3 => k_inst); (case k4 => k_is); (case k5 => k_is); (case k6 => k_is); (case k7 => k_get); k_whole
  | refine' method_getS ?k1 ?k2 ?_; (case k1 => k_asm); (case k2 => k_mem); k_whole)))
local macro_rules | `(tactic| k_all) => `(tactic| exact far_of (by assumption) (by omega))
local macro_rules | `(tactic| walk_at "call builtin:dict.get") => `(tactic| (k_here; k_dflt (refine' getS_miss ?k1 ?k2 ?k3 ?k4 ?k5 ?_; (case k1 => k_asm); (case k2 => k_mem); (case k3 => k_keys); (case k4 => k_get); (case k5 => k_asm); k_whole)))
local macro_rules | `(tactic| walk_at "setItem ref str") => `(tactic| (k_here; k_dflt (refine' setS_new ?k1 ?k2 ?k3 ?k4 ?k5 ?k6 ?_; (case k1 => k_asm); (case k2 => k_asm); (case k6 => k_upd); (case k3 => k_keys); (case k4 => k_get); (case k5 => (rw [sizeLine_eq]; exact Nat.le_of_ble_eq_true (by with_unfolding_all rfl))); k_whole; intro h' F' N'; (try dsimp only [List.cons_append, List.nil_append] at N'); (try k_sweep))))
local macro_rules | `(tactic| walk_at "call builtin:dict.clear") => `(tactic| (k_here; k_dflt (refine' clear_K (knd := PySem.strKind _ _) ?k1 ?k2 ?k3 ?k4 ?_; (case k1 => k_asm); (case k2 => k_asm); (case k3 => k_updF); (case k4 => assumption); k_whole; intro h' o' F' N' hd'; (try dsimp only [List.cons_append, List.nil_append] at N'); (try k_sweep))))
local macro_rules | `(tactic| k_all) => `(tactic| with_reducible assumption)
local macro_rules | `(tactic| walk_at "call builtin:all") => `(tactic| (k_here; refine Stop.mk ?_))
local macro_rules | `(tactic| walk_at "eval ListComp") => `(tactic| (refine Stop.mk ?_))
local macro_rules | `(tactic| walk_at "And") => `(tactic| (refine Stop.mk ?_))
local macro_rules | `(tactic| walk_at "call type:zip") => `(tactic| (k_here; refine Stop.mk ?_))
local macro_rules | `(tactic| k_ne) => `(tactic| (refine neN ?_; (try dsimp only); first | with_reducible assumption | (refine Ne.symm ?_; with_reducible assumption)))
/-- the fourth row on a graph: no degree is over what was asked -/
theorem law_T4 {w : World} {s : Shared} {p : Program} {loose : List Str} {mean : ExcName → Option Value} {mg mb : Str → Option Value} {h₀ h' : Heap} {L' fa AA DG : Nat} {cd : Value} {tk n kd : Nat} {av dv : List Value} {ds qs : List Int} {ca : Nat} {m₁ : Str → Option Value} {rest : List (Addr × Obj)} {Q : Flow → Shared → Prop} {E : Value → Shared → Prop} :
    Below callerA h₀ [] h₀ → (Mine.LawTop.hd.heap_39 w.params).In h₀ → Top p loose mean mg mb h₀ →
    Fr h₀ L' h' (fun y => if y = PySem.Str.ofString "degrees" then some (Value.ref DG) else if y = PySem.Str.ofString "good" then some (Value.bool true) else if y = PySem.Str.ofString "asked" then some (Value.ref AA) else m₁ y) →
    News h₀ L' h' ((DG, listOf dv.toArray kd) :: (AA, listOf av.toArray ca) :: rest) → @Ne Nat DG AA → IntsAre dv ds → IntsAre av qs → ds.length = n → qs.length = n → n ≤ 20 → (∀ i, i < n → ds.getD i 0 ≤ qs.getD i 0) →
    (∀ h' tk, Fr h₀ L' h' (fun y => if y = PySem.Str.ofString "good" then some (Value.bool true) else if y = PySem.Str.ofString "degrees" then some (Value.ref DG) else if y = PySem.Str.ofString "good" then some (Value.bool true) else if y = PySem.Str.ofString "asked" then some (Value.ref AA) else m₁ y) → News h₀ L' h' ((DG, listOf dv.toArray kd) :: (AA, listOf av.toArray ca) :: rest) →
      wpN (model PySem.Challenge.rw_ez0195_01.row.prog w) (callerA.deeper (lawEnv L' fa cd)) (execs ((forBody ((recOf Mine.LawTop.hd).body.drop 10)).drop 5) (lawEnv L' fa cd)) Q E { s with heap := h', toks := tk }) →
    wpN (model PySem.Challenge.rw_ez0195_01.row.prog w) (callerA.deeper (lawEnv L' fa cd)) (execs ((forBody ((recOf Mine.LawTop.hd).body.drop 10)).drop 4) (lawEnv L' fa cd)) Q E { s with heap := h', toks := tk } := by
  k_fill
  intro B' X T FF NN ne1 hI1 hI2 hl1 hl2 hn hle done
  dsimp only [recOf, lawEnv, List.drop, forBody]
  have hs1 : dv.toArray.size = n := by simp [hI1.length, hl1]
  have hs2 : av.toArray.size = n := by simp [hI2.length, hl2]
  obtain ⟨b0, hb0⟩ : ∃ b0 : List (Addr × Obj), b0 = ((DG, listOf dv.toArray kd) :: (AA, listOf av.toArray ca) :: rest) := ⟨_, rfl⟩
  refine n_step ?_
  k_steps
  refine Stop.out ?_
  rename News h₀ L' _ _ => N4
  rename Fr h₀ L' _ _ => F4
  rw [← hb0] at N4
  refine' ListComp_Z (h₀ := h₀) (L := L') (m := (fun y => if y = PySem.Str.ofString "degrees" then some (Value.ref DG) else if y = PySem.Str.ofString "good" then some (Value.bool true) else if y = PySem.Str.ofString "asked" then some (Value.ref AA) else m₁ y)) (news := b0) (Good := fun v => v = .bool true) (l1 := DG) (l2 := AA) (n := n) (by rfl) ?hclos ?hcell ?hkind ?hnames ?hx ?hy (by decide) (by rw [hb0]; exact List.mem_cons_self) (by rw [hb0]; exact List.mem_cons_of_mem _ List.mem_cons_self) hs1 hs2 (by omega) ne1 ?hs ?h ?turn ?fin
  case hclos => with_unfolding_all rfl
  case hcell => decide
  case hkind => rfl
  case hnames => decide
  case hx => rfl
  case hy => rfl
  case hs => exact fun _ => rfl
  case h =>
    rw [hb0] at N4
    k_steps
    refine Stop.out ?_
    rename News h₀ L' _ _ => N5
    rename Fr h₀ L' _ _ => F5
    rw [← hb0] at N5
    refine call_zipN (s₀ := { s with heap := h', toks := tk }) rfl F5 N5 (by rw [hb0]; exact List.mem_cons_self) (by rw [hb0]; exact List.mem_cons_of_mem _ List.mem_cons_self) ?_
    intro xv s₁ hz
    exact hz
  case turn =>
    intro i a b hia hib oC C D m2 vs hp tk1 E1 hoC hma hmb F9 N9 off9 ne9
    have hi : i < n := by
      have := (Array.getElem?_eq_some_iff.mp hia).1
      omega
    obtain ⟨ta, rfl⟩ := ints_get hI1 (by simpa using hia)
    obtain ⟨tb, rfl⟩ := ints_get hI2 (by simpa using hib)
    clear N4 F4
    k_steps
    refine Stop.out ?_
    refine ⟨⟨_, rfl⟩, ?_⟩
    refine congrArg Value.bool ?_
    have := hle i hi
    exact decide_eq_true this
  case fin =>
    intro vs D hp tk1 hg hlen F9 N9 off9
    k_steps
    refine Stop.out ?_
    refine LSm.all_bools F9 N9 (by rfl) ⟨_, (N9 _ List.mem_cons_self).1, rfl, _, rfl⟩ (bools_true hg) ?_
    intro h2 tk2 F2 N2
    rw [all_map_true]
    clear F9 F4 N4
    k_steps
    rename News h₀ L' _ _ => N11
    rename Fr h₀ L' _ _ => F11
    refine done _ _ F11 (fun p hp => N11 p (List.mem_cons_of_mem _ ?_))
    rw [hb0]
    exact hp
end Mine
end
section
set_option maxRecDepth 100000
namespace Mine
open PySem PySem.W PySem.Spec PySem.Calls PyProof.Rows PyProof.V PyProof.Rows.LCg
section
variable {M : Model} {A : Around} {E : Value → Shared → Prop} {s : Shared} {env : Env}
theorem n_one {op e pos} {Q : Value → Shared → Prop} (h : wpN M A (eval e env) Q E s) : wpN M A (eval (.BoolOp op [e] pos) env) Q E s := h
theorem n_and {e₁ e₂ rest pos} {Q : Value → Shared → Prop}
    (h : wpN M A (eval e₁ env) (fun v s₁ => wpAny M A (truthy v) (fun c s₂ => if c then wpN M A (eval (.BoolOp .And (e₂ :: rest) pos) env) Q E s₂ else Q v s₂) E s₁) E s) :
    wpN M A (eval (.BoolOp .And (e₁ :: e₂ :: rest) pos) env) Q E s := by
  show wpN M A (do
    let v ← eval e₁ env
    standAt pos
    let c ← holding [v] (truthy v)
    match BoolOp.And, c with
    | .And, false | .Or, true => pure v
    | _, _ => boolOp pos .And (eval e₂ env :: evalEach rest env)) Q E s
  refine n_bind (n_mono h (fun v s₁ h₁ => n_bind (n_standAt (n_then (wpAny_holding (wpAny_mono h₁ (fun c s₂ h₂ => ?_) fun _ _ x => x))))) fun _ _ x => x)
  cases c with
  | false => exact n_pure h₂
  | true => exact h₂
end
/-- a key of a frame, told in front -/
theorem fr_pull {h₀ h : Heap} {L : Addr} {m : Str → Option Value} (x : Str) {v : Option Value} (F : Fr h₀ L h m) (e : m x = v) : Fr h₀ L h (fun y => if y = x then v else m y) := by
  have e2 : m = (fun y => if y = x then v else m y) := by
    funext y
    by_cases q : y = x
    · simp only [q, if_true, e]
    · simp only [q, if_false]
  rw [← e2]
  exact F
theorem up_eq {x : Str} {v : Option Value} {m : Str → Option Value} : (fun y => if y = x then v else m y) x = v := by simp
theorem up_ne {x z : Str} {v r : Option Value} {m : Str → Option Value} (hn : z ≠ x) (h : m z = r) : (fun y => if y = x then v else m y) z = r := by simp [hn, h]
end Mine
end
section
open PySem PySem.W PySem.Calls PyProof.Rows PyProof.Rows.LCg
set_option maxRecDepth 100000
set_option maxHeartbeats 1000000
namespace Mine
theorem fresh_E29 : True := by
  w_top off
  trivial
local macro_rules | `(tactic| k_room) => `(tactic| ktr_room)
local macro_rules | `(tactic| walk_at "getAttr ref") => `(tactic| (k_here; k_dflt (first
  | refine' get_ownS ?k1 ?k2 ?k3 ?k4 ?k5 ?k6 ?k7 ?k8 ?k9 ?_; (case k1 => k_asm); (case k2 => k_asm); (case k3 => k_inst); (case k4 => k_is); (case k5 => k_is); (case k6 => k_is); (case k7 => k_is); (case k8 => k_get); (case k9 => k_handed); k_whole
  | refine' get_ownD ?k1 ?k2 ?k3 ?k4 ?k5 ?k6 ?k7 ?kt ?k8 ?k9 ?_; (case k1 => k_asm); (case k2 => k_asm); (case k3 => k_inst); (case k4 => k_is); (case k5 => k_is); (case k6 => k_is); (case k7 => k_is); (case kt => k_is); (case k8 => k_get); (case k9 => k_handed); k_whole)))
local macro_rules | `(tactic| walk_at "getMethod ref") => `(tactic| (k_here; k_dflt (first
  | refine' method_instS ?k1 ?k2 ?k3 ?k4 ?k5 ?k6 ?k7 ?_; (case k1 => k_asm); (case k2 => k_asm); (case k3 => k_inst); (case k4 => k_is); (case k5 => k_is); (case k6 => k_is); (case k7 => k_get); k_whole
  | refine' method_getS ?k1 ?k2 ?_; (case k1 => k_asm); (case k2 => k_mem); k_whole)))
local macro_rules | `(tactic| k_all) => `(tactic| exact far_of (by assumption) (by omega))
local macro_rules | `(tactic| walk_at "call builtin:dict.get") => `(tactic| (k_here; k_dflt (refine' getS_miss ?k1 ?k2 ?k3 ?k4 ?k5 ?_; (case k1 => k_asm); (case k2 => k_mem); (case k3 => k_keys); (case k4 => k_get); (case k5 => k_asm); k_whole)))
local macro_rules | `(tactic| walk_at "setItem ref str") => `(tactic| (k_here; k_dflt (refine' setS_new ?k1 ?k2 ?k3 ?k4 ?k5 ?k6 ?_; (case k1 => k_asm); (case k2 => k_asm); (case k6 => k_upd); (case k3 => k_keys); (case k4 => k_get); (case k5 => (rw [sizeLine_eq]; exact Nat.le_of_ble_eq_true (by with_unfolding_all rfl))); k_whole; intro h' F' N'; (try dsimp only [List.cons_append, List.nil_append] at N'); (try k_sweep))))
local macro_rules | `(tactic| walk_at "call builtin:dict.clear") => `(tactic| (k_here; k_dflt (refine' clear_K (knd := PySem.strKind _ _) ?k1 ?k2 ?k3 ?k4 ?_; (case k1 => k_asm); (case k2 => k_asm); (case k3 => k_updF); (case k4 => assumption); k_whole; intro h' o' F' N' hd'; (try dsimp only [List.cons_append, List.nil_append] at N'); (try k_sweep))))
local macro_rules | `(tactic| k_all) => `(tactic| with_reducible assumption)
local macro_rules | `(tactic| k_ne) => `(tactic| (refine neN ?_; (try dsimp only); first | with_reducible assumption | (refine Ne.symm ?_; with_reducible assumption)))
theorem ints_sum1 {l : List Int} {k : Int} : (l ++ [k]).sum = l.sum + k := by simp
/-- the fifth row on a graph: uneven asks are refused -/
theorem law_T5 {w : World} {s : Shared} {p : Program} {loose : List Str} {mean : ExcName → Option Value} {mg mb : Str → Option Value} {h₀ h' : Heap} {L' fa LA VA : Nat} {cd : Value} {tk ku kl : Nat} {uv lv : List Value} {us ls : List Int} {way : Int} {tw : Tok} {m₁ : Str → Option Value} {rest : List (Addr × Obj)} {Q : Flow → Shared → Prop} {E : Value → Shared → Prop} (hway : way = 0 ∨ way = 1 ∨ way = 2) :
    Below callerA h₀ [] h₀ → (Mine.LawTop.hd.heap_39 w.params).In h₀ → Top p loose mean mg mb h₀ →
    Fr h₀ L' h' (fun y => if y = PySem.Str.ofString "good" then some (Value.bool true) else if y = PySem.Str.ofString "way" then some (Value.int way tw) else if y = PySem.Str.ofString "upper" then some (Value.ref VA) else if y = PySem.Str.ofString "lower" then some (Value.ref LA) else m₁ y) →
    News h₀ L' h' ((LA, listOf lv.toArray kl) :: (VA, listOf uv.toArray ku) :: rest) → @Ne Nat LA VA → (∃ p ∈ rest, @LT.lt Nat _ 1 p.1) → IntsAre lv ls → IntsAre uv us → ls.length = 5 → us.length ≤ 5 → ls.sum = us.sum → (∀ y ∈ ls, 0 ≤ y ∧ y ≤ 8) → (∀ y ∈ us, 1 ≤ y ∧ y ≤ 8) →
    (∀ h' tk, Fr h₀ L' h' (fun y => if y = PySem.Str.ofString "good" then some (Value.bool true) else if y = PySem.Str.ofString "good" then some (Value.bool true) else if y = PySem.Str.ofString "way" then some (Value.int way tw) else if y = PySem.Str.ofString "upper" then some (Value.ref VA) else if y = PySem.Str.ofString "lower" then some (Value.ref LA) else m₁ y) → News h₀ L' h' ((LA, listOf lv.toArray kl) :: (VA, listOf uv.toArray ku) :: rest) →
      wpN (model PySem.Challenge.rw_ez0195_01.row.prog w) (callerA.deeper (lawEnv L' fa cd)) (execs ((forBody ((recOf Mine.LawTop.hd).body.drop 10)).drop 6) (lawEnv L' fa cd)) Q E { s with heap := h', toks := tk }) →
    wpN (model PySem.Challenge.rw_ez0195_01.row.prog w) (callerA.deeper (lawEnv L' fa cd)) (execs ((forBody ((recOf Mine.LawTop.hd).body.drop 10)).drop 5) (lawEnv L' fa cd)) Q E { s with heap := h', toks := tk } := by
  k_fill
  intro B' X T FF NN ne1 hz hI1 hI2 hl1 hl2 hsum hb1 hb2 done
  dsimp only [recOf, lawEnv, List.drop, forBody]
  refine n_execs (n_assign (n_and (n_any ?_)))
  k_steps
  try dsimp only
  refine n_and (n_callName ?_)
  k_steps
  refine n_callK (K := Mine.LawTop.hd.heap_39 w.params) X (by k_is) ?_
  k_steps
  rename News h₀ L' _ _ => N2
  rename Fr h₀ L' _ _ => F2
  rename IntsAre _ (us ++ [1]) => hI3
  rename _ ∧ _ => lt3
  have g1 : ∀ y ∈ us ++ [1], 1 ≤ y ∧ y ≤ 8 := fun y hy => by
    rcases List.mem_append.mp hy with hy | hy
    · exact hb2 y hy
    · rw [List.mem_singleton.mp hy]; decide
  have g2 : ∀ y ∈ ls ++ [2], 0 ≤ y ∧ y ≤ 8 := fun y hy => by
    rcases List.mem_append.mp hy with hy | hy
    · exact hb1 y hy
    · rw [List.mem_singleton.mp hy]; decide
  obtain ⟨z0, hz0, z1⟩ := hz

  refine' refused_N (base := h₀) (ca := kl) (cb := 0) (news := (VA, listOf uv.toArray ku) :: rest) hway B' F2 X X T ?hN T ?hd ?hu ⟨z0, by simp [hz0], z1⟩ hI1 hI3 (by omega) (by omega) (by rw [List.length_append, List.length_singleton]; omega) (by rw [ints_sum1]; omega) hb1 g1 ?_
  case hN =>
    intro p hp
    refine N2 p ?_
    simp only [List.mem_cons] at hp ⊢
    rcases hp with h | h | h | h
    · exact .inr (.inr (.inl h))
    · exact .inl h
    · exact .inr (.inr (.inr (.inl h)))
    · exact .inr (.inr (.inr (.inr h)))
  case hd => ktr_room
  case hu => ktr_units
  intro h3 tk3 F3 N3
  replace N3 : News h₀ L' h3 ((LA, listOf lv.toArray kl) :: (VA, listOf uv.toArray ku) :: rest) := fun p hp => N3 p (by
    simp only [List.mem_cons] at hp ⊢
    rcases hp with h | h | h
    · exact .inl h
    · exact .inr (.inr (.inl h))
    · exact .inr (.inr (.inr h)))
  clear N2 F2 hI3 lt3
  k_steps
  try dsimp only
  refine n_one (n_callName ?_)
  k_steps
  refine n_callK (K := Mine.LawTop.hd.heap_39 w.params) X (by k_is) ?_
  k_steps
  rename News h₀ L' _ _ => N2
  rename Fr h₀ L' _ _ => F2
  rename IntsAre _ (ls ++ [2]) => hI3
  rename _ ∧ _ => lt3
  refine' refused_N (base := h₀) (ca := 0) (cb := ku) (news := (LA, listOf lv.toArray kl) :: rest) hway B' F2 X X T ?hN T ?hd ?hu ⟨z0, by simp [hz0], z1⟩ hI3 hI2 (by rw [List.length_append, List.length_singleton]; omega) (by rw [List.length_append, List.length_singleton]; omega) (by omega) (by rw [ints_sum1]; omega) g2 hb2 ?_
  case hN =>
    intro p hp
    refine N2 p ?_
    simp only [List.mem_cons] at hp ⊢
    rcases hp with h | h | h | h
    · exact .inl h
    · exact .inr (.inr (.inr (.inl h)))
    · exact .inr (.inr (.inl h))
    · exact .inr (.inr (.inr (.inr h)))
  case hd => ktr_room
  case hu => ktr_units
  intro h4 tk4 F4 N4
  replace N4 : News h₀ L' h4 ((LA, listOf lv.toArray kl) :: (VA, listOf uv.toArray ku) :: rest) := fun p hp => N4 p (by
    simp only [List.mem_cons] at hp ⊢
    rcases hp with h | h | h
    · exact .inr (.inr (.inl h))
    · exact .inr (.inl h)
    · exact .inr (.inr (.inr h)))
  clear N2 F2 hI3 lt3
  k_steps
  rename News h₀ L' _ _ => N5
  rename Fr h₀ L' _ _ => F5
  exact done _ _ F5 N5
end Mine
end
section
open PySem PySem.W PySem.Calls PyProof.Rows PyProof.Rows.LCg
set_option maxRecDepth 100000
set_option maxHeartbeats 1000000
namespace Mine
theorem fresh_E30 : True := by
  w_top off
  trivial
local macro_rules | `(tactic| walk_at "nought") => `(tactic| fail)
local macro_rules | `(tactic| k_room) => `(tactic| ktr_room)
local macro_rules | `(tactic| walk_at "getAttr ref") => `(tactic| (k_here; k_dflt (first
  | refine' get_ownS ?k1 ?k2 ?k3 ?k4 ?k5 ?k6 ?k7 ?k8 ?k9 ?_; (case k1 => k_asm); (case k2 => k_asm); (case k3 => k_inst); (case k4 => k_is); (case k5 => k_is); (case k6 => k_is); (case k7 => k_is); (case k8 => k_get); (case k9 => k_handed); k_whole
  | refine' get_ownD ?k1 ?k2 ?k3 ?k4 ?k5 ?k6 ?k7 ?kt ?k8 ?k9 ?_; (case k1 => k_asm); (case k2 => k_asm); (case k3 => k_inst); (case k4 => k_is); (case k5 => k_is); (case k6 => k_is); (case k7 => k_is); (case kt => k_is); (case k8 => k_get); (case k9 => k_handed); k_whole)))
local macro_rules | `(tactic| walk_at "getMethod ref") => `(tactic| (k_here; k_dflt (first
  | refine' method_instS ?k1 ?k2 ?k3 ?k4 ?k5 ?k6 ?k7 ?_; (case k1 => k_asm); (case k2 => k_asm); (case k3 => k_inst); (case k4 => k_is); (case k5 => k_is); (case k6 => k_is); (case k7 => k_get); k_whole
  | refine' method_getS ?k1 ?k2 ?_; (case k1 => k_asm); (case k2 => k_mem); k_whole)))
local macro_rules | `(tactic| k_all) => `(tactic| exact far_of (by assumption) (by omega))
local macro_rules | `(tactic| walk_at "call builtin:dict.get") => `(tactic| (k_here; k_dflt (refine' getS_miss ?k1 ?k2 ?k3 ?k4 ?k5 ?_; (case k1 => k_asm); (case k2 => k_mem); (case k3 => k_keys); (case k4 => k_get); (case k5 => k_asm); k_whole)))
local macro_rules | `(tactic| walk_at "setItem ref str") => `(tactic| (k_here; k_dflt (refine' setS_new ?k1 ?k2 ?k3 ?k4 ?k5 ?k6 ?_; (case k1 => k_asm); (case k2 => k_asm); (case k6 => k_upd); (case k3 => k_keys); (case k4 => k_get); (case k5 => (rw [sizeLine_eq]; exact Nat.le_of_ble_eq_true (by with_unfolding_all rfl))); k_whole; intro h' F' N'; (try dsimp only [List.cons_append, List.nil_append] at N'); (try k_sweep))))
local macro_rules | `(tactic| walk_at "call builtin:dict.clear") => `(tactic| (k_here; k_dflt (refine' clear_K (knd := PySem.strKind _ _) ?k1 ?k2 ?k3 ?k4 ?_; (case k1 => k_asm); (case k2 => k_asm); (case k3 => k_updF); (case k4 => assumption); k_whole; intro h' o' F' N' hd'; (try dsimp only [List.cons_append, List.nil_append] at N'); (try k_sweep))))
local macro_rules | `(tactic| k_all) => `(tactic| with_reducible assumption)
local macro_rules | `(tactic| k_ne) => `(tactic| (refine neN ?_; (try dsimp only); first | with_reducible assumption | (refine Ne.symm ?_; with_reducible assumption)))
/-- the last row on a graph: all is met where the inequalities hold -/
theorem law_T6 {w : World} {s : Shared} {p : Program} {loose : List Str} {mean : ExcName → Option Value} {mg mb : Str → Option Value} {h₀ h' : Heap} {L' fa AA DG : Nat} {cd : Value} {tk n kd : Nat} {av dv : List Value} {ds qs : List Int} {ca : Nat} {b : Bool} {way : Int} {tw : Tok} {m₁ : Str → Option Value} {rest : List (Addr × Obj)} {Q : Flow → Shared → Prop} {E : Value → Shared → Prop} (hway : way = 0 ∨ way = 1 ∨ way = 2) :
    Below callerA h₀ [] h₀ → (Mine.LawTop.hd.heap_39 w.params).In h₀ → Top p loose mean mg mb h₀ →
    Fr h₀ L' h' (fun y => if y = PySem.Str.ofString "good" then some (Value.bool true) else if y = PySem.Str.ofString "way" then some (Value.int way tw) else if y = PySem.Str.ofString "degrees" then some (Value.ref DG) else if y = PySem.Str.ofString "asked" then some (Value.ref AA) else if y = PySem.Str.ofString "holds" then some (Value.bool b) else m₁ y) →
    News h₀ L' h' ((DG, listOf dv.toArray kd) :: (AA, listOf av.toArray ca) :: rest) → @Ne Nat DG AA → IntsAre dv ds → IntsAre av qs → ds.length = n → qs.length = n → n ≤ 20 → (way = 0 → (ds = qs ↔ b = true)) →
    (∀ h' tk, Fr h₀ L' h' (fun y => if y = PySem.Str.ofString "good" then some (Value.bool true) else if y = PySem.Str.ofString "way" then some (Value.int way tw) else if y = PySem.Str.ofString "degrees" then some (Value.ref DG) else if y = PySem.Str.ofString "asked" then some (Value.ref AA) else if y = PySem.Str.ofString "holds" then some (Value.bool b) else m₁ y) → News h₀ L' h' ((DG, listOf dv.toArray kd) :: (AA, listOf av.toArray ca) :: rest) → Q .next { s with heap := h', toks := tk }) →
    wpN (model PySem.Challenge.rw_ez0195_01.row.prog w) (callerA.deeper (lawEnv L' fa cd)) (execs ((forBody ((recOf Mine.LawTop.hd).body.drop 10)).drop 6) (lawEnv L' fa cd)) Q E { s with heap := h', toks := tk } := by
  k_fill
  intro B' X T FF NN ne1 hI1 hI2 hl1 hl2 hn hb done
  dsimp only [recOf, lawEnv, List.drop, forBody]
  rcases hway with rfl | rfl | rfl
  · have hb := hb rfl
    refine n_step ?_
    k_steps
    rename News h₀ L' _ _ => N5
    rename Fr h₀ L' _ _ => F5
    have e : (decide (ds = qs) == b) = true := by
      cases b with
      | true => rw [decide_eq_true (hb.mpr rfl)]; rfl
      | false => rw [decide_eq_false (fun h => by have := hb.mp h; cases this)]; rfl
    rw [e] at F5
    refine n_execs_nil ?_
    exact done _ _ (fr_dup F5) N5
  · refine n_step ?_
    k_steps
    rename News h₀ L' _ _ => N5
    rename Fr h₀ L' _ _ => F5
    refine n_execs_nil ?_
    exact done _ _ F5 N5
  · refine n_step ?_
    k_steps
    rename News h₀ L' _ _ => N5
    rename Fr h₀ L' _ _ => F5
    refine n_execs_nil ?_
    exact done _ _ F5 N5
end Mine
end
section
open PySem PySem.W PySem.Calls PyProof.Rows PyProof.Rows.LCg
set_option maxRecDepth 100000
set_option maxHeartbeats 4000000
namespace Mine
theorem fresh_E25 : True := by
  w_top off
  trivial
local macro_rules | `(tactic| k_room) => `(tactic| ktr_room)
local macro_rules | `(tactic| walk_at "getAttr ref") => `(tactic| (k_here; k_dflt (first
  | refine' get_ownS ?k1 ?k2 ?k3 ?k4 ?k5 ?k6 ?k7 ?k8 ?k9 ?_; (case k1 => k_asm); (case k2 => k_asm); (case k3 => k_inst); (case k4 => k_is); (case k5 => k_is); (case k6 => k_is); (case k7 => k_is); (case k8 => k_get); (case k9 => k_handed); k_whole
  | refine' get_ownD ?k1 ?k2 ?k3 ?k4 ?k5 ?k6 ?k7 ?kt ?k8 ?k9 ?_; (case k1 => k_asm); (case k2 => k_asm); (case k3 => k_inst); (case k4 => k_is); (case k5 => k_is); (case k6 => k_is); (case k7 => k_is); (case kt => k_is); (case k8 => k_get); (case k9 => k_handed); k_whole)))
local macro_rules | `(tactic| walk_at "getMethod ref") => `(tactic| (k_here; k_dflt (first
  | refine' method_instS ?k1 ?k2 ?k3 ?k4 ?k5 ?k6 ?k7 ?_; (case k1 => k_asm); (case k2 => k_asm); (case k3 => k_inst); (case k4 => k_is); (case k5 => k_is); (case k6 => k_is); (case k7 => k_get); k_whole
  | refine' method_getS ?k1 ?k2 ?_; (case k1 => k_asm); (case k2 => k_mem); k_whole)))
local macro_rules | `(tactic| k_all) => `(tactic| exact far_of (by assumption) (by omega))
local macro_rules | `(tactic| walk_at "call builtin:dict.get") => `(tactic| (k_here; k_dflt (refine' getS_miss ?k1 ?k2 ?k3 ?k4 ?k5 ?_; (case k1 => k_asm); (case k2 => k_mem); (case k3 => k_keys); (case k4 => k_get); (case k5 => k_asm); k_whole)))
local macro_rules | `(tactic| walk_at "setItem ref str") => `(tactic| (k_here; k_dflt (refine' setS_new ?k1 ?k2 ?k3 ?k4 ?k5 ?k6 ?_; (case k1 => k_asm); (case k2 => k_asm); (case k6 => k_upd); (case k3 => k_keys); (case k4 => k_get); (case k5 => (rw [sizeLine_eq]; exact Nat.le_of_ble_eq_true (by with_unfolding_all rfl))); k_whole; intro h' F' N'; (try dsimp only [List.cons_append, List.nil_append] at N'); (try k_sweep))))
local macro_rules | `(tactic| walk_at "call builtin:dict.clear") => `(tactic| (k_here; k_dflt (refine' clear_K (knd := PySem.strKind _ _) ?k1 ?k2 ?k3 ?k4 ?_; (case k1 => k_asm); (case k2 => k_asm); (case k3 => k_updF); (case k4 => assumption); k_whole; intro h' o' F' N' hd'; (try dsimp only [List.cons_append, List.nil_append] at N'); (try k_sweep))))
local macro_rules | `(tactic| k_all) => `(tactic| with_reducible assumption)
local macro_rules | `(tactic| walk_at "call type:list") => `(tactic| (k_here; refine Stop.mk ?_))
local macro_rules | `(tactic| walk_at "eval ListComp") => `(tactic| (refine Stop.mk ?_))
local macro_rules | `(tactic| walk_at "CompEnd") => `(tactic| (refine Stop.mk ?_))
local macro_rules | `(tactic| walk_at "CompSrc") => `(tactic| (refine Stop.mk ?_))
local macro_rules | `(tactic| walk_at "compareOp Eq ref ref") => `(tactic| (refine Stop.mk ?_))
local macro_rules | `(tactic| k_ne) => `(tactic| (refine neN ?_; (try dsimp only); first | with_reducible assumption | (refine Ne.symm ?_; with_reducible assumption)))
/-- pairs of a node and its dict, laid by a comprehension -/
structure PairJ (prog : Program) (w : World) (base : List (Addr × Obj)) (i : Nat) (P : Nat → Nat) (nw : List (Addr × Obj)) : Prop where
  keep : ∀ p ∈ base, p ∈ nw
  pr : ∀ j, j < i → ∃ t u Dj oj, (P j, tupObj (.int (j : Int) t) (.ref Dj)) ∈ nw ∧ (Dj, oj) ∈ nw ∧ oj.IsDictOf (PySem.strKind prog w) [(PySem.Str.ofString "bipartite", .int (if 4 < j then 1 else 0) u)] ∧ (Dj == sysModules) = false
theorem PairJ.zero {prog : Program} {w : World} {base : List (Addr × Obj)} {P : Nat → Nat} : PairJ prog w base 0 P base := ⟨fun _ h => h, fun j h => absurd h (Nat.not_lt_zero _)⟩
theorem pair_step {prog : Program} {w : World} {s₁ : Shared} {h₀ h' : Heap} {L : Addr} {m : Str → Option Value} {I C D T' D' : Nat} {oI oC o' : Obj} {tk i : Nat} {z b : Int} {t u : Tok} {P : Nat → Nat} {b0 nw : List (Addr × Obj)} (F : Fr h₀ L h' m)
    (N : News h₀ L h' ((T', tupObj (.int z t) (.ref D')) :: (D', o') :: (I, oI) :: (C, oC) :: (D, lst (refs P i)) :: nw)) (hz : z = (i : Int)) (hd : o'.IsDictOf (PySem.strKind prog w) [(PySem.Str.ofString "bipartite", .int b u)]) (hb : b = if 4 < i then 1 else 0) (lo : (D' == sysModules) = false)
    (l1 : D' < T' ∧ I < T' ∧ C < T' ∧ D < T' ∧ AllLt T' nw) (l0 : I < D' ∧ C < D' ∧ D < D' ∧ AllLt D' nw) (off : Off3 I C D nw) (J : PairJ prog w b0 i P nw) :
    CompEnd h₀ L m s₁ I oI C oC D (lst (refs P i)) (fun _ => True) (fun y news' => ∃ P', refs P i ++ [y] = refs P' (i + 1) ∧ PairJ prog w b0 (i + 1) P' news') (.ref T') { s₁ with heap := h', toks := tk } := by
  subst hz hb
  obtain ⟨a1, a2, a3, a4, a5⟩ := l1
  obtain ⟨c1, c2, c3, c4⟩ := l0
  refine CompEnd.intro F N ((T', tupObj (.int (i : Int) t) (.ref D')) :: (D', o') :: nw) (fun p hp => ?_) ⟨⟨Nat.ne_of_gt a2, Nat.ne_of_gt a3, Nat.ne_of_gt a4⟩, ⟨Nat.ne_of_gt c1, Nat.ne_of_gt c2, Nat.ne_of_gt c3⟩, off⟩ trivial ⟨_, refs_succ P i T', ⟨fun p hp => ?_, fun j hj => ?_⟩⟩
  · simp only [List.mem_cons] at hp ⊢
    rcases hp with h | h | h | h | h | h <;> simp [h]
  · exact List.mem_cons_of_mem _ (List.mem_cons_of_mem _ (J.keep p hp))
  · by_cases q : j = i
    · subst q
      exact ⟨t, u, D', o', by simp, by simp, hd, lo⟩
    · obtain ⟨t8, u8, D8, o8, q1, q2, q3, q4⟩ := J.pr j (by omega)
      refine ⟨t8, u8, D8, o8, ?_, List.mem_cons_of_mem _ (List.mem_cons_of_mem _ q2), q3, q4⟩
      rw [if_neg q]
      exact List.mem_cons_of_mem _ (List.mem_cons_of_mem _ q1)
/-- the first row on a graph: its nodes -/
theorem law_T1 {w : World} {s : Shared} {p : Program} {loose : List Str} {mean : ExcName → Option Value} {mg mb : Str → Option Value} {h₀ h' : Heap} {L' fa LA VA AA I : Nat} {cd : Value} {oI oA oV oL o1 o2 o3 o4 : Obj} {tk : Nat} {av : List Value} {as bs : List Int} {ca : Nat} {m₁ : Str → Option Value} {Q : Flow → Shared → Prop} {E : Value → Shared → Prop}
    {G : List (Addr × Obj)} {x d ag an aa nv : Nat} {t0 t1 t2 t3 ta tb : Tok} {f : Nat → Nat} {Ad : Nat → List (Int × Value)} {gk : List (Str × Value)} :
    Below callerA h₀ [] h₀ → (Mine.LawTop.hd.heap_39 w.params).In h₀ → Top p loose mean mg mb h₀ →
    Fr h₀ L' h' (fun y => if y = PySem.Str.ofString "good" then some (Value.bool true) else if y = PySem.Str.ofString "asked" then some (Value.ref AA) else m₁ y) →
    News h₀ L' h' ([(I, oI), (AA, listOf av.toArray ca), (VA, oV), (LA, oL), (L' + 1 + 1 + 1 + 1, o1), (L' + 1 + 1 + 1, o2), (L' + 1 + 1, o3), (L' + 1, o4)] ++ G) →
    Apart [(I, oI), (AA, listOf av.toArray ca), (VA, oV), (LA, oL), (L' + 1 + 1 + 1 + 1, o1), (L' + 1 + 1 + 1, o2), (L' + 1 + 1, o3), (L' + 1, o4)] G →
    GI PySem.Challenge.rw_ez0195_01.row.prog w G x d ag an aa [kE w "graph" t0 ag, kE w "_node" t1 an, kE w "_adj" t2 aa, kE w "adj" t3 aa, kE w "nodes" 777 nv] 5 f (as.length + bs.length) Ad (fun v => [(PySem.Str.ofString "bipartite", if v < as.length then .int 0 ta else .int 1 tb)]) gk →
    o1.data = .cell (some (.ref x)) → IntsAre av (as ++ bs) → as.length = 5 → bs.length ≤ 5 →
    (∀ h' tk, Fr h₀ L' h' (fun y => if y = PySem.Str.ofString "good" then some (Value.bool true) else if y = PySem.Str.ofString "asked" then some (Value.ref AA) else m₁ y) → News h₀ L' h' ([(I, oI), (AA, listOf av.toArray ca), (VA, oV), (LA, oL), (L' + 1 + 1 + 1 + 1, o1), (L' + 1 + 1 + 1, o2), (L' + 1 + 1, o3), (L' + 1, o4)] ++ G) →
      wpN (model PySem.Challenge.rw_ez0195_01.row.prog w) (callerA.deeper (lawEnv L' fa cd)) (execs ((forBody ((recOf Mine.LawTop.hd).body.drop 10)).drop 2) (lawEnv L' fa cd)) Q E { s with heap := h', toks := tk }) →
    wpN (model PySem.Challenge.rw_ez0195_01.row.prog w) (callerA.deeper (lawEnv L' fa cd)) (execs ((forBody ((recOf Mine.LawTop.hd).body.drop 10)).drop 1) (lawEnv L' fa cd)) Q E { s with heap := h', toks := tk } := by
  k_fill
  intro B' X T FF NN ap gi d1 hIa ha5 hb5 done
  have hU : Uniq G := fun hp hq e => News.uniq NN (List.mem_append_right _ hp) (List.mem_append_right _ hq) e
  dsimp only [recOf, lawEnv, List.drop, forBody]
  obtain ⟨on, mn, dn⟩ := gi.nod
  have hes : ∀ p ∈ [((an : Addr), on), (x, instObj 617 d), (d, dictS [kE w "graph" t0 ag, kE w "_node" t1 an, kE w "_adj" t2 aa, kE w "adj" t3 aa, kE w "nodes" 777 nv] 5)], p ∈ G := by
    intro p hp
    simp only [List.mem_cons, List.not_mem_nil, or_false] at hp
    rcases hp with e | e | e <;> rw [e]
    · exact mn
    · exact gi.inst
    · exact gi.dict
  have N3 : News h₀ L' h' ((an, on) :: (x, instObj 617 d) :: (d, dictS [kE w "graph" t0 ag, kE w "_node" t1 an, kE w "_adj" t2 aa, kE w "adj" t3 aa, kE w "nodes" 777 nv] 5) :: (I, oI) :: (AA, listOf av.toArray ca) :: (VA, oV) :: (LA, oL) :: (L' + 1 + 1 + 1 + 1, o1) :: (L' + 1 + 1 + 1, o2) :: (L' + 1 + 1, o3) :: (L' + 1, o4) :: rms G [an, x, d]) := front_G0 NN (fun _ h => h) hes
  have loan : (an == sysModules) = false := gi.low _ (by simp)
  clear NN
  refine n_step ?_
  k_steps
  refine Stop.out ?_
  rename News h₀ L' _ _ => N4
  rename Fr h₀ L' _ _ => F4
  refine list_items (by rfl) F4 N4 List.mem_cons_self (List.mem_cons_of_mem _ List.mem_cons_self) dn (by omega) ?_
  intro BL PL TL cL h5 tk5 F5 N5
  obtain ⟨base, hbase⟩ : ∃ base : List (Addr × Obj), base = tps (as.length + bs.length) PL TL (fun v => .ref (f (2 * v + 1))) ++ rms G [an, x, d] := ⟨_, rfl⟩
  replace N5 : News h₀ L' h5 ((BL, listOf (refs PL (as.length + bs.length)).toArray cL) :: (an, on) :: (x, instObj 617 d) :: (d, dictS [kE w "graph" t0 ag, kE w "_node" t1 an, kE w "_adj" t2 aa, kE w "adj" t3 aa, kE w "nodes" 777 nv] 5) :: (I, oI) :: (AA, listOf av.toArray ca) :: (VA, oV) :: (LA, oL) :: (L' + 1 + 1 + 1 + 1, o1) :: (L' + 1 + 1 + 1, o2) :: (L' + 1 + 1, o3) :: (L' + 1, o4) :: base) := fun p hp => N5 p (by
    rw [hbase] at hp
    simp only [List.mem_cons, List.mem_append] at hp ⊢
    rcases hp with h | h | h | h | h | h | h | h | h | h | h | h | h | h <;> simp [h])
  clear N4 F4 N3
  k_steps
  refine Stop.out ?_
  refine' LCg.ListComp_U (h₀ := h₀) (L := L') F5 ?hclos ?hcell ?hkind ?hnames ?hx ?_ ?hs
  case hclos => with_unfolding_all rfl
  case hcell => decide
  case hkind => rfl
  case hnames => decide
  case hx => rfl
  case hs => exact fun _ => rfl
  k_steps
  refine Stop.out ?_
  rename IsRange _ _ _ _ _ _ _ _ => hir
  rename News h₀ L' _ _ => N6
  rename Fr h₀ L' _ _ => F6
  obtain ⟨b0, hb0⟩ : ∃ b0 : List (Addr × Obj), b0 = ((BL, listOf (refs PL (as.length + bs.length)).toArray cL) :: (an, on) :: (x, instObj 617 d) :: (d, dictS [kE w "graph" t0 ag, kE w "_node" t1 an, kE w "_adj" t2 aa, kE w "adj" t3 aa, kE w "nodes" 777 nv] 5) :: (I, oI) :: (AA, listOf av.toArray ca) :: (VA, oV) :: (LA, oL) :: (L' + 1 + 1 + 1 + 1, o1) :: (L' + 1 + 1 + 1, o2) :: (L' + 1 + 1, o3) :: (L' + 1, o4) :: base) := ⟨_, rfl⟩
  rw [← hb0] at N6
  refine LCg.CompSrc.range (n := as.length + bs.length) (by rfl) F6 N6 hir (small_one (by omega) (by omega) (by omega) (by omega)) (by rw [rangeSize_nat]; omega) (by rw [sizeLine_eq]; omega) ?_
  intro gg
  refine comp_loop (J := fun i ys nw => ∃ P, ys = refs P i ∧ PairJ PySem.Challenge.rw_ez0195_01.row.prog w b0 i P nw) ⟨fun _ => 0, rfl, PairJ.zero⟩ ?turn ?fin
  case turn =>
    rintro i ys nw hi ⟨P, rfl, J⟩ v I9 oI9 C9 oC9 D9 m9 h9 tk9 E9 ⟨t9, rfl⟩ hoC hm9 F9 N9 off9 ne9
    clear N6 F6
    k_steps
    refine Stop.out ?_
    rename News h₀ L' _ _ => N10
    rename Fr h₀ L' _ _ => F10
    refine pair_step F10 N10 (by omega) (by assumption) ?_ (by assumption) (by assumption) (by assumption) off9 J
    by_cases q : 4 < i
    · have q' : (4 : Int) < 0 + (i : Int) := by omega
      rw [if_pos q, if_pos (decide_eq_true q')]
    · have q' : ¬ (4 : Int) < 0 + (i : Int) := by omega
      rw [if_neg q, if_neg (by rw [decide_eq_false q']; exact Bool.false_ne_true)]
  case fin =>
    rintro ys nw1 ⟨P0, rfl, J1⟩
    unfold LCg.FinE
    intro LR h9 tk9 F9 N9 off9
    clear N6 F6
    k_steps
    refine Stop.out ?_
    have mBL : ((BL : Addr), listOf (refs PL (as.length + bs.length)).toArray cL) ∈ nw1 := J1.keep _ (by rw [hb0]; exact List.mem_cons_self)
    have mtp : ∀ j, j < as.length + bs.length → ((PL j : Addr), tupObj (.int (j : Int) (TL j)) (.ref (f (2 * j + 1)))) ∈ nw1 := fun j hj => J1.keep _ (by
      rw [hb0, hbase]
      simp only [List.mem_cons, List.mem_append]
      have : ((PL j : Addr), tupObj (.int (j : Int) (TL j)) (.ref (f (2 * j + 1)))) ∈ tps (as.length + bs.length) PL TL (fun v => .ref (f (2 * v + 1))) := List.mem_map.mpr ⟨j, List.mem_range.mpr hj, rfl⟩
      simp [this])
    have mnd : ∀ j, j < as.length + bs.length → ∃ o, ((f (2 * j + 1) : Addr), o) ∈ nw1 ∧ o.IsDictOf (PySem.strKind PySem.Challenge.rw_ez0195_01.row.prog w) [(PySem.Str.ofString "bipartite", if j < as.length then .int 0 ta else .int 1 tb)] := fun j hj => by
      obtain ⟨o, mo, ho⟩ := gi.ndv j hj
      have off := gi.off (2 * j + 1) (by omega)
      simp only [List.mem_cons, List.not_mem_nil, or_false, not_or] at off
      refine ⟨o, J1.keep _ ?_, ho⟩
      rw [hb0, hbase]
      have : ((f (2 * j + 1) : Addr), o) ∈ rms G [an, x, d] := mem_rms mo (by simp only [List.mem_cons, List.not_mem_nil, or_false, not_or]; exact ⟨off.2.2.2.1, off.1, off.2.1⟩)
      simp [this]
    refine RcT.lists (n := cL) (n2 := (refs P0 (as.length + bs.length)).length) (N9 _ (List.mem_cons_of_mem _ mBL)).1 (N9 _ List.mem_cons_self).1 (by simp [refs]) (by show (7 : Nat) < cLine; decide) ?_ _ _ ?_
    · intro j j1 j2
      have hj : j < as.length + bs.length := by simpa [refs] using j1
      have e1 : (refs PL (as.length + bs.length)).toArray[j] = .ref (PL j) := by simp [refs]
      have e2 : (refs P0 (as.length + bs.length)).toArray[j] = .ref (P0 j) := by simp [refs]
      rw [e1, e2]
      obtain ⟨t8, u8, D8, o8, q1, q2, q3, q4⟩ := J1.pr j hj
      obtain ⟨o7, r1, r2⟩ := mnd j hj
      refine EqT.of_refs (RcT.tuples (N9 _ (List.mem_cons_of_mem _ (mtp j hj))).1 (N9 _ (List.mem_cons_of_mem _ q1)).1 rfl (by show (8 : Nat) < cLine; decide) ?_)
      intro k k1 k2
      have hk : k = 0 ∨ k = 1 := by
        have : k < 2 := k1
        omega
      rcases hk with rfl | rfl
      · exact EqT.of (by have := SeqAt.EqAt.int_int (A := ((callerA.deeper (lawEnv L' fa cd)).in1).in1) (s := { s with heap := h9, toks := tk9 }) (j : Int) (TL j) (j : Int) t8; simpa using this)
      · refine EqT.of_refs (RcT.dicts (k := PySem.Str.ofString "bipartite") (v := if 4 < j then 1 else 0) (ta := if j < as.length then ta else tb) (tb := u8) (gi.lowf _ (by omega)) q4 (Heap.dictOf_iff.mpr ⟨o7, (N9 _ (List.mem_cons_of_mem _ r1)).1, ?_⟩) (Heap.dictOf_iff.mpr ⟨o8, (N9 _ (List.mem_cons_of_mem _ q2)).1, q3⟩) (by show (9 : Nat) < cLine; decide))
        have e : (if j < as.length then Value.int 0 ta else Value.int 1 tb) = Value.int (if 4 < j then 1 else 0) (if j < as.length then ta else tb) := by
          by_cases q : j < as.length
          · have q' : ¬ 4 < j := by omega
            simp [q, q']
          · have q' : 4 < j := by omega
            simp [q, q']
        rw [← e]
        exact r2
    · k_steps
      rename News h₀ L' _ _ => N11
      rename Fr h₀ L' _ _ => F11
      refine done _ _ (fr_dup F11) (fun p hp => N11 p (List.mem_cons_of_mem _ (J1.keep p ?_)))
      refine back_G hU hes (fun q hq => ?_) (fun q hq => ?_) (fun q hq => ?_) p hp
      · rw [hb0]
        simp only [List.mem_cons, List.not_mem_nil, or_false] at hq ⊢
        rcases hq with h | h | h | h | h | h | h | h <;> simp [h]
      · rw [hb0]
        simp only [List.mem_cons, List.not_mem_nil, or_false] at hq ⊢
        rcases hq with h | h | h <;> simp [h]
      · rw [hb0, hbase]
        simp only [List.mem_cons, List.mem_append]
        have hq : q ∈ rms G [an, x, d] := hq
        simp [hq]
end Mine
end
section
open PySem PySem.W PySem.Calls PyProof.Rows PyProof.Rows.LCg
set_option maxRecDepth 100000
set_option maxHeartbeats 1000000
namespace Mine
theorem fresh_E31 : True := by
  w_top off
  trivial
local macro_rules | `(tactic| k_room) => `(tactic| ktr_room)
local macro_rules | `(tactic| walk_at "getAttr ref") => `(tactic| (k_here; k_dflt (first
  | refine' get_ownS ?k1 ?k2 ?k3 ?k4 ?k5 ?k6 ?k7 ?k8 ?k9 ?_; (case k1 => k_asm); (case k2 => k_asm); (case k3 => k_inst); (case k4 => k_is); (case k5 => k_is); (case k6 => k_is); (case k7 => k_is); (case k8 => k_get); (case k9 => k_handed); k_whole
  | refine' get_ownD ?k1 ?k2 ?k3 ?k4 ?k5 ?k6 ?k7 ?kt ?k8 ?k9 ?_; (case k1 => k_asm); (case k2 => k_asm); (case k3 => k_inst); (case k4 => k_is); (case k5 => k_is); (case k6 => k_is); (case k7 => k_is); (case kt => k_is); (case k8 => k_get); (case k9 => k_handed); k_whole)))
local macro_rules | `(tactic| walk_at "getMethod ref") => `(tactic| (k_here; k_dflt (first
  | refine' method_instS ?k1 ?k2 ?k3 ?k4 ?k5 ?k6 ?k7 ?_; (case k1 => k_asm); (case k2 => k_asm); (case k3 => k_inst); (case k4 => k_is); (case k5 => k_is); (case k6 => k_is); (case k7 => k_get); k_whole
  | refine' method_getS ?k1 ?k2 ?_; (case k1 => k_asm); (case k2 => k_mem); k_whole)))
local macro_rules | `(tactic| k_all) => `(tactic| exact far_of (by assumption) (by omega))
local macro_rules | `(tactic| walk_at "call builtin:dict.get") => `(tactic| (k_here; k_dflt (refine' getS_miss ?k1 ?k2 ?k3 ?k4 ?k5 ?_; (case k1 => k_asm); (case k2 => k_mem); (case k3 => k_keys); (case k4 => k_get); (case k5 => k_asm); k_whole)))
local macro_rules | `(tactic| walk_at "setItem ref str") => `(tactic| (k_here; k_dflt (refine' setS_new ?k1 ?k2 ?k3 ?k4 ?k5 ?k6 ?_; (case k1 => k_asm); (case k2 => k_asm); (case k6 => k_upd); (case k3 => k_keys); (case k4 => k_get); (case k5 => (rw [sizeLine_eq]; exact Nat.le_of_ble_eq_true (by with_unfolding_all rfl))); k_whole; intro h' F' N'; (try dsimp only [List.cons_append, List.nil_append] at N'); (try k_sweep))))
local macro_rules | `(tactic| walk_at "call builtin:dict.clear") => `(tactic| (k_here; k_dflt (refine' clear_K (knd := PySem.strKind _ _) ?k1 ?k2 ?k3 ?k4 ?_; (case k1 => k_asm); (case k2 => k_asm); (case k3 => k_updF); (case k4 => assumption); k_whole; intro h' o' F' N' hd'; (try dsimp only [List.cons_append, List.nil_append] at N'); (try k_sweep))))
local macro_rules | `(tactic| k_all) => `(tactic| with_reducible assumption)
local macro_rules | `(tactic| k_ne) => `(tactic| (refine neN ?_; (try dsimp only); first | with_reducible assumption | (refine Ne.symm ?_; with_reducible assumption)))
/-- the first row of the law's last loop: a maker makes its graph -/
theorem law_T0 {w : World} {s : Shared} {p : Program} {loose : List Str} {mean : ExcName → Option Value} {mg mb : Str → Option Value} {h₀ h' : Heap} {L' fa LA VA : Nat} {cd : Value} {tk ku kl : Nat} {uv lv : List Value} {us ls : List Int} {way : Int} {tw : Tok} {m₁ : Str → Option Value} {o1 : Obj} {v0 : Option Value} {rest : List (Addr × Obj)} {Q : Flow → Shared → Prop} {E : Value → Shared → Prop} (hway : way = 0 ∨ way = 1 ∨ way = 2) :
    Below callerA h₀ [] h₀ → (Mine.LawTop.hd.heap_39 w.params).In h₀ → Top p loose mean mg mb h₀ →
    Fr h₀ L' h' (fun y => if y = PySem.Str.ofString "way" then some (Value.int way tw) else if y = PySem.Str.ofString "upper" then some (Value.ref VA) else if y = PySem.Str.ofString "lower" then some (Value.ref LA) else m₁ y) →
    News h₀ L' h' ((LA, listOf lv.toArray kl) :: (VA, listOf uv.toArray ku) :: (L' + 1 + 1 + 1 + 1, o1) :: rest) → @Ne Nat LA (L' + 1 + 1 + 1 + 1) → @Ne Nat VA (L' + 1 + 1 + 1 + 1) → (∀ p ∈ rest, @Ne Nat p.1 (L' + 1 + 1 + 1 + 1)) → o1.data = .cell v0 → IntsAre lv ls → IntsAre uv us → ls.length = 5 → us.length ≤ 5 → ls.sum = us.sum → (∀ y ∈ ls, 0 ≤ y ∧ y ≤ 8) → (∀ y ∈ us, 1 ≤ y ∧ y ≤ 8) →
    (∀ h' tk o1' G' x d ag an aa t0 t1 t2 f' nv ta tb t3 gk Ad st, Fr h₀ L' h' (fun y => if y = PySem.Str.ofString "way" then some (Value.int way tw) else if y = PySem.Str.ofString "upper" then some (Value.ref VA) else if y = PySem.Str.ofString "lower" then some (Value.ref LA) else m₁ y) → News h₀ L' h' (((LA, listOf lv.toArray kl) :: (VA, listOf uv.toArray ku) :: (L' + 1 + 1 + 1 + 1, o1') :: rest) ++ G') → Apart ((LA, listOf lv.toArray kl) :: (VA, listOf uv.toArray ku) :: (L' + 1 + 1 + 1 + 1, o1') :: rest) G' → o1'.data = .cell (some (.ref x)) →
      GI PySem.Challenge.rw_ez0195_01.row.prog w G' x d ag an aa [kE w "graph" t0 ag, kE w "_node" t1 an, kE w "_adj" t2 aa, kE w "adj" t3 aa, kE w "nodes" 777 nv] 5 f' (ls.length + us.length) Ad (fun v => [(PySem.Str.ofString "bipartite", if v < ls.length then .int 0 ta else .int 1 tb)]) gk → AdjOf Ad st.N (ls.length + us.length) → LawPE way ls us st →
      wpN (model PySem.Challenge.rw_ez0195_01.row.prog w) (callerA.deeper (lawEnv L' fa cd)) (execs ((forBody ((recOf Mine.LawTop.hd).body.drop 10)).drop 1) (lawEnv L' fa cd)) Q E { s with heap := h', toks := tk }) →
    wpN (model PySem.Challenge.rw_ez0195_01.row.prog w) (callerA.deeper (lawEnv L' fa cd)) (execs (forBody ((recOf Mine.LawTop.hd).body.drop 10)) (lawEnv L' fa cd)) Q E { s with heap := h', toks := tk } := by
  k_fill
  intro B' X T FF NN ne1 ne2 ne3 hd1 hI1 hI2 hl1 hl2 hsum hb1 hb2 done
  dsimp only [recOf, lawEnv, List.drop, forBody]
  refine n_execs (n_assign (n_callName ?_))
  k_steps
  refine n_callK (K := Mine.LawTop.hd.heap_39 w.params) X (by k_is) ?_
  k_steps
  rename News h₀ L' _ _ => N2
  rename Fr h₀ L' _ _ => F2
  refine' made_N (base := h₀) hway B' F2 X N2 T ?hd ?hu ⟨(L' + 1 + 1 + 1 + 1, o1), by simp, by show 1 < L' + 1 + 1 + 1 + 1; omega⟩ hI1 hI2 hl1 hl2 hsum hb1 hb2 ?_
  case hd => ktr_room
  case hu => ktr_units
  intro h3 tk3 G' x d ag an aa t0 t1 t2 f' nv ta tb t3 gk Ad st F3 N3 ap gi adj pe
  have hg : ∀ q ∈ G', @Ne Nat q.1 (L' + 1 + 1 + 1 + 1) := fun q hq => Ne.symm (ap (L' + 1 + 1 + 1 + 1, o1) (by simp) q hq)
  refine storeX_C (o := o1) (news := (L' + 1 + 1 + 1 + 1, o1) :: ((LA, listOf lv.toArray kl) :: (VA, listOf uv.toArray ku) :: rest ++ G')) (c := L' + 1 + 1 + 1 + 1) F3 (fun p hp => N3 p ?_) rfl (.head ?_) hd1 ?_ rfl rfl
  · simp only [List.mem_cons, List.mem_append, List.cons_append] at hp ⊢
    rcases hp with h | h | h | h | h <;> simp [h]
  · intro p hp
    simp only [List.mem_cons, List.mem_append, List.cons_append] at hp
    rcases hp with h | h | h | h
    · rw [h]; exact ne1
    · rw [h]; exact ne2
    · exact ne3 p h
    · exact hg p h
  intro h4 o1' F4 N4 hd4
  refine done _ _ o1' G' x d ag an aa t0 t1 t2 f' nv ta tb t3 gk Ad st F4 (fun p hp => N4 p ?_) (fun p hp q hq => ?_) hd4 gi adj pe
  · simp only [List.mem_cons, List.mem_append, List.cons_append] at hp ⊢
    rcases hp with h | h | h | h | h <;> simp [h]
  · simp only [List.mem_cons] at hp
    rcases hp with h | h | h | h
    · rw [h]; exact ap (LA, listOf lv.toArray kl) (by simp) q hq
    · rw [h]; exact ap (VA, listOf uv.toArray ku) (by simp) q hq
    · rw [h]; exact ap (L' + 1 + 1 + 1 + 1, o1) (by simp) q hq
    · exact ap p (by simp [h]) q hq
end Mine
end
section
namespace Mine
section
variable {ls us fs : List Int}
theorem asked_get {i : Nat} : (ls ++ us).getD i 0 = askedOf ls us i := by
  show _ = (if i < ls.length then ls.getD i 0 else us.getD (i - ls.length) 0)
  by_cases q : i < ls.length
  · rw [if_pos q]
    simp [List.getD_eq_getElem?_getD, List.getElem?_append_left q]
  · rw [if_neg q]
    simp [List.getD_eq_getElem?_getD, List.getElem?_append_right (Nat.le_of_not_lt q)]
theorem deg_get {n i : Nat} {d : Nat → Int} (h : i < n) : ((List.range n).map d).getD i 0 = d i := by
  simp [List.getD_eq_getElem?_getD, h]
theorem deg_eq {n : Nat} {d : Nat → Int} (hn : n = ls.length + us.length) : (List.range n).map d = ls ++ us ↔ ∀ v, v < n → d v = askedOf ls us v := by
  constructor
  · intro h v hv
    rw [← deg_get (d := d) hv, h, asked_get]
  · intro h
    apply List.ext_getElem
    · simp [hn]
    · intro i h1 h2
      have hi : i < n := by simpa using h1
      have e := h i hi
      rw [← asked_get] at e
      simp only [List.getElem_map, List.getElem_range]
      rw [e]
      simp [List.getD_eq_getElem?_getD, List.getElem?_eq_getElem h2]
theorem min_cast {k : Nat} : ∀ {l : List Int}, (∀ y ∈ l, 0 ≤ y) → ((cap (l.map Int.toNat) k : Nat) : Int) = (l.map fun d => min d (k : Int)).sum := by
  intro l
  induction l with
  | nil => intro _; rfl
  | cons y l ih =>
    intro h
    have a := ih fun z hz => h z (List.mem_cons_of_mem _ hz)
    have b := h y List.mem_cons_self
    rw [List.map_cons, cap_cons, List.map_cons, List.sum_cons]
    omega
theorem GRof_ineq (hb1 : ∀ y ∈ ls, 0 ≤ y) (hb2 : ∀ y ∈ us, 0 ≤ y) (hp : fs.Perm us) (hf : fs.Pairwise fun x y => y ≤ x) :
    GRof ls us ↔ ∀ j, 1 ≤ j → j ≤ us.length → (fs.take j).sum ≤ (ls.map fun d => min d (j : Int)).sum := by
  have hF : (fs.map Int.toNat).Pairwise fun a b => b ≤ a := by
    rw [List.pairwise_map]
    exact hf.imp fun {a b} h => by omega
  rw [GRof, GR_falling hF (hp.map _), List.length_map, hp.length_eq]
  have hfn : ∀ y ∈ fs, 0 ≤ y := fun y hy => hb2 y (hp.mem_iff.mp hy)
  have key : ∀ j, (((fs.map Int.toNat).take j).sum ≤ cap (ls.map Int.toNat) j) ↔ (fs.take j).sum ≤ (ls.map fun d => min d (j : Int)).sum := fun j => by
    have e1 := toNat_sum (l := fs.take j) fun y hy => hfn y (List.mem_of_mem_take hy)
    have e2 := min_cast (k := j) hb1
    rw [← List.map_take]
    omega
  exact ⟨fun h j j1 j2 => (key j).mp (h j j1 j2), fun h j j1 j2 => (key j).mpr (h j j1 j2)⟩
end
end Mine
end
section



open PySem PySem.W PySem.Calls PyProof.Rows PyProof.Rows.LCg
set_option maxRecDepth 100000
set_option maxHeartbeats 1000000
namespace Mine
local macro_rules | `(tactic| k_room) => `(tactic| ktr_room)
local macro_rules | `(tactic| walk_at "getAttr ref") => `(tactic| (k_here; k_dflt (first
  | refine' get_ownS ?k1 ?k2 ?k3 ?k4 ?k5 ?k6 ?k7 ?k8 ?k9 ?_; (case k1 => k_asm); (case k2 => k_asm); (case k3 => k_inst); (case k4 => k_is); (case k5 => k_is); (case k6 => k_is); (case k7 => k_is); (case k8 => k_get); (case k9 => k_handed); k_whole
  | refine' get_ownD ?k1 ?k2 ?k3 ?k4 ?k5 ?k6 ?k7 ?kt ?k8 ?k9 ?_; (case k1 => k_asm); (case k2 => k_asm); (case k3 => k_inst); (case k4 => k_is); (case k5 => k_is); (case k6 => k_is); (case k7 => k_is); (case kt => k_is); (case k8 => k_get); (case k9 => k_handed); k_whole)))
local macro_rules | `(tactic| walk_at "getMethod ref") => `(tactic| (k_here; k_dflt (first
  | refine' method_instS ?k1 ?k2 ?k3 ?k4 ?k5 ?k6 ?k7 ?_; (case k1 => k_asm); (case k2 => k_asm); (case k3 => k_inst); (case k4 => k_is); (case k5 => k_is); (case k6 => k_is); (case k7 => k_get); k_whole
  | refine' method_getS ?k1 ?k2 ?_; (case k1 => k_asm); (case k2 => k_mem); k_whole)))
local macro_rules | `(tactic| k_all) => `(tactic| exact far_of (by assumption) (by omega))
local macro_rules | `(tactic| walk_at "call builtin:dict.get") => `(tactic| (k_here; k_dflt (refine' getS_miss ?k1 ?k2 ?k3 ?k4 ?k5 ?_; (case k1 => k_asm); (case k2 => k_mem); (case k3 => k_keys); (case k4 => k_get); (case k5 => k_asm); k_whole)))
local macro_rules | `(tactic| walk_at "setItem ref str") => `(tactic| (k_here; k_dflt (refine' setS_new ?k1 ?k2 ?k3 ?k4 ?k5 ?k6 ?_; (case k1 => k_asm); (case k2 => k_asm); (case k6 => k_upd); (case k3 => k_keys); (case k4 => k_get); (case k5 => (rw [sizeLine_eq]; exact Nat.le_of_ble_eq_true (by with_unfolding_all rfl))); k_whole; intro h' F' N'; (try dsimp only [List.cons_append, List.nil_append] at N'); (try k_sweep))))
local macro_rules | `(tactic| walk_at "call builtin:dict.clear") => `(tactic| (k_here; k_dflt (refine' clear_K (knd := PySem.strKind _ _) ?k1 ?k2 ?k3 ?k4 ?_; (case k1 => k_asm); (case k2 => k_asm); (case k3 => k_updF); (case k4 => assumption); k_whole; intro h' o' F' N' hd'; (try dsimp only [List.cons_append, List.nil_append] at N'); (try k_sweep))))
local macro_rules | `(tactic| k_all) => `(tactic| with_reducible assumption)
local macro_rules | `(tactic| k_ne) => `(tactic| (refine neN ?_; (try dsimp only); first | with_reducible assumption | (refine Ne.symm ?_; with_reducible assumption)))
theorem pull_ne {c : Prop} [Decidable c] {a b r : Option Value} (h : ¬c) (e : b = r) : (if c then a else b) = r := (if_neg h).trans e
theorem pull_eq {c : Prop} [Decidable c] {a b : Option Value} (h : c) : (if c then a else b) = a := if_pos h
/-- one turn of the law's last loop -/
theorem law_F {w : World} {s : Shared} {p : Program} {loose : List Str} {mean : ExcName → Option Value} {mg mb : Str → Option Value} {h₀ h' : Heap} {L' fa LA VA AA I : Nat} {cd : Value} {tk ku kl ca : Nat} {uv lv av : List Value} {us ls : List Int} {way : Int} {tw : Tok} {b : Bool} {m : Str → Option Value} {o1 o2 o3 o4 oI : Obj} {v0 : Option Value} {Q : Flow → Shared → Prop} {E : Value → Shared → Prop} (hway : way = 0 ∨ way = 1 ∨ way = 2) :
    Below callerA h₀ [] h₀ → (Mine.LawTop.hd.heap_39 w.params).In h₀ → Top p loose mean mg mb h₀ → Fr h₀ L' h' m → m (PySem.Str.ofString "good") = some (Value.bool true) → m (PySem.Str.ofString "asked") = some (Value.ref AA) → m (PySem.Str.ofString "upper") = some (Value.ref VA) → m (PySem.Str.ofString "lower") = some (Value.ref LA) → m (PySem.Str.ofString "holds") = some (Value.bool b) → m (PySem.Str.ofString "way") = some (Value.int way tw) →
    News h₀ L' h' [(LA, listOf lv.toArray kl), (VA, listOf uv.toArray ku), (L' + 1 + 1 + 1 + 1, o1), (AA, listOf av.toArray ca), (I, oI), (L' + 1 + 1 + 1, o2), (L' + 1 + 1, o3), (L' + 1, o4)] → (@Ne Nat LA (L' + 1 + 1 + 1 + 1) ∧ @Ne Nat VA (L' + 1 + 1 + 1 + 1) ∧ @Ne Nat AA (L' + 1 + 1 + 1 + 1) ∧ @Ne Nat I (L' + 1 + 1 + 1 + 1) ∧ @Ne Nat LA VA) → o1.data = .cell v0 →
    IntsAre lv ls → IntsAre uv us → IntsAre av (ls ++ us) → ls.length = 5 → us.length ≤ 5 → ls.sum = us.sum → (∀ y ∈ ls, 0 ≤ y ∧ y ≤ 8) → (∀ y ∈ us, 1 ≤ y ∧ y ≤ 8) → (b = true ↔ GRof ls us) →
    (∀ h' tk m o1 v0, Fr h₀ L' h' m → m (PySem.Str.ofString "good") = some (Value.bool true) → m (PySem.Str.ofString "asked") = some (Value.ref AA) → m (PySem.Str.ofString "upper") = some (Value.ref VA) → m (PySem.Str.ofString "lower") = some (Value.ref LA) → m (PySem.Str.ofString "holds") = some (Value.bool b) → News h₀ L' h' [(LA, listOf lv.toArray kl), (VA, listOf uv.toArray ku), (L' + 1 + 1 + 1 + 1, o1), (AA, listOf av.toArray ca), (I, oI), (L' + 1 + 1 + 1, o2), (L' + 1 + 1, o3), (L' + 1, o4)] → o1.data = .cell v0 → Q .next { s with heap := h', toks := tk }) →
    wpN (model PySem.Challenge.rw_ez0195_01.row.prog w) (callerA.deeper (lawEnv L' fa cd)) (execs (forBody ((recOf Mine.LawTop.hd).body.drop 10)) (lawEnv L' fa cd)) Q E { s with heap := h', toks := tk } := by
  k_fill
  intro B' X T F0 fg fa' fu fl fh fw N0 ne hv1 hI1 hI2 hI3 hl1 hl2 hsum hb1 hb2 hGR done
  refine law_T0 (rest := [(AA, listOf av.toArray ca), (I, oI), (L' + 1 + 1 + 1, o2), (L' + 1 + 1, o3), (L' + 1, o4)]) hway B' X T (fr_pull (PySem.Str.ofString "way") (fr_pull (PySem.Str.ofString "upper") (fr_pull (PySem.Str.ofString "lower") F0 fl) (pull_ne (by decide) fu)) (pull_ne (by decide) (pull_ne (by decide) fw))) N0 ne.1 ne.2.1 ?hr hv1 hI1 hI2 hl1 hl2 hsum hb1 hb2 ?_
  case hr =>
    intro p hp
    simp only [List.mem_cons, List.not_mem_nil, or_false] at hp
    rcases hp with h | h | h | h | h <;> rw [h]
    · exact ne.2.2.1
    · exact ne.2.2.2.1
    · show @Ne Nat (L' + 1 + 1 + 1) (L' + 1 + 1 + 1 + 1); omega
    · show @Ne Nat (L' + 1 + 1) (L' + 1 + 1 + 1 + 1); omega
    · show @Ne Nat (L' + 1) (L' + 1 + 1 + 1 + 1); omega
  intro h5 tk5 o1' G' x d ag an aa t0 t1 t2 f' nv ta tb t3 gk Ad st F5 N5 ap d5 gi adj pe
  obtain ⟨m1, F5a, fg1, fa'1, fu1, fl1, fh1, fw1⟩ : ∃ m9 : Str → Option Value, Fr h₀ L' h5 m9 ∧ m9 (PySem.Str.ofString "good") = some (Value.bool true) ∧ m9 (PySem.Str.ofString "asked") = some (Value.ref AA) ∧ m9 (PySem.Str.ofString "upper") = some (Value.ref VA) ∧ m9 (PySem.Str.ofString "lower") = some (Value.ref LA) ∧ m9 (PySem.Str.ofString "holds") = some (Value.bool b) ∧ m9 (PySem.Str.ofString "way") = some (Value.int way tw) := ⟨_, F5, (pull_ne (by decide) (pull_ne (by decide) (pull_ne (by decide) fg))), (pull_ne (by decide) (pull_ne (by decide) (pull_ne (by decide) fa'))), (pull_ne (by decide) (pull_eq rfl)), (pull_ne (by decide) (pull_ne (by decide) (pull_eq rfl))), (pull_ne (by decide) (pull_ne (by decide) (pull_ne (by decide) fh))), (pull_eq rfl)⟩
  have N5a : News h₀ L' h5 ([(I, oI), (AA, listOf av.toArray ca), (VA, listOf uv.toArray ku), (LA, listOf lv.toArray kl), (L' + 1 + 1 + 1 + 1, o1'), (L' + 1 + 1 + 1, o2), (L' + 1 + 1, o3), (L' + 1, o4)] ++ G') := fun p hp => N5 p (by simp only [List.mem_cons, List.mem_append, List.cons_append, List.nil_append, List.not_mem_nil, or_false, false_or] at hp ⊢; rcases hp with h | h | h | h | h | h | h | h | h <;> simp [h])
  have apS : Apart [(I, oI), (AA, listOf av.toArray ca), (VA, listOf uv.toArray ku), (LA, listOf lv.toArray kl), (L' + 1 + 1 + 1 + 1, o1'), (L' + 1 + 1 + 1, o2), (L' + 1 + 1, o3), (L' + 1, o4)] G' := fun p hp q hq => ap p (by simp only [List.mem_cons, List.not_mem_nil, or_false] at hp ⊢; rcases hp with h | h | h | h | h | h | h | h <;> simp [h]) q hq
  clear N5 F5 ap
  have len8 : ∀ v, v < ls.length + us.length → (st.N v).length ≤ 8 := fun v hv => by
    have a := pe.1.2 v hv
    have c : askedOf ls us v ≤ 8 := by
      show (if v < ls.length then ls.getD v 0 else us.getD (v - ls.length) 0) ≤ 8
      split
      · exact (hb1 _ (getD_at (by assumption))).2
      · exact (hb2 _ (getD_at (l := us) (i := v - ls.length) (by omega))).2
    omega
  refine law_T1 (oA := oI) B' X T (fr_pull (PySem.Str.ofString "good") (fr_pull (PySem.Str.ofString "asked") F5a fa'1) (pull_ne (by decide) fg1)) N5a apS gi d5 hI3 hl1 hl2 ?_
  intro h6 tk6 F6 N6
  refine law_T2 (oA := oI) B' X T F6 N6 apS gi adj (fun v hv => pe.1.1 v hv) len8 d5 hl1 hl2 ?_
  intro h7 tk7 F7 N7
  refine law_T3 (oA := oI) B' X T F7 N7 apS gi adj len8 d5 hl1 hl2 ?_
  intro h8 tk8 DG dv F8 N8 off8 hI8
  have neDA : @Ne Nat DG AA := Ne.symm (off1_all off8 (AA, listOf av.toArray ca) (by simp))
  have hd8 : ((List.range (ls.length + us.length)).map fun v => ((st.N v).length : Int)).length = ls.length + us.length := by rw [List.length_map, List.length_range]
  have N8a : News h₀ L' h8 ((DG, listOf dv.toArray dv.length) :: (AA, listOf av.toArray ca) :: ([(I, oI), (VA, listOf uv.toArray ku), (LA, listOf lv.toArray kl), (L' + 1 + 1 + 1 + 1, o1'), (L' + 1 + 1 + 1, o2), (L' + 1 + 1, o3), (L' + 1, o4)] ++ G')) := fun p hp => N8 p (by simp only [List.mem_cons, List.mem_append, List.cons_append, List.nil_append, List.not_mem_nil, or_false, false_or] at hp ⊢; rcases hp with h | h | h | h | h | h | h | h | h | h <;> simp [h])
  clear N8 N7 N6 N5a F7 F6
  refine law_T4 (n := ls.length + us.length) B' X T F8 N8a neDA hI8 hI3 hd8 (by rw [List.length_append]) (by omega) (fun i hi => ?hle) ?_
  case hle => rw [deg_get hi, asked_get]; exact pe.1.2 i hi
  intro h9 tk9 F9 N9
  obtain ⟨m2, F9a, fg2, fa'2, fu2, fl2, fh2, fw2, fd2⟩ : ∃ m9 : Str → Option Value, Fr h₀ L' h9 m9 ∧ m9 (PySem.Str.ofString "good") = some (Value.bool true) ∧ m9 (PySem.Str.ofString "asked") = some (Value.ref AA) ∧ m9 (PySem.Str.ofString "upper") = some (Value.ref VA) ∧ m9 (PySem.Str.ofString "lower") = some (Value.ref LA) ∧ m9 (PySem.Str.ofString "holds") = some (Value.bool b) ∧ m9 (PySem.Str.ofString "way") = some (Value.int way tw) ∧ m9 (PySem.Str.ofString "degrees") = some (Value.ref DG) := ⟨_, F9, (pull_eq rfl), (pull_ne (by decide) (pull_ne (by decide) (pull_ne (by decide) (pull_eq rfl)))), (pull_ne (by decide) (pull_ne (by decide) (pull_ne (by decide) (pull_ne (by decide) fu1)))), (pull_ne (by decide) (pull_ne (by decide) (pull_ne (by decide) (pull_ne (by decide) fl1)))), (pull_ne (by decide) (pull_ne (by decide) (pull_ne (by decide) (pull_ne (by decide) fh1)))), (pull_ne (by decide) (pull_ne (by decide) (pull_ne (by decide) (pull_ne (by decide) fw1)))), (pull_ne (by decide) (pull_eq rfl))⟩
  have N9a : News h₀ L' h9 ((LA, listOf lv.toArray kl) :: (VA, listOf uv.toArray ku) :: ([(DG, listOf dv.toArray dv.length), (AA, listOf av.toArray ca), (I, oI), (L' + 1 + 1 + 1 + 1, o1'), (L' + 1 + 1 + 1, o2), (L' + 1 + 1, o3), (L' + 1, o4)] ++ G')) := fun p hp => N9 p (by simp only [List.mem_cons, List.mem_append, List.cons_append, List.nil_append, List.not_mem_nil, or_false, false_or] at hp ⊢; rcases hp with h | h | h | h | h | h | h | h | h | h <;> simp [h])
  refine law_T5 hway B' X T (fr_pull (PySem.Str.ofString "good") (fr_pull (PySem.Str.ofString "way") (fr_pull (PySem.Str.ofString "upper") (fr_pull (PySem.Str.ofString "lower") F9a fl2) (pull_ne (by decide) fu2)) (pull_ne (by decide) (pull_ne (by decide) fw2))) (pull_ne (by decide) (pull_ne (by decide) (pull_ne (by decide) fg2)))) N9a ne.2.2.2.2 ⟨(L' + 1 + 1 + 1 + 1, o1'), by simp, by show 1 < L' + 1 + 1 + 1 + 1; omega⟩ hI1 hI2 hl1 hl2 hsum hb1 hb2 ?_
  intro h10 tk10 F10 N10
  obtain ⟨m3, F10a, fg3, fa'3, fu3, fl3, fh3, fw3, fd3⟩ : ∃ m9 : Str → Option Value, Fr h₀ L' h10 m9 ∧ m9 (PySem.Str.ofString "good") = some (Value.bool true) ∧ m9 (PySem.Str.ofString "asked") = some (Value.ref AA) ∧ m9 (PySem.Str.ofString "upper") = some (Value.ref VA) ∧ m9 (PySem.Str.ofString "lower") = some (Value.ref LA) ∧ m9 (PySem.Str.ofString "holds") = some (Value.bool b) ∧ m9 (PySem.Str.ofString "way") = some (Value.int way tw) ∧ m9 (PySem.Str.ofString "degrees") = some (Value.ref DG) := ⟨_, F10, (pull_eq rfl), (pull_ne (by decide) (pull_ne (by decide) (pull_ne (by decide) (pull_ne (by decide) (pull_ne (by decide) fa'2))))), (pull_ne (by decide) (pull_ne (by decide) (pull_ne (by decide) (pull_eq rfl)))), (pull_ne (by decide) (pull_ne (by decide) (pull_ne (by decide) (pull_ne (by decide) (pull_eq rfl))))), (pull_ne (by decide) (pull_ne (by decide) (pull_ne (by decide) (pull_ne (by decide) (pull_ne (by decide) fh2))))), (pull_ne (by decide) (pull_ne (by decide) (pull_eq rfl))), (pull_ne (by decide) (pull_ne (by decide) (pull_ne (by decide) (pull_ne (by decide) (pull_ne (by decide) fd2)))))⟩
  have N10a : News h₀ L' h10 ((DG, listOf dv.toArray dv.length) :: (AA, listOf av.toArray ca) :: ([(LA, listOf lv.toArray kl), (VA, listOf uv.toArray ku), (I, oI), (L' + 1 + 1 + 1 + 1, o1'), (L' + 1 + 1 + 1, o2), (L' + 1 + 1, o3), (L' + 1, o4)] ++ G')) := fun p hp => N10 p (by simp only [List.mem_cons, List.mem_append, List.cons_append, List.nil_append, List.not_mem_nil, or_false, false_or] at hp ⊢; rcases hp with h | h | h | h | h | h | h | h | h | h <;> simp [h])
  refine law_T6 (n := ls.length + us.length) hway B' X T (fr_pull (PySem.Str.ofString "good") (fr_pull (PySem.Str.ofString "way") (fr_pull (PySem.Str.ofString "degrees") (fr_pull (PySem.Str.ofString "asked") (fr_pull (PySem.Str.ofString "holds") F10a fh3) (pull_ne (by decide) fa'3)) (pull_ne (by decide) (pull_ne (by decide) fd3))) (pull_ne (by decide) (pull_ne (by decide) (pull_ne (by decide) fw3)))) (pull_ne (by decide) (pull_ne (by decide) (pull_ne (by decide) (pull_ne (by decide) fg3))))) N10a neDA hI8 hI3 hd8 (by rw [List.length_append]) (by omega) (fun hw => ?hgr) ?_
  case hgr =>
    rw [hGR, ← pe.2 hw]
    exact deg_eq rfl
  intro h11 tk11 F11 N11
  exact done _ _ _ o1' _ F11 (pull_eq rfl) (pull_ne (by decide) (pull_ne (by decide) (pull_ne (by decide) (pull_eq rfl)))) (pull_ne (by decide) (pull_ne (by decide) (pull_ne (by decide) (pull_ne (by decide) (pull_ne (by decide) fu3))))) (pull_ne (by decide) (pull_ne (by decide) (pull_ne (by decide) (pull_ne (by decide) (pull_ne (by decide) fl3))))) (pull_ne (by decide) (pull_ne (by decide) (pull_ne (by decide) (pull_ne (by decide) (pull_eq rfl))))) (fun p hp => N11 p (by simp only [List.mem_cons, List.mem_append, List.cons_append, List.nil_append, List.not_mem_nil, or_false, false_or] at hp ⊢; rcases hp with h | h | h | h | h | h | h | h <;> simp [h])) d5
end Mine
end
section



open PySem PySem.W PySem.Calls PyProof.Rows PyProof.Rows.LCg
set_option maxRecDepth 100000
set_option maxHeartbeats 1000000
namespace Mine
theorem fresh_E33 : True := by
  w_top off
  trivial
local macro_rules | `(tactic| k_room) => `(tactic| ktr_room)
local macro_rules | `(tactic| walk_at "getAttr ref") => `(tactic| (k_here; k_dflt (first
  | refine' get_ownS ?k1 ?k2 ?k3 ?k4 ?k5 ?k6 ?k7 ?k8 ?k9 ?_; (case k1 => k_asm); (case k2 => k_asm); (case k3 => k_inst); (case k4 => k_is); (case k5 => k_is); (case k6 => k_is); (case k7 => k_is); (case k8 => k_get); (case k9 => k_handed); k_whole
  | refine' get_ownD ?k1 ?k2 ?k3 ?k4 ?k5 ?k6 ?k7 ?kt ?k8 ?k9 ?_; (case k1 => k_asm); (case k2 => k_asm); (case k3 => k_inst); (case k4 => k_is); (case k5 => k_is); (case k6 => k_is); (case k7 => k_is); (case kt => k_is); (case k8 => k_get); (case k9 => k_handed); k_whole)))
local macro_rules | `(tactic| walk_at "getMethod ref") => `(tactic| (k_here; k_dflt (first
  | refine' method_instS ?k1 ?k2 ?k3 ?k4 ?k5 ?k6 ?k7 ?_; (case k1 => k_asm); (case k2 => k_asm); (case k3 => k_inst); (case k4 => k_is); (case k5 => k_is); (case k6 => k_is); (case k7 => k_get); k_whole
  | refine' method_getS ?k1 ?k2 ?_; (case k1 => k_asm); (case k2 => k_mem); k_whole)))
local macro_rules | `(tactic| k_all) => `(tactic| exact far_of (by assumption) (by omega))
local macro_rules | `(tactic| walk_at "call builtin:dict.get") => `(tactic| (k_here; k_dflt (refine' getS_miss ?k1 ?k2 ?k3 ?k4 ?k5 ?_; (case k1 => k_asm); (case k2 => k_mem); (case k3 => k_keys); (case k4 => k_get); (case k5 => k_asm); k_whole)))
local macro_rules | `(tactic| walk_at "setItem ref str") => `(tactic| (k_here; k_dflt (refine' setS_new ?k1 ?k2 ?k3 ?k4 ?k5 ?k6 ?_; (case k1 => k_asm); (case k2 => k_asm); (case k6 => k_upd); (case k3 => k_keys); (case k4 => k_get); (case k5 => (rw [sizeLine_eq]; exact Nat.le_of_ble_eq_true (by with_unfolding_all rfl))); k_whole; intro h' F' N'; (try dsimp only [List.cons_append, List.nil_append] at N'); (try k_sweep))))
local macro_rules | `(tactic| walk_at "call builtin:dict.clear") => `(tactic| (k_here; k_dflt (refine' clear_K (knd := PySem.strKind _ _) ?k1 ?k2 ?k3 ?k4 ?_; (case k1 => k_asm); (case k2 => k_asm); (case k3 => k_updF); (case k4 => assumption); k_whole; intro h' o' F' N' hd'; (try dsimp only [List.cons_append, List.nil_append] at N'); (try k_sweep))))
local macro_rules | `(tactic| k_all) => `(tactic| with_reducible assumption)
local macro_rules | `(tactic| walk_at "ForSrc") => `(tactic| (refine Stop.mk ?_))
local macro_rules | `(tactic| walk_at "NextR") => `(tactic| (refine Stop.mk ?_))
local macro_rules | `(tactic| k_ne) => `(tactic| (refine neN ?_; (try dsimp only); first | with_reducible assumption | (refine Ne.symm ?_; with_reducible assumption)))
/-- rows 10 to 12: the last loop, and what the law returns -/
theorem law_W {w : World} {s : Shared} {p : Program} {loose : List Str} {mean : ExcName → Option Value} {mg mb : Str → Option Value} {h₀ h' : Heap} {L' fa D LA VA FA AA ku kl cf ca : Nat} {cd : Value} {o1 o2 o3 o4 : Obj} {tk : Nat} {ys lv uv fv av : List Value} {ls us : List Int} {b : Bool} {m₁ : Str → Option Value} {Q : Flow → Shared → Prop} {E : Value → Shared → Prop} :
    Below callerA h₀ [] h₀ → (Mine.LawTop.hd.heap_39 w.params).In h₀ → Top p loose mean mg mb h₀ →
    Fr h₀ L' h' (fun y => if y = PySem.Str.ofString "holds" then some (Value.bool b) else if y = PySem.Str.ofString "falling" then some (Value.ref FA) else if y = PySem.Str.ofString "asked" then some (Value.ref AA) else if y = PySem.Str.ofString "upper" then some (Value.ref VA) else if y = PySem.Str.ofString "lower" then some (Value.ref LA) else m₁ y) →
    News h₀ L' h' [(FA, listOf fv.toArray cf), (AA, listOf av.toArray ca), (VA, listOf uv.toArray ku), (LA, listOf lv.toArray kl), (D, lst ys), (L' + 1 + 1 + 1 + 1, o1), (L' + 1 + 1 + 1, o2), (L' + 1 + 1, o3), (L' + 1, o4)] →
    (@Ne Nat LA (L' + 1 + 1 + 1 + 1) ∧ @Ne Nat VA (L' + 1 + 1 + 1 + 1) ∧ @Ne Nat AA (L' + 1 + 1 + 1 + 1) ∧ @Ne Nat LA VA) → o1.data = .cell none →
    IntsAre lv ls → IntsAre uv us → IntsAre av (ls ++ us) → ls.length = 5 → us.length ≤ 5 → ls.sum = us.sum → (∀ y ∈ ls, 0 ≤ y ∧ y ≤ 8) → (∀ y ∈ us, 1 ≤ y ∧ y ≤ 8) → (b = true ↔ GRof ls us) →
    (∀ h' tk m, Fr h₀ L' h' m → Q (.ret (.bool true)) { s with heap := h', toks := tk }) →
    wpN (model PySem.Challenge.rw_ez0195_01.row.prog w) (callerA.deeper (lawEnv L' fa cd)) (execs ((recOf Mine.LawTop.hd).body.drop 9) (lawEnv L' fa cd)) Q E { s with heap := h', toks := tk } := by
  k_fill
  intro B' X T FF NN ne d1 hI1 hI2 hI3 hl1 hl2 hsum hb1 hb2 hGR done
  dsimp only [recOf, lawEnv, List.drop]
  refine n_step ?_
  k_steps
  rename News h₀ L' _ _ => N2
  rename Fr h₀ L' _ _ => F2
  refine n_execs (n_for_R (h₀ := h₀) (L := L') (J := fun _ m nw => ∃ (o1 : Obj) (v0 : Option Value), nw = [(LA, listOf lv.toArray kl), (VA, listOf uv.toArray ku), (L' + 1 + 1 + 1 + 1, o1), (AA, listOf av.toArray ca), (L' + 1 + 1 + 1, o2), (L' + 1 + 1, o3), (L' + 1, o4)] ∧ o1.data = .cell v0 ∧ m (PySem.Str.ofString "good") = some (Value.bool true) ∧ m (PySem.Str.ofString "asked") = some (Value.ref AA) ∧ m (PySem.Str.ofString "upper") = some (Value.ref VA) ∧ m (PySem.Str.ofString "lower") = some (Value.ref LA) ∧ m (PySem.Str.ofString "holds") = some (Value.bool b)) rfl ?h (fun _ => rfl) (fun _ _ => rfl))
  case h =>
    k_steps
    refine Stop.out ?_
    rename IsRange _ _ _ _ _ _ _ _ => hir
    rename News h₀ L' _ _ => N3
    rename Fr h₀ L' _ _ => F3
    refine ForSrc.mk 3 hir (by decide) (by decide) F3 (news := [(LA, listOf lv.toArray kl), (VA, listOf uv.toArray ku), (L' + 1 + 1 + 1 + 1, o1), (AA, listOf av.toArray ca), (L' + 1 + 1 + 1, o2), (L' + 1 + 1, o3), (L' + 1, o4)]) (fun p hp => N3 p ?hsub) ⟨o1, none, rfl, d1, pull_eq rfl, pull_ne (by decide) (pull_ne (by decide) (pull_ne (by decide) (pull_eq rfl))), pull_ne (by decide) (pull_ne (by decide) (pull_ne (by decide) (pull_ne (by decide) (pull_eq rfl)))), pull_ne (by decide) (pull_ne (by decide) (pull_ne (by decide) (pull_ne (by decide) (pull_ne (by decide) (pull_eq rfl))))), pull_ne (by decide) (pull_eq rfl)⟩ ?turn ?done
    case hsub =>
      simp only [List.mem_cons, List.not_mem_nil, or_false] at hp ⊢
      rcases hp with h | h | h | h | h | h | h <;> simp [h]
    case turn =>
      rintro I i t m news h3 tk3 oI hi ⟨o1, v1, rfl, hv1, fg, fa', fu, fl, fh⟩ F4 N4 ne4
      clear N3 F3
      have i0 : @Ne Nat (L' + 1 + 1 + 1 + 1) I := ne4 (L' + 1 + 1 + 1 + 1, o1) (by simp)
      have hway : (0 + (i : Int)) = 0 ∨ (0 + (i : Int)) = 1 ∨ (0 + (i : Int)) = 2 := by omega
      obtain ⟨way, hwe⟩ : ∃ way : Int, way = 0 + (i : Int) := ⟨_, rfl⟩
      rw [← hwe] at hway ⊢
      refine wpAny_assign_Name ?_
      k_steps
      rename News h₀ L' _ _ => N5
      rename Fr h₀ L' _ _ => F5
      refine law_F (oI := oI) (o1 := o1) (o2 := o2) (o3 := o3) (o4 := o4) (ku := ku) (kl := kl) (ca := ca) hway B' X T F5 (pull_ne (by decide) fg) (pull_ne (by decide) fa') (pull_ne (by decide) fu) (pull_ne (by decide) fl) (pull_ne (by decide) fh) (pull_eq rfl) (fun p hp => N5 p ?hsub2) ⟨ne.1, ne.2.1, ne.2.2.1, Ne.symm i0, ne.2.2.2⟩ hv1 hI1 hI2 hI3 hl1 hl2 hsum hb1 hb2 hGR ?_
      case hsub2 =>
        simp only [List.mem_cons, List.not_mem_nil, or_false] at hp ⊢
        rcases hp with h | h | h | h | h | h | h | h <;> simp [h]
      intro h6 tk6 m6 o6 v6 F6 g1 g2 g3 g4 g5 N6 hv6
      refine NextR.mk [(LA, listOf lv.toArray kl), (VA, listOf uv.toArray ku), (L' + 1 + 1 + 1 + 1, o6), (AA, listOf av.toArray ca), (L' + 1 + 1 + 1, o2), (L' + 1 + 1, o3), (L' + 1, o4)] F6 N6 ?s1 ?s2 ⟨o6, v6, rfl, hv6, g1, g2, g3, g4, g5⟩
      case s1 =>
        intro p hp
        simp only [List.mem_cons, List.not_mem_nil, or_false] at hp ⊢
        rcases hp with h | h | h | h | h | h | h | h <;> simp [h]
      case s2 =>
        intro p hp
        simp only [List.mem_cons, List.not_mem_nil, or_false] at hp
        rcases hp with h | h | h | h | h | h | h <;> rw [h]
        · exact ne4 (LA, listOf lv.toArray kl) (by simp)
        · exact ne4 (VA, listOf uv.toArray ku) (by simp)
        · exact i0
        · exact ne4 (AA, listOf av.toArray ca) (by simp)
        · exact ne4 (L' + 1 + 1 + 1, o2) (by simp)
        · exact ne4 (L' + 1 + 1, o3) (by simp)
        · exact ne4 (L' + 1, o4) (by simp)
    case done =>
      rintro m news h3 tk3 ⟨o1, v1, rfl, hv1, fg, fa', fu, fl, fh⟩ F4 N4
      clear N3 F3
      replace F4 := fr_pull (PySem.Str.ofString "good") F4 fg
      try dsimp only
      refine n_step ?_
      k_steps
      rename Fr h₀ L' _ _ => F5
      exact done _ _ _ F5
end Mine
end
section
open PySem PySem.W PySem.Calls PyProof.Rows PyProof.Rows.LCg
set_option maxRecDepth 100000
set_option maxHeartbeats 4000000
namespace Mine
theorem fresh_E21 : True := by
  w_top off
  trivial
local macro_rules | `(tactic| k_room) => `(tactic| ktr_room)
local macro_rules | `(tactic| walk_at "getAttr ref") => `(tactic| (k_here; k_dflt (first
  | refine' get_ownS ?k1 ?k2 ?k3 ?k4 ?k5 ?k6 ?k7 ?k8 ?k9 ?_; (case k1 => k_asm); (case k2 => k_asm); (case k3 => k_inst); (case k4 => k_is); (case k5 => k_is); (case k6 => k_is); (case k7 => k_is); (case k8 => k_get); (case k9 => k_handed); k_whole
  | refine' get_ownD ?k1 ?k2 ?k3 ?k4 ?k5 ?k6 ?k7 ?kt ?k8 ?k9 ?_; (case k1 => k_asm); (case k2 => k_asm); (case k3 => k_inst); (case k4 => k_is); (case k5 => k_is); (case k6 => k_is); (case k7 => k_is); (case kt => k_is); (case k8 => k_get); (case k9 => k_handed); k_whole)))
local macro_rules | `(tactic| walk_at "getMethod ref") => `(tactic| (k_here; k_dflt (first
  | refine' method_instS ?k1 ?k2 ?k3 ?k4 ?k5 ?k6 ?k7 ?_; (case k1 => k_asm); (case k2 => k_asm); (case k3 => k_inst); (case k4 => k_is); (case k5 => k_is); (case k6 => k_is); (case k7 => k_get); k_whole
  | refine' method_getS ?k1 ?k2 ?_; (case k1 => k_asm); (case k2 => k_mem); k_whole)))
local macro_rules | `(tactic| k_all) => `(tactic| exact far_of (by assumption) (by omega))
local macro_rules | `(tactic| walk_at "call builtin:dict.get") => `(tactic| (k_here; k_dflt (refine' getS_miss ?k1 ?k2 ?k3 ?k4 ?k5 ?_; (case k1 => k_asm); (case k2 => k_mem); (case k3 => k_keys); (case k4 => k_get); (case k5 => k_asm); k_whole)))
local macro_rules | `(tactic| walk_at "setItem ref str") => `(tactic| (k_here; k_dflt (refine' setS_new ?k1 ?k2 ?k3 ?k4 ?k5 ?k6 ?_; (case k1 => k_asm); (case k2 => k_asm); (case k6 => k_upd); (case k3 => k_keys); (case k4 => k_get); (case k5 => (rw [sizeLine_eq]; exact Nat.le_of_ble_eq_true (by with_unfolding_all rfl))); k_whole; intro h' F' N'; (try dsimp only [List.cons_append, List.nil_append] at N'); (try k_sweep))))
local macro_rules | `(tactic| walk_at "call builtin:dict.clear") => `(tactic| (k_here; k_dflt (refine' clear_K (knd := PySem.strKind _ _) ?k1 ?k2 ?k3 ?k4 ?_; (case k1 => k_asm); (case k2 => k_asm); (case k3 => k_updF); (case k4 => assumption); k_whole; intro h' o' F' N' hd'; (try dsimp only [List.cons_append, List.nil_append] at N'); (try k_sweep))))
local macro_rules | `(tactic| k_all) => `(tactic| with_reducible assumption)
local macro_rules | `(tactic| walk_at "exec Assign cons ListComp") => `(tactic| ((with_reducible show wpAny _ _ (exec (Stmt.Assign _ (Expr.ListComp (Expr.Call _ _ _ _) _ _ _) _) _) _ _ _); refine Stop.mk ?_))
local macro_rules | `(tactic| walk_at "pyIter ref") => `(tactic| (refine Stop.mk ?_))
local macro_rules | `(tactic| walk_at "eval ListComp") => `(tactic| (refine Stop.mk ?_))
local macro_rules | `(tactic| walk_at "EndF") => `(tactic| (refine Stop.mk ?_))
local macro_rules | `(tactic| k_ne) => `(tactic| (refine neN ?_; (try dsimp only); first | with_reducible assumption | (refine Ne.symm ?_; with_reducible assumption)))
/-- rows 2 and 3 -/
theorem law_B {w : World} {s : Shared} {p : Program} {loose : List Str} {mean : ExcName → Option Value} {mg mb : Str → Option Value} {h₀ h' : Heap} {L' fa D : Nat} {cd : Value} {o1 o2 o3 o4 : Obj} {l tk : Nat} {ys : List Value} {ds : List Int} {Q : Flow → Shared → Prop} {E : Value → Shared → Prop} :
    Below callerA h₀ [] h₀ → (Mine.LawTop.hd.heap_39 w.params).In h₀ → Top p loose mean mg mb h₀ → Fr h₀ L' h' (fun _ => none) → News h₀ L' h' [(D, lst ys), (L' + 1 + 1 + 1 + 1, o1), (L' + 1 + 1 + 1, o2), (L' + 1 + 1, o3), (L' + 1, o4)] →
    (@Ne Nat (L' + 1 + 1 + 1 + 1) D ∧ @Ne Nat (L' + 1 + 1 + 1) D ∧ @Ne Nat (L' + 1 + 1) D ∧ @Ne Nat (L' + 1) D) →
    o1.data = .cell none → o2.data = .cell (some (.ref D)) → o3.data = .cell none → o4.data = .cell (some (.ref l)) → IntsAre ys ds → ds.length = 7 →
    (∀ h' tk LA UA lv uv, Fr h₀ L' h' (fun z => if z = PySem.Str.ofString "upper" then some (Value.ref UA) else if z = PySem.Str.ofString "lower" then some (Value.ref LA) else none) →
      News h₀ L' h' [(UA, lst uv), (LA, lst lv), (D, lst ys), (L' + 1 + 1 + 1 + 1, o1), (L' + 1 + 1 + 1, o2), (L' + 1 + 1, o3), (L' + 1, o4)] →
      (@Ne Nat LA UA ∧ @Ne Nat D UA ∧ @Ne Nat (L' + 1 + 1 + 1 + 1) UA ∧ @Ne Nat (L' + 1 + 1 + 1) UA ∧ @Ne Nat (L' + 1 + 1) UA ∧ @Ne Nat (L' + 1) UA) → (@Ne Nat D LA ∧ @Ne Nat (L' + 1 + 1 + 1 + 1) LA ∧ @Ne Nat (L' + 1 + 1 + 1) LA ∧ @Ne Nat (L' + 1 + 1) LA ∧ @Ne Nat (L' + 1) LA) →
      IntsAre lv ((ds.take 5).map rowSum) → IntsAre uv ((List.range 5).map fun c : Nat => ((ds.take 5).map fun r => bit r c).sum) →
      wpN (model PySem.Challenge.rw_ez0195_01.row.prog w) (callerA.deeper (lawEnv L' fa cd)) (execs ((recOf Mine.LawTop.hd).body.drop 3) (lawEnv L' fa cd)) Q E { s with heap := h', toks := tk }) →
    wpN (model PySem.Challenge.rw_ez0195_01.row.prog w) (callerA.deeper (lawEnv L' fa cd)) (execs ((recOf Mine.LawTop.hd).body.drop 1) (lawEnv L' fa cd)) Q E { s with heap := h', toks := tk } := by
  k_fill
  intro B' X T FF NN ne d1 d2 d3 d4 hI8 hd7 done
  dsimp only [recOf, lawEnv, List.drop]
  refine n_step ?_
  k_steps
  refine Stop.out ?_
  refine' Assign_C (h₀ := h₀) (L := L') (m := fun _ => none) ?hLe ?hsw ?hclos ?hc ?hp ?hkind ?hnames ?hx ?hy ?hpp ?_ ?hs
  case hLe => rfl
  case hsw => with_unfolding_all rfl
  case hclos => with_unfolding_all rfl
  case hc => exact fun n => rfl
  case hp => exact fun h => rfl
  case hkind => rfl
  case hnames => decide
  case hx => rfl
  case hy => rfl
  case hpp => rfl
  case hs => exact fun _ => rfl
  k_steps
  refine Stop.out ?_
  rename IntsAre _ (List.take 5 ds) => hI5
  rename (List.take 5 ds).length = _ => hC5
  have hC5' : (List.take 5 ds).length = 5 := by rw [List.length_take, hd7]; rfl
  rename List Value => ws
  rename News h₀ L' _ _ => NN2
  rename Fr h₀ L' _ _ => FF2
  rename PySem.Addr => D2
  rename _ ∧ _ => lD2
  have hw5 : ws.length = 5 := by rw [hI5.length, hC5']
  refine it_list (l := D2) (its := ws.toArray) (by rfl) FF2 NN2 (.inr ⟨_, by simp; exact .inl rfl, rfl, _, rfl⟩) ?_
  intro I h3 fp T3 F3 N3
  refine CompC.mk (fun i zs => IntsAre zs ((ds.take i).map rowSum)) T3 (by rw [sizeLine_eq]; simp; omega) F3 N3 (by simp; exact IntsAre.nil) ?turn ?fin
  case turn =>
    intro i zs hi hJ v oI C oC V oV D9 h4 tk4 E4 hv hoV F4 N4 ne4 off4
    have hi5 : i < 5 := by simpa [hw5] using hi
    obtain ⟨t4, rfl⟩ : ∃ t, v = .int (ds.getD i 0) t := int_at hI5 hi5 hv
    clear NN2 N3 FF2 F3
    k_steps
    refine Stop.out ?_
    refine' ListComp_F (h₀ := h₀) (L := L') (m := fun _ => none) ?hclos2 ?hcell2 ?hkind2 ?hnames2 ?hx2 ?_ ?hs2
    case hclos2 => with_unfolding_all rfl
    case hcell2 => decide
    case hkind2 => rfl
    case hnames2 => decide
    case hx2 => rfl
    case hs2 => exact fun _ => rfl
    k_steps
    refine Stop.out ?_
    rename IsRange _ _ _ _ _ _ _ _ => hir
    rename News h₀ L' _ _ => NN5
    rename Fr h₀ L' _ _ => FF5
    refine it_range (n := 5) (by rfl) FF5 NN5 hir (by decide) (by decide) ?_
    intro I2 h6 T6 F6 N6
    refine CompF.mk (fun j zs => IntsAre zs ((List.range j).map fun c : Nat => bit (ds.getD i 0) c)) T6 (by rw [sizeLine_eq]; omega) F6 N6 IntsAre.nil ?turn2 ?fin2
    case turn2 =>
      intro j zs2 hj hJ2 v2 I3 oI3 C3 oC3 D3 m3 h7 tk7 E7 hv2 hoC3 hm3 F7 N7 off7 ne7
      obtain ⟨t7, rfl⟩ := hv2
      clear NN5 N6 FF5 F6
      k_steps
      refine Stop.out ?_
      refine EndF.intro F7 N7 (fun p hp => hp) ?_
      rw [List.range_succ, List.map_append]
      have e : (0 + (j : Int)).toNat = j := by omega
      rw [e]
      exact ints_snoc hJ2
    case fin2 =>
      intro zs2 hJ2
      unfold LCg.FinE
      intro D3 h7 tk7 F7 N7 off7
      clear NN5 N6 FF5 F6
      k_steps
      refine Stop.out ?_
      rename News h₀ L' _ _ => N9
      rename Fr h₀ L' _ _ => F9
      refine EndF.intro F9 N9 (fun p hp => List.mem_cons_of_mem _ hp) ?_
      rw [take_snoc_map rowSum (by omega)]
      exact ints_snoc hJ
  case fin =>
    intro zs hJ
    unfold LCg.FinA
    intro LA h8 tk8 F8 N8 off8
    have hJ : IntsAre zs ((ds.take 5).map rowSum) := by
      have e : ws.toArray.size = 5 := by simp [hw5]
      rw [e] at hJ
      exact hJ
    clear NN2 N3 FF2 F3
    try dsimp only
    refine n_step ?_
    k_steps
    refine Stop.out ?_
    refine' Assign_C (h₀ := h₀) (L := L') (m := fun z => if z = PySem.Str.ofString "lower" then some (Value.ref LA) else none) ?hLe ?hsw ?hclos ?hc ?hp ?hkind ?hnames ?hx ?hy ?hpp ?_ ?hs
    case hLe => rfl
    case hsw => with_unfolding_all rfl
    case hclos => with_unfolding_all rfl
    case hc => exact fun n => rfl
    case hp => exact fun h => rfl
    case hkind => rfl
    case hnames => decide
    case hx => rfl
    case hy => rfl
    case hpp => rfl
    case hs => exact fun _ => rfl
    k_steps
    refine Stop.out ?_
    rename IsRange _ _ _ _ _ _ _ _ => hir
    rename News h₀ L' _ _ => NN5
    rename Fr h₀ L' _ _ => FF5
    refine it_range (n := 5) (by rfl) FF5 NN5 hir (by decide) (by decide) ?_
    intro I2 h6 T6 F6 N6
    refine CompC.mk (fun c zs => IntsAre zs ((List.range c).map fun c : Nat => ((ds.take 5).map fun r => bit r c).sum)) T6 (by rw [sizeLine_eq]; omega) F6 N6 IntsAre.nil ?turn ?fin
    case turn =>
      intro c zs3 hc5 hJ3 v oI C oC V oV D9 h4 tk4 E4 hv hoV F4 N4 ne4 off4
      obtain ⟨t4, rfl⟩ := hv
      clear NN5 N6 FF5 F6
      k_steps
      refine Stop.out ?_
      refine' ListComp_F (h₀ := h₀) (L := L') (m := fun z => if z = PySem.Str.ofString "lower" then some (Value.ref LA) else none) ?hclos2 ?hcell2 ?hkind2 ?hnames2 ?hx2 ?_ ?hs2
      case hclos2 => with_unfolding_all rfl
      case hcell2 => decide
      case hkind2 => rfl
      case hnames2 => decide
      case hx2 => rfl
      case hs2 => exact fun _ => rfl
      k_steps
      refine Stop.out ?_
      rename IntsAre _ (List.take 5 ds) => hI5
      rename (List.take 5 ds).length = _ => hC5
      rename List Value => ws2
      rename News h₀ L' _ _ => NN7
      rename Fr h₀ L' _ _ => FF7
      rename PySem.Addr => D7
      rename _ ∧ _ => lD7
      have hC5' : (List.take 5 ds).length = 5 := by rw [List.length_take, hd7]; rfl
      have hw52 : ws2.length = 5 := by rw [hI5.length, hC5']
      refine it_list (l := D7) (its := ws2.toArray) (by rfl) FF7 NN7 (.inr ⟨_, by simp; exact .inl rfl, rfl, _, rfl⟩) ?_
      intro I3 h9 fp9 T9 F9 N9
      refine CompF.mk (fun j zs => IntsAre zs ((ds.take j).map fun r => bit r c)) T9 (by rw [sizeLine_eq]; simp; omega) F9 N9 (by simp; exact IntsAre.nil) ?turn2 ?fin2
      case turn2 =>
        intro j zs2 hj hJ2 v2 I4 oI4 C4 oC4 D4 m4 h10 tk10 E10 hv2 hoC4 hm4 F10 N10 off10 ne10
        have hj5 : j < 5 := by simpa [hw52] using hj
        obtain ⟨t7, rfl⟩ : ∃ t, v2 = .int (ds.getD j 0) t := int_at hI5 hj5 hv2
        clear NN7 N9 FF7 F9
        k_steps
        refine Stop.out ?_
        refine EndF.intro F10 N10 (fun p hp => hp) ?_
        rw [take_snoc_map (fun r => bit r c) (by omega)]
        have e : (0 + (c : Int)).toNat = c := by omega
        rw [e]
        exact ints_snoc hJ2
      case fin2 =>
        intro zs2 hJ2
        unfold LCg.FinE
        intro D4 h10 tk10 F10 N10 off10
        have hJ2 : IntsAre zs2 ((ds.take 5).map fun r => bit r c) := by
          have e : ws2.toArray.size = 5 := by simp [hw52]
          rw [e] at hJ2
          exact hJ2
        clear NN7 N9 FF7 F9
        k_steps
        refine Stop.out ?_
        rename News h₀ L' _ _ => N11
        rename Fr h₀ L' _ _ => F11
        refine EndF.intro F11 N11 (fun p hp => List.mem_cons_of_mem _ (List.mem_cons_of_mem _ hp)) ?_
        rw [List.range_succ, List.map_append]
        exact ints_snoc hJ3
    case fin =>
      intro zs3 hJ3
      unfold LCg.FinA
      intro UA h9 tk9 F9 N9 off9
      try dsimp only
      refine done h9 tk9 LA UA zs zs3 F9 (fun p hp => N9 p ?_) ?_ ?_ hJ hJ3
      · simp only [List.mem_cons, List.not_mem_nil, or_false] at hp ⊢
        rcases hp with h | h | h | h | h | h | h <;> simp [h]
      · have o := off9
        simp only [Off1] at o
        exact ⟨o.1, o.2.2.1, o.2.2.2.1, o.2.2.2.2.1, o.2.2.2.2.2.1, o.2.2.2.2.2.2.1⟩
      · have o := off8
        simp only [Off1] at o
        exact ⟨o.2.1, o.2.2.1, o.2.2.2.1, o.2.2.2.2.1, o.2.2.2.2.2.1⟩
end Mine
end
section
open PySem PySem.W PySem.Calls PyProof.Rows PyProof.Rows.LCg
set_option maxRecDepth 100000
set_option maxHeartbeats 4000000
namespace Mine
theorem fresh_E22 : True := by
  w_top off
  trivial
local macro_rules | `(tactic| k_room) => `(tactic| ktr_room)
local macro_rules | `(tactic| walk_at "getAttr ref") => `(tactic| (k_here; k_dflt (first
  | refine' get_ownS ?k1 ?k2 ?k3 ?k4 ?k5 ?k6 ?k7 ?k8 ?k9 ?_; (case k1 => k_asm); (case k2 => k_asm); (case k3 => k_inst); (case k4 => k_is); (case k5 => k_is); (case k6 => k_is); (case k7 => k_is); (case k8 => k_get); (case k9 => k_handed); k_whole
  | refine' get_ownD ?k1 ?k2 ?k3 ?k4 ?k5 ?k6 ?k7 ?kt ?k8 ?k9 ?_; (case k1 => k_asm); (case k2 => k_asm); (case k3 => k_inst); (case k4 => k_is); (case k5 => k_is); (case k6 => k_is); (case k7 => k_is); (case kt => k_is); (case k8 => k_get); (case k9 => k_handed); k_whole)))
local macro_rules | `(tactic| walk_at "getMethod ref") => `(tactic| (k_here; k_dflt (first
  | refine' method_instS ?k1 ?k2 ?k3 ?k4 ?k5 ?k6 ?k7 ?_; (case k1 => k_asm); (case k2 => k_asm); (case k3 => k_inst); (case k4 => k_is); (case k5 => k_is); (case k6 => k_is); (case k7 => k_get); k_whole
  | refine' method_getS ?k1 ?k2 ?_; (case k1 => k_asm); (case k2 => k_mem); k_whole)))
local macro_rules | `(tactic| k_all) => `(tactic| exact far_of (by assumption) (by omega))
local macro_rules | `(tactic| walk_at "call builtin:dict.get") => `(tactic| (k_here; k_dflt (refine' getS_miss ?k1 ?k2 ?k3 ?k4 ?k5 ?_; (case k1 => k_asm); (case k2 => k_mem); (case k3 => k_keys); (case k4 => k_get); (case k5 => k_asm); k_whole)))
local macro_rules | `(tactic| walk_at "setItem ref str") => `(tactic| (k_here; k_dflt (refine' setS_new ?k1 ?k2 ?k3 ?k4 ?k5 ?k6 ?_; (case k1 => k_asm); (case k2 => k_asm); (case k6 => k_upd); (case k3 => k_keys); (case k4 => k_get); (case k5 => (rw [sizeLine_eq]; exact Nat.le_of_ble_eq_true (by with_unfolding_all rfl))); k_whole; intro h' F' N'; (try dsimp only [List.cons_append, List.nil_append] at N'); (try k_sweep))))
local macro_rules | `(tactic| walk_at "call builtin:dict.clear") => `(tactic| (k_here; k_dflt (refine' clear_K (knd := PySem.strKind _ _) ?k1 ?k2 ?k3 ?k4 ?_; (case k1 => k_asm); (case k2 => k_asm); (case k3 => k_updF); (case k4 => assumption); k_whole; intro h' o' F' N' hd'; (try dsimp only [List.cons_append, List.nil_append] at N'); (try k_sweep))))
local macro_rules | `(tactic| k_all) => `(tactic| with_reducible assumption)
local macro_rules | `(tactic| walk_at "exec Assign cons ListComp") => `(tactic| (refine Stop.mk ?_))
local macro_rules | `(tactic| k_ne) => `(tactic| (refine neN ?_; (try dsimp only); first | with_reducible assumption | (refine Ne.symm ?_; with_reducible assumption)))
theorem filter_snoc {cs : List Int} {i : Nat} (hi : i < cs.length) (h : cs.getD i 0 ≠ 0) : (cs.take (i + 1)).filter (fun z => decide (z ≠ 0)) = (cs.take i).filter (fun z => decide (z ≠ 0)) ++ [cs.getD i 0] := by
  have e : cs.take (i + 1) = cs.take i ++ [cs.getD i 0] := by
    have := take_snoc_map (ds := cs) (i := i) id hi
    simpa using this
  rw [e, List.filter_append]
  simp only [List.filter_cons, List.filter_nil, decide_eq_true h, if_true]
theorem filter_skip {cs : List Int} {i : Nat} (hi : i < cs.length) (h : cs.getD i 0 = 0) : (cs.take (i + 1)).filter (fun z => decide (z ≠ 0)) = (cs.take i).filter (fun z => decide (z ≠ 0)) := by
  have e : cs.take (i + 1) = cs.take i ++ [cs.getD i 0] := by
    have := take_snoc_map (ds := cs) (i := i) id hi
    simpa using this
  rw [e, List.filter_append, h]
  simp
theorem fr_two {h₀ h : Heap} {L : Addr} {f : Str → Option Value} {a b : Value} (F : Fr h₀ L h f) (hu : f (PySem.Str.ofString "upper") = some a) (hl : f (PySem.Str.ofString "lower") = some b) :
    Fr h₀ L h (fun y => if y = PySem.Str.ofString "upper" then some a else if y = PySem.Str.ofString "lower" then some b else f y) := by
  have e : (fun y => if y = PySem.Str.ofString "upper" then some a else if y = PySem.Str.ofString "lower" then some b else f y) = f := by
    funext y
    by_cases q : y = PySem.Str.ofString "upper"
    · rw [if_pos q, q, hu]
    · rw [if_neg q]
      by_cases q2 : y = PySem.Str.ofString "lower"
      · rw [if_pos q2, q2, hl]
      · rw [if_neg q2]
  rw [e]; exact F
/-- rows 4 and 5 -/
theorem law_C {w : World} {s : Shared} {p : Program} {loose : List Str} {mean : ExcName → Option Value} {mg mb : Str → Option Value} {h₀ h' : Heap} {L' fa D LA UA : Nat} {cd : Value} {o1 o2 o3 o4 : Obj} {l tk : Nat} {ys lv uv : List Value} {ds ls cs : List Int} {Q : Flow → Shared → Prop} {E : Value → Shared → Prop} :
    Below callerA h₀ [] h₀ → (Mine.LawTop.hd.heap_39 w.params).In h₀ → Top p loose mean mg mb h₀ → Fr h₀ L' h' (fun z => if z = PySem.Str.ofString "upper" then some (Value.ref UA) else if z = PySem.Str.ofString "lower" then some (Value.ref LA) else none) →
    News h₀ L' h' [(UA, lst uv), (LA, lst lv), (D, lst ys), (L' + 1 + 1 + 1 + 1, o1), (L' + 1 + 1 + 1, o2), (L' + 1 + 1, o3), (L' + 1, o4)] →
    (@Ne Nat LA UA ∧ @Ne Nat D UA ∧ @Ne Nat (L' + 1 + 1 + 1 + 1) UA ∧ @Ne Nat (L' + 1 + 1 + 1) UA ∧ @Ne Nat (L' + 1 + 1) UA ∧ @Ne Nat (L' + 1) UA) → (@Ne Nat D LA ∧ @Ne Nat (L' + 1 + 1 + 1 + 1) LA ∧ @Ne Nat (L' + 1 + 1 + 1) LA ∧ @Ne Nat (L' + 1 + 1) LA ∧ @Ne Nat (L' + 1) LA) →
    (@Ne Nat (L' + 1 + 1 + 1 + 1) D ∧ @Ne Nat (L' + 1 + 1 + 1) D ∧ @Ne Nat (L' + 1 + 1) D ∧ @Ne Nat (L' + 1) D) →
    o1.data = .cell none → o2.data = .cell (some (.ref D)) → o3.data = .cell none → o4.data = .cell (some (.ref l)) → IntsAre ys ds → ds.length = 7 → IntsAre lv ls → IntsAre uv cs → ls.length = 5 → cs.length = 5 → (∀ y ∈ cs, 0 ≤ y ∧ y ≤ 5) →
    (∀ h' tk VA ku vus us (m₁ : Str → Option Value), Fr h₀ L' h' (fun y => if y = PySem.Str.ofString "upper" then some (Value.ref VA) else if y = PySem.Str.ofString "lower" then some (Value.ref LA) else m₁ y) →
      News h₀ L' h' [(VA, listOf vus.toArray ku), (LA, listOf lv.toArray lv.length), (D, lst ys), (L' + 1 + 1 + 1 + 1, o1), (L' + 1 + 1 + 1, o2), (L' + 1 + 1, o3), (L' + 1, o4)] →
      (@Ne Nat LA VA ∧ @Ne Nat D VA ∧ @Ne Nat (L' + 1 + 1 + 1 + 1) VA ∧ @Ne Nat (L' + 1 + 1 + 1) VA ∧ @Ne Nat (L' + 1 + 1) VA ∧ @Ne Nat (L' + 1) VA) →
      IntsAre vus us → us.length ≤ 5 → (∀ y ∈ us, 1 ≤ y ∧ y ≤ 8) → us.sum = cs.sum →
      wpN (model PySem.Challenge.rw_ez0195_01.row.prog w) (callerA.deeper (lawEnv L' fa cd)) (execs ((recOf Mine.LawTop.hd).body.drop 5) (lawEnv L' fa cd)) Q E { s with heap := h', toks := tk }) →
    wpN (model PySem.Challenge.rw_ez0195_01.row.prog w) (callerA.deeper (lawEnv L' fa cd)) (execs ((recOf Mine.LawTop.hd).body.drop 3) (lawEnv L' fa cd)) Q E { s with heap := h', toks := tk } := by
  k_fill
  intro B' X T FF NN ne1 ne2 ne3 d1 d2 d3 d4 hI8 hd7 hIl hIu hl5 hu5 hub done
  dsimp only [recOf, lawEnv, List.drop]
  refine n_step ?_
  k_steps
  refine Stop.out ?_
  refine' LCt.Assign_ListComp_T (h₀ := h₀) (L := L') FF ?hLe ?hsw ?hclos ?hcell ?hkind ?hnames ?hx ?hy ?hpp ?_ ?hs
  case hLe => rfl
  case hsw => with_unfolding_all rfl
  case hclos => with_unfolding_all rfl
  case hcell => decide
  case hkind => rfl
  case hnames => decide
  case hx => rfl
  case hy => rfl
  case hpp => rfl
  case hs => exact fun _ => rfl
  k_steps
  rename News h₀ L' _ _ => NN2
  rename Fr h₀ L' _ _ => FF2
  have hul : uv.length = 5 := by rw [hIu.length, hu5]
  refine LCt.CompSrcT.ledger (its := uv.toArray) (by rfl) FF2 NN2 (by simp; exact .inl rfl) (by rw [sizeLine_eq]; simp; omega) ?_
  intro gg
  refine comp_loopT (fun i ys => IntsAre ys ((cs.take i).filter fun z => decide (z ≠ 0))) (.inr ⟨_, by simp; exact .inl rfl, rfl, _, rfl⟩) (by simp; exact IntsAre.nil) ?turn ?fin
  case turn =>
    intro i zs hi hJ v I oI C oC D9 m2 h4 tk4 E4 hv hoC hm2 F4 N4 off4 ne4
    have hi5 : i < 5 := by simpa [hul] using hi
    obtain ⟨t4, rfl⟩ : ∃ t, v = .int (cs.getD i 0) t := ints_get hIu (by simpa using hv)
    clear FF2 NN2
    k_steps
    · rw [filter_snoc (by omega) (by assumption)]
      exact ints_snoc hJ
    · rw [filter_skip (by omega) (by assumption)]
      exact hJ
  case fin =>
    intro zs hJ
    unfold LCg.FinA
    intro VA h8 tk8 F8 N8 off8
    have hJ : IntsAre zs (cs.filter fun z => decide (z ≠ 0)) := by
      have e : uv.toArray.size = cs.length := by simp [hul, hu5]
      rw [e, List.take_length] at hJ
      exact hJ
    obtain ⟨es, hes⟩ : ∃ es, es = cs.filter fun z => decide (z ≠ 0) := ⟨_, rfl⟩
    rw [← hes] at hJ
    clear FF2 NN2
    have he5 : es.length ≤ 5 := by rw [hes, ← hu5]; exact List.length_filter_le _ _
    have heb : ∀ y ∈ es, 1 ≤ y ∧ y ≤ 5 := fun y hy => by
      rw [hes, List.mem_filter] at hy
      have a := hub y hy.1
      have b : y ≠ 0 := of_decide_eq_true hy.2
      omega
    have off8' := off8
    simp only [Off1] at off8'
    replace N8 : News h₀ L' h8 [(VA, lst zs), (LA, lst lv), (D, lst ys), (L' + 1 + 1 + 1 + 1, o1), (L' + 1 + 1 + 1, o2), (L' + 1 + 1, o3), (L' + 1, o4)] := fun p hp => N8 p (by
      simp only [List.mem_cons, List.not_mem_nil, or_false] at hp ⊢
      rcases hp with h | h | h | h | h | h | h <;> simp [h])
    try dsimp only
    replace F8 : Fr h₀ L' h8 (fun z => if z = PySem.Str.ofString "upper" then some (Value.ref VA) else if z = PySem.Str.ofString "lower" then some (Value.ref LA) else none) := by
      have e : (fun z => if z = PySem.Str.ofString "upper" then some (Value.ref VA) else if z = PySem.Str.ofString "upper" then some (Value.ref UA) else if z = PySem.Str.ofString "lower" then some (Value.ref LA) else none) = (fun z => if z = PySem.Str.ofString "upper" then some (Value.ref VA) else if z = PySem.Str.ofString "lower" then some (Value.ref LA) else none) := by
        funext z
        by_cases q : z = PySem.Str.ofString "upper"
        · simp only [q, if_true]
        · simp only [q, if_false]
      rw [← e]
      exact F8
    have off9 : (@Ne Nat LA VA ∧ @Ne Nat D VA ∧ @Ne Nat (L' + 1 + 1 + 1 + 1) VA ∧ @Ne Nat (L' + 1 + 1 + 1) VA ∧ @Ne Nat (L' + 1 + 1) VA ∧ @Ne Nat (L' + 1) VA) := ⟨off8'.2.1, off8'.2.2.1, off8'.2.2.2.1, off8'.2.2.2.2.1, off8'.2.2.2.2.2.1, off8'.2.2.2.2.2.2.1⟩
    clear ne1 off8
    refine n_step ?_
    k_steps
    · -- some upper node
      have hpos : 0 < es.length := by assumption
      rename IntsAre _ _ => hI9
      rename News h₀ L' _ _ => N9
      rename Fr h₀ L' _ _ => F9
      have hn0 : (0 : Int) < (es.length : Int) := by omega
      obtain ⟨g, hg, hgl⟩ : ∃ g : Nat, ((ds.getD (Int.toNat 6) 0).fmod (es.length : Int)).toNat = g ∧ g < es.length := ⟨_, rfl, by
        have a := Int.fmod_nonneg_of_pos (ds.getD (Int.toNat 6) 0) hn0
        have b := Int.fmod_lt_of_pos (ds.getD (Int.toNat 6) 0) hn0
        omega⟩
      obtain ⟨t, ht, htl⟩ : ∃ t : Nat, (((ds.getD (Int.toNat 6) 0).fdiv 5).fmod (es.length : Int)).toNat = t ∧ t < es.length := ⟨_, rfl, by
        have a := Int.fmod_nonneg_of_pos ((ds.getD (Int.toNat 6) 0).fdiv 5) hn0
        have b := Int.fmod_lt_of_pos ((ds.getD (Int.toNat 6) 0).fdiv 5) hn0
        omega⟩
      obtain ⟨mv, hmv⟩ : ∃ mv : Int, (if es.getD g 0 - 1 < (ds.getD (Int.toNat 5) 0).fmod 4 then es.getD g 0 - 1 else (ds.getD (Int.toNat 5) 0).fmod 4) = mv := ⟨_, rfl⟩
      have hd4 := Int.fmod_nonneg_of_pos (ds.getD (Int.toNat 5) 0) (show (0 : Int) < 4 by decide)
      have hd5 := Int.fmod_lt_of_pos (ds.getD (Int.toNat 5) 0) (show (0 : Int) < 4 by decide)
      have hge := heb _ (getD_at hgl)
      have hmb : 0 ≤ mv ∧ mv ≤ es.getD g 0 - 1 ∧ mv ≤ 3 := by
        rw [← hmv]
        split <;> omega
      obtain ⟨k1, k2, k3⟩ := moved_ok heb hgl htl hmb.1 hmb.2.1 hmb.2.2 rfl rfl
      refine done _ _ VA _ _ _ _ (fr_two F9 (by with_unfolding_all rfl) (by with_unfolding_all rfl)) (fun p hp => N9 p (List.mem_cons_of_mem _ hp)) off9 hI9 ?_ ?_ ?_
      · rw [hg, ht, hmv]; omega
      · rw [hg, ht, hmv]; exact k2
      · rw [hg, ht, hmv, k3, hes, filter_sum']
    · -- none
      rename News h₀ L' _ _ => N9
      rename Fr h₀ L' _ _ => F9
      have he0 : es = [] := by
        cases es with
        | nil => rfl
        | cons a r => exact absurd (Nat.succ_pos _) (by assumption)
      refine done _ _ VA _ _ es _ (fr_two F9 (by with_unfolding_all rfl) (by with_unfolding_all rfl)) N9 off9 hJ (by omega) (fun y hy => by rw [he0] at hy; exact nomatch hy) (by rw [hes, filter_sum'])
end Mine
end
section
open PySem PySem.W PySem.Calls PyProof.Rows PyProof.Rows.LCg
set_option maxRecDepth 100000
set_option maxHeartbeats 4000000
namespace Mine
theorem fresh_E23 : True := by
  w_top off
  trivial
local macro_rules | `(tactic| k_room) => `(tactic| ktr_room)
local macro_rules | `(tactic| walk_at "getAttr ref") => `(tactic| (k_here; k_dflt (first
  | refine' get_ownS ?k1 ?k2 ?k3 ?k4 ?k5 ?k6 ?k7 ?k8 ?k9 ?_; (case k1 => k_asm); (case k2 => k_asm); (case k3 => k_inst); (case k4 => k_is); (case k5 => k_is); (case k6 => k_is); (case k7 => k_is); (case k8 => k_get); (case k9 => k_handed); k_whole
  | refine' get_ownD ?k1 ?k2 ?k3 ?k4 ?k5 ?k6 ?k7 ?kt ?k8 ?k9 ?_; (case k1 => k_asm); (case k2 => k_asm); (case k3 => k_inst); (case k4 => k_is); (case k5 => k_is); (case k6 => k_is); (case k7 => k_is); (case kt => k_is); (case k8 => k_get); (case k9 => k_handed); k_whole)))
local macro_rules | `(tactic| walk_at "getMethod ref") => `(tactic| (k_here; k_dflt (first
  | refine' method_instS ?k1 ?k2 ?k3 ?k4 ?k5 ?k6 ?k7 ?_; (case k1 => k_asm); (case k2 => k_asm); (case k3 => k_inst); (case k4 => k_is); (case k5 => k_is); (case k6 => k_is); (case k7 => k_get); k_whole
  | refine' method_getS ?k1 ?k2 ?_; (case k1 => k_asm); (case k2 => k_mem); k_whole)))
local macro_rules | `(tactic| k_all) => `(tactic| exact far_of (by assumption) (by omega))
local macro_rules | `(tactic| walk_at "call builtin:dict.get") => `(tactic| (k_here; k_dflt (refine' getS_miss ?k1 ?k2 ?k3 ?k4 ?k5 ?_; (case k1 => k_asm); (case k2 => k_mem); (case k3 => k_keys); (case k4 => k_get); (case k5 => k_asm); k_whole)))
local macro_rules | `(tactic| walk_at "setItem ref str") => `(tactic| (k_here; k_dflt (refine' setS_new ?k1 ?k2 ?k3 ?k4 ?k5 ?k6 ?_; (case k1 => k_asm); (case k2 => k_asm); (case k6 => k_upd); (case k3 => k_keys); (case k4 => k_get); (case k5 => (rw [sizeLine_eq]; exact Nat.le_of_ble_eq_true (by with_unfolding_all rfl))); k_whole; intro h' F' N'; (try dsimp only [List.cons_append, List.nil_append] at N'); (try k_sweep))))
local macro_rules | `(tactic| walk_at "call builtin:dict.clear") => `(tactic| (k_here; k_dflt (refine' clear_K (knd := PySem.strKind _ _) ?k1 ?k2 ?k3 ?k4 ?_; (case k1 => k_asm); (case k2 => k_asm); (case k3 => k_updF); (case k4 => assumption); k_whole; intro h' o' F' N' hd'; (try dsimp only [List.cons_append, List.nil_append] at N'); (try k_sweep))))
local macro_rules | `(tactic| k_all) => `(tactic| with_reducible assumption)
local macro_rules | `(tactic| k_ne) => `(tactic| (refine neN ?_; (try dsimp only); first | with_reducible assumption | (refine Ne.symm ?_; with_reducible assumption)))
/-- rows 6 to 10 -/
theorem law_D {w : World} {s : Shared} {p : Program} {loose : List Str} {mean : ExcName → Option Value} {mg mb : Str → Option Value} {h₀ h' : Heap} {L' fa D LA VA ku kl : Nat} {cd : Value} {o1 o2 o3 o4 : Obj} {l tk : Nat} {ys lv uv : List Value} {ds ls us : List Int} {m₁ : Str → Option Value} {Q : Flow → Shared → Prop} {E : Value → Shared → Prop} :
    Below callerA h₀ [] h₀ → (Mine.LawTop.hd.heap_39 w.params).In h₀ → Top p loose mean mg mb h₀ → Fr h₀ L' h' (fun y => if y = PySem.Str.ofString "upper" then some (Value.ref VA) else if y = PySem.Str.ofString "lower" then some (Value.ref LA) else m₁ y) →
    News h₀ L' h' [(VA, listOf uv.toArray ku), (LA, listOf lv.toArray kl), (D, lst ys), (L' + 1 + 1 + 1 + 1, o1), (L' + 1 + 1 + 1, o2), (L' + 1 + 1, o3), (L' + 1, o4)] →
    (@Ne Nat LA VA ∧ @Ne Nat D VA ∧ @Ne Nat (L' + 1 + 1 + 1 + 1) VA ∧ @Ne Nat (L' + 1 + 1 + 1) VA ∧ @Ne Nat (L' + 1 + 1) VA ∧ @Ne Nat (L' + 1) VA) → (@Ne Nat D LA ∧ @Ne Nat (L' + 1 + 1 + 1 + 1) LA ∧ @Ne Nat (L' + 1 + 1 + 1) LA ∧ @Ne Nat (L' + 1 + 1) LA ∧ @Ne Nat (L' + 1) LA) →
    (@Ne Nat (L' + 1 + 1 + 1 + 1) D ∧ @Ne Nat (L' + 1 + 1 + 1) D ∧ @Ne Nat (L' + 1 + 1) D ∧ @Ne Nat (L' + 1) D) →
    o1.data = .cell none → o2.data = .cell (some (.ref D)) → o3.data = .cell none → o4.data = .cell (some (.ref l)) → IntsAre lv ls → IntsAre uv us → ls.length = 5 → us.length ≤ 5 → (∀ y ∈ ls, 0 ≤ y ∧ y ≤ 8) → (∀ y ∈ us, 1 ≤ y ∧ y ≤ 8) →
    (∀ h' tk FA AA cf ca fv av fs, Fr h₀ L' h' (fun y => if y = PySem.Str.ofString "holds" then some (Value.bool true) else if y = PySem.Str.ofString "falling" then some (Value.ref FA) else if y = PySem.Str.ofString "asked" then some (Value.ref AA) else if y = PySem.Str.ofString "upper" then some (Value.ref VA) else if y = PySem.Str.ofString "lower" then some (Value.ref LA) else m₁ y) →
      News h₀ L' h' [(FA, listOf fv.toArray cf), (AA, listOf av.toArray ca), (VA, listOf uv.toArray ku), (LA, listOf lv.toArray kl), (D, lst ys), (L' + 1 + 1 + 1 + 1, o1), (L' + 1 + 1 + 1, o2), (L' + 1 + 1, o3), (L' + 1, o4)] →
      IntsAre av (ls ++ us) → IntsAre fv fs → fs.Perm us → fs.Pairwise (fun x y => y ≤ x) → (@LT.lt Nat _ AA FA ∧ @LT.lt Nat _ VA FA ∧ @LT.lt Nat _ LA FA ∧ @LT.lt Nat _ D FA ∧ @LT.lt Nat _ (L' + 1 + 1 + 1 + 1) FA ∧ @LT.lt Nat _ (L' + 1 + 1 + 1) FA ∧ @LT.lt Nat _ (L' + 1 + 1) FA ∧ @LT.lt Nat _ (L' + 1) FA) →
      wpN (model PySem.Challenge.rw_ez0195_01.row.prog w) (callerA.deeper (lawEnv L' fa cd)) (execs ((recOf Mine.LawTop.hd).body.drop 8) (lawEnv L' fa cd)) Q E { s with heap := h', toks := tk }) →
    wpN (model PySem.Challenge.rw_ez0195_01.row.prog w) (callerA.deeper (lawEnv L' fa cd)) (execs ((recOf Mine.LawTop.hd).body.drop 5) (lawEnv L' fa cd)) Q E { s with heap := h', toks := tk } := by
  k_fill
  intro B' X T FF NN ne1 ne2 ne3 d1 d2 d3 d4 hIl hIu hl5 hu5 hlb hub done
  dsimp only [recOf, lawEnv, List.drop]
  refine n_step ?_
  k_steps
  try dsimp only
  refine n_step ?_
  k_steps
  try dsimp only
  refine n_step ?_
  k_steps
  try dsimp only
  rename IntsAre _ (_ ++ _) => hIa
  rename List.Perm _ us => hperm
  rename List.Pairwise _ _ => hfall
  rename IntsAre _ _ => hIf
  rename News h₀ L' _ _ => NN2
  rename Fr h₀ L' _ _ => FF2
  rename _ ∧ _ => lf
  exact done _ _ _ _ _ _ _ _ _ FF2 NN2 hIa hIf hperm hfall lf
end Mine
end
section
open PySem PySem.W PySem.Calls PyProof.Rows PyProof.Rows.LCg
set_option maxRecDepth 100000
set_option maxHeartbeats 4000000
namespace Mine
theorem fresh_E24 : True := by
  w_top off
  trivial
local macro_rules | `(tactic| k_room) => `(tactic| ktr_room)
local macro_rules | `(tactic| walk_at "getAttr ref") => `(tactic| (k_here; k_dflt (first
  | refine' get_ownS ?k1 ?k2 ?k3 ?k4 ?k5 ?k6 ?k7 ?k8 ?k9 ?_; (case k1 => k_asm); (case k2 => k_asm); (case k3 => k_inst); (case k4 => k_is); (case k5 => k_is); (case k6 => k_is); (case k7 => k_is); (case k8 => k_get); (case k9 => k_handed); k_whole
  | refine' get_ownD ?k1 ?k2 ?k3 ?k4 ?k5 ?k6 ?k7 ?kt ?k8 ?k9 ?_; (case k1 => k_asm); (case k2 => k_asm); (case k3 => k_inst); (case k4 => k_is); (case k5 => k_is); (case k6 => k_is); (case k7 => k_is); (case kt => k_is); (case k8 => k_get); (case k9 => k_handed); k_whole)))
local macro_rules | `(tactic| walk_at "getMethod ref") => `(tactic| (k_here; k_dflt (first
  | refine' method_instS ?k1 ?k2 ?k3 ?k4 ?k5 ?k6 ?k7 ?_; (case k1 => k_asm); (case k2 => k_asm); (case k3 => k_inst); (case k4 => k_is); (case k5 => k_is); (case k6 => k_is); (case k7 => k_get); k_whole
  | refine' method_getS ?k1 ?k2 ?_; (case k1 => k_asm); (case k2 => k_mem); k_whole)))
local macro_rules | `(tactic| k_all) => `(tactic| exact far_of (by assumption) (by omega))
local macro_rules | `(tactic| walk_at "call builtin:dict.get") => `(tactic| (k_here; k_dflt (refine' getS_miss ?k1 ?k2 ?k3 ?k4 ?k5 ?_; (case k1 => k_asm); (case k2 => k_mem); (case k3 => k_keys); (case k4 => k_get); (case k5 => k_asm); k_whole)))
local macro_rules | `(tactic| walk_at "setItem ref str") => `(tactic| (k_here; k_dflt (refine' setS_new ?k1 ?k2 ?k3 ?k4 ?k5 ?k6 ?_; (case k1 => k_asm); (case k2 => k_asm); (case k6 => k_upd); (case k3 => k_keys); (case k4 => k_get); (case k5 => (rw [sizeLine_eq]; exact Nat.le_of_ble_eq_true (by with_unfolding_all rfl))); k_whole; intro h' F' N'; (try dsimp only [List.cons_append, List.nil_append] at N'); (try k_sweep))))
local macro_rules | `(tactic| walk_at "call builtin:dict.clear") => `(tactic| (k_here; k_dflt (refine' clear_K (knd := PySem.strKind _ _) ?k1 ?k2 ?k3 ?k4 ?_; (case k1 => k_asm); (case k2 => k_asm); (case k3 => k_updF); (case k4 => assumption); k_whole; intro h' o' F' N' hd'; (try dsimp only [List.cons_append, List.nil_append] at N'); (try k_sweep))))
local macro_rules | `(tactic| k_all) => `(tactic| with_reducible assumption)
local macro_rules | `(tactic| walk_at "ForSrc") => `(tactic| (refine Stop.mk ?_))
local macro_rules | `(tactic| walk_at "NextR") => `(tactic| (refine Stop.mk ?_))
local macro_rules | `(tactic| k_ne) => `(tactic| (refine neN ?_; (try dsimp only); first | with_reducible assumption | (refine Ne.symm ?_; with_reducible assumption)))
theorem holds_next {fs ls : List Int} {i : Nat} (h : ∀ j, 1 ≤ j → j ≤ i → (fs.take j).sum ≤ (ls.map fun d => min d (j : Int)).sum) :
    ((fs.take (1 + (i : Int)).toNat).sum ≤ (ls.map fun k' => if 1 + (i : Int) < k' then 1 + (i : Int) else k').sum) ↔ ∀ j, 1 ≤ j → j ≤ i + 1 → (fs.take j).sum ≤ (ls.map fun d => min d (j : Int)).sum := by
  have e1 : (1 + (i : Int)).toNat = i + 1 := by omega
  have e2 : (ls.map fun k' => if 1 + (i : Int) < k' then 1 + (i : Int) else k') = ls.map fun d => min d (((i + 1 : Nat)) : Int) := by
    refine List.map_congr_left fun d _ => ?_
    split <;> omega
  rw [e1, e2]
  constructor
  · intro a j j1 j2
    by_cases q : j = i + 1
    · rw [q]; exact a
    · exact h j j1 (by omega)
  · intro a
    exact a (i + 1) (by omega) (Nat.le_refl _)
/-- the loop of the inequalities -/
theorem law_L {w : World} {s : Shared} {p : Program} {loose : List Str} {mean : ExcName → Option Value} {mg mb : Str → Option Value} {h₀ h' : Heap} {L' fa D LA VA FA AA ku kl cf ca : Nat} {cd : Value} {o1 o2 o3 o4 : Obj} {l tk : Nat} {ys lv uv fv av : List Value} {ls us fs : List Int} {m₁ : Str → Option Value} {Q : Flow → Shared → Prop} {E : Value → Shared → Prop} :
    Below callerA h₀ [] h₀ → (Mine.LawTop.hd.heap_39 w.params).In h₀ → Top p loose mean mg mb h₀ →
    Fr h₀ L' h' (fun y => if y = PySem.Str.ofString "holds" then some (Value.bool true) else if y = PySem.Str.ofString "falling" then some (Value.ref FA) else if y = PySem.Str.ofString "asked" then some (Value.ref AA) else if y = PySem.Str.ofString "upper" then some (Value.ref VA) else if y = PySem.Str.ofString "lower" then some (Value.ref LA) else m₁ y) →
    News h₀ L' h' [(FA, listOf fv.toArray cf), (AA, listOf av.toArray ca), (VA, listOf uv.toArray ku), (LA, listOf lv.toArray kl), (D, lst ys), (L' + 1 + 1 + 1 + 1, o1), (L' + 1 + 1 + 1, o2), (L' + 1 + 1, o3), (L' + 1, o4)] →
    (@Ne Nat FA (L' + 1 + 1) ∧ @Ne Nat AA (L' + 1 + 1) ∧ @Ne Nat VA (L' + 1 + 1) ∧ @Ne Nat LA (L' + 1 + 1) ∧ @Ne Nat D (L' + 1 + 1)) →
    o1.data = .cell none → o2.data = .cell (some (.ref D)) → o3.data = .cell none → o4.data = .cell (some (.ref l)) → IntsAre lv ls → IntsAre uv us → IntsAre fv fs → fs.length = us.length → ls.length = 5 → us.length ≤ 5 → (∀ y ∈ ls, 0 ≤ y ∧ y ≤ 8) → (∀ y ∈ fs, 1 ≤ y ∧ y ≤ 8) →
    (∀ h' tk (b : Bool) ok v, Fr h₀ L' h' (fun y => if y = PySem.Str.ofString "holds" then some (Value.bool b) else if y = PySem.Str.ofString "falling" then some (Value.ref FA) else if y = PySem.Str.ofString "asked" then some (Value.ref AA) else if y = PySem.Str.ofString "upper" then some (Value.ref VA) else if y = PySem.Str.ofString "lower" then some (Value.ref LA) else m₁ y) →
      News h₀ L' h' [(FA, listOf fv.toArray cf), (AA, listOf av.toArray ca), (VA, listOf uv.toArray ku), (LA, listOf lv.toArray kl), (D, lst ys), (L' + 1 + 1 + 1 + 1, o1), (L' + 1 + 1 + 1, o2), (L' + 1 + 1, ok), (L' + 1, o4)] → ok.data = .cell v → (b = true ↔ ∀ j, 1 ≤ j → j ≤ us.length → (fs.take j).sum ≤ (ls.map fun d => min d (j : Int)).sum) →
      wpN (model PySem.Challenge.rw_ez0195_01.row.prog w) (callerA.deeper (lawEnv L' fa cd)) (execs ((recOf Mine.LawTop.hd).body.drop 9) (lawEnv L' fa cd)) Q E { s with heap := h', toks := tk }) →
    wpN (model PySem.Challenge.rw_ez0195_01.row.prog w) (callerA.deeper (lawEnv L' fa cd)) (execs ((recOf Mine.LawTop.hd).body.drop 8) (lawEnv L' fa cd)) Q E { s with heap := h', toks := tk } := by
  k_fill
  intro B' X T FF NN ne d1 d2 d3 d4 hIl hIu hIf hlf hl5 hu5 hlb hfb done
  dsimp only [recOf, lawEnv, List.drop]
  refine n_execs (n_for_R (h₀ := h₀) (L := L') (J := fun i m nw => ∃ (b : Bool) (ok : Obj), m = (fun y => if y = PySem.Str.ofString "holds" then some (Value.bool b) else if y = PySem.Str.ofString "falling" then some (Value.ref FA) else if y = PySem.Str.ofString "asked" then some (Value.ref AA) else if y = PySem.Str.ofString "upper" then some (Value.ref VA) else if y = PySem.Str.ofString "lower" then some (Value.ref LA) else m₁ y) ∧
    nw = [(FA, listOf fv.toArray cf), (AA, listOf av.toArray ca), (VA, listOf uv.toArray ku), (LA, listOf lv.toArray kl), (D, lst ys), (L' + 1 + 1 + 1 + 1, o1), (L' + 1 + 1 + 1, o2), (L' + 1 + 1, ok), (L' + 1, o4)] ∧ (∃ v, ok.data = .cell v) ∧ (b = true ↔ ∀ j, 1 ≤ j → j ≤ i → (fs.take j).sum ≤ (ls.map fun d => min d (j : Int)).sum)) rfl ?h (fun _ => rfl) (fun _ _ => rfl))
  case h =>
    k_steps
    refine Stop.out ?_
    rename IsRange _ _ _ _ _ _ _ _ => hir
    rename News h₀ L' _ _ => N2
    rename Fr h₀ L' _ _ => F2
    refine ForSrc.mk us.length hir (small_one (by omega) (by omega) (by omega) (by omega)) (by rw [rangeSize_nat]; omega) F2 N2 ⟨true, o3, rfl, rfl, ⟨_, d3⟩, by simp; omega⟩ ?turn ?done
    case turn =>
      rintro I i t m news h3 tk3 oI hi ⟨b, ok, rfl, rfl, ⟨v0, hv0⟩, hb⟩ F3 N3 ne3
      clear F2 N2
      have i0 : @Ne Nat (L' + 1 + 1) I := ne3 (L' + 1 + 1, ok) (by simp)
      have i1 : @Ne Nat FA I := ne3 (FA, listOf fv.toArray cf) (by simp)
      have i2 : @Ne Nat AA I := ne3 (AA, listOf av.toArray ca) (by simp)
      have i3 : @Ne Nat VA I := ne3 (VA, listOf uv.toArray ku) (by simp)
      have i4 : @Ne Nat LA I := ne3 (LA, listOf lv.toArray kl) (by simp)
      have i5 : @Ne Nat D I := ne3 (D, lst ys) (by simp)
      have i6 : @Ne Nat (L' + 1 + 1 + 1 + 1) I := ne3 (L' + 1 + 1 + 1 + 1, o1) (by simp)
      have i7 : @Ne Nat (L' + 1 + 1 + 1) I := ne3 (L' + 1 + 1 + 1, o2) (by simp)
      have i8 : @Ne Nat (L' + 1) I := ne3 (L' + 1, o4) (by simp)
      clear ne3
      have fin : ∀ (b' : Bool) (ok' : Obj) (v' : Option Value) (h9 : Heap) (tk9 : Nat) (all : List (Addr × Obj)), ok'.data = .cell v' → Fr h₀ L' h9 (fun y => if y = PySem.Str.ofString "holds" then some (Value.bool b') else if y = PySem.Str.ofString "holds" then some (Value.bool b) else if y = PySem.Str.ofString "falling" then some (Value.ref FA) else if y = PySem.Str.ofString "asked" then some (Value.ref AA) else if y = PySem.Str.ofString "upper" then some (Value.ref VA) else if y = PySem.Str.ofString "lower" then some (Value.ref LA) else m₁ y) →
          News h₀ L' h9 all → (∀ p ∈ (I, oI) :: [(FA, listOf fv.toArray cf), (AA, listOf av.toArray ca), (VA, listOf uv.toArray ku), (LA, listOf lv.toArray kl), (D, lst ys), (L' + 1 + 1 + 1 + 1, o1), (L' + 1 + 1 + 1, o2), (L' + 1 + 1, ok'), (L' + 1, o4)], p ∈ all) → (b' = true ↔ ∀ j, 1 ≤ j → j ≤ i + 1 → (fs.take j).sum ≤ (ls.map fun d => min d (j : Int)).sum) →
          NextR h₀ L' { s with heap := h', toks := tk } I oI (fun m nw => ∃ (b : Bool) (ok : Obj), m = (fun y => if y = PySem.Str.ofString "holds" then some (Value.bool b) else if y = PySem.Str.ofString "falling" then some (Value.ref FA) else if y = PySem.Str.ofString "asked" then some (Value.ref AA) else if y = PySem.Str.ofString "upper" then some (Value.ref VA) else if y = PySem.Str.ofString "lower" then some (Value.ref LA) else m₁ y) ∧
    nw = [(FA, listOf fv.toArray cf), (AA, listOf av.toArray ca), (VA, listOf uv.toArray ku), (LA, listOf lv.toArray kl), (D, lst ys), (L' + 1 + 1 + 1 + 1, o1), (L' + 1 + 1 + 1, o2), (L' + 1 + 1, ok), (L' + 1, o4)] ∧ (∃ v, ok.data = .cell v) ∧ (b = true ↔ ∀ j, 1 ≤ j → j ≤ i + 1 → (fs.take j).sum ≤ (ls.map fun d => min d (j : Int)).sum)) (fun f s' => match f with | .next => wpN (model PySem.Challenge.rw_ez0195_01.row.prog w) (callerA.deeper (lawEnv L' fa cd)) (execs ((recOf Mine.LawTop.hd).body.drop 9) (lawEnv L' fa cd)) Q E s' | f => Q f s') .next { s with heap := h9, toks := tk9 } := by
        intro b' ok' v' h9 tk9 all hok' F9 N9 sub hb'
        refine NextR.mk [(FA, listOf fv.toArray cf), (AA, listOf av.toArray ca), (VA, listOf uv.toArray ku), (LA, listOf lv.toArray kl), (D, lst ys), (L' + 1 + 1 + 1 + 1, o1), (L' + 1 + 1 + 1, o2), (L' + 1 + 1, ok'), (L' + 1, o4)] (fr_dup F9) N9 sub ?_ ⟨b', ok', rfl, rfl, ⟨_, hok'⟩, hb'⟩
        intro p hp
        simp only [List.mem_cons, List.not_mem_nil, or_false] at hp
        rcases hp with h | h | h | h | h | h | h | h | h <;> rw [h] <;> assumption
      cases b with
      | true =>
        refine wpAny_assign_Name ?_
        k_steps
        refine n_step ?_
        k_steps
        rename News h₀ L' _ _ => N9
        rename Fr h₀ L' _ _ => F9
        rename PySem.Obj => ok'
        rename ok'.data = _ => hok'
        refine n_execs_nil (fin _ ok' _ _ _ _ hok' F9 N9 (fun p hp => by
          simp only [List.mem_cons, List.not_mem_nil, or_false] at hp ⊢
          rcases hp with h | h | h | h | h | h | h | h | h | h <;> simp [h]) ?_)
        rw [decide_eq_true_iff]
        exact holds_next (hb.mp rfl)
      | false =>
        refine wpAny_assign_Name ?_
        k_steps
        refine n_step ?_
        k_steps
        rename News h₀ L' _ _ => N9
        rename Fr h₀ L' _ _ => F9
        rename PySem.Obj => ok'
        rename ok'.data = _ => hok'
        refine n_execs_nil (fin _ ok' _ _ _ _ hok' F9 N9 (fun p hp => hp) ?_)
        exact ⟨fun h => (nomatch h), fun h => hb.mpr fun j j1 j2 => h j j1 (Nat.le_succ_of_le j2)⟩
    case done =>
      rintro m news h3 tk3 ⟨b, ok, rfl, rfl, ⟨v0, hv0⟩, hb⟩ F3 N3
      exact done h3 tk3 b ok v0 F3 N3 hv0 hb
end Mine
end
section
namespace Mine
theorem bit_small (r : Int) (c : Nat) : 0 ≤ bit r c ∧ bit r c ≤ 1 := by
  have h1 : (0 : Int) < 2 := by decide
  have a := Int.fmod_nonneg_of_pos (a := r.fdiv (2 ^ c)) h1
  have b := Int.fmod_lt_of_pos (r.fdiv (2 ^ c)) h1
  show 0 ≤ (r.fdiv (2 ^ c)).fmod 2 ∧ (r.fdiv (2 ^ c)).fmod 2 ≤ 1
  omega
theorem sum_small : ∀ {l : List Int}, (∀ y ∈ l, 0 ≤ y ∧ y ≤ 1) → 0 ≤ l.sum ∧ l.sum ≤ l.length := by
  intro l
  induction l with
  | nil => intro _; simp
  | cons y l ih =>
    intro h
    have a := ih fun z hz => h z (List.mem_cons_of_mem _ hz)
    have b := h y List.mem_cons_self
    rw [List.sum_cons, List.length_cons]
    omega
theorem sum_add {α : Type} (f g : α → Int) : ∀ l : List α, (l.map fun c => f c + g c).sum = (l.map f).sum + (l.map g).sum := by
  intro l
  induction l with
  | nil => rfl
  | cons a l ih => simp only [List.map_cons, List.sum_cons, ih]; omega
theorem sum_nought {α : Type} : ∀ l : List α, (l.map fun _ => (0 : Int)).sum = 0 := by
  intro l
  induction l with
  | nil => rfl
  | cons a l ih => simp only [List.map_cons, List.sum_cons, ih]; rfl
theorem sum_swap {α β : Type} (f : α → β → Int) (k : List β) : ∀ l : List α, (l.map fun r => (k.map fun c => f r c).sum).sum = (k.map fun c => (l.map fun r => f r c).sum).sum := by
  intro l
  induction l with
  | nil => simp only [List.map_nil, List.sum_nil, sum_nought]
  | cons a l ih => simp only [List.map_cons, List.sum_cons, ih, sum_add]
section
variable {ds : List Int}
theorem rows_ok (h : ds.length = 7) : ((ds.take 5).map rowSum).length = 5 ∧ ∀ y ∈ (ds.take 5).map rowSum, 0 ≤ y ∧ y ≤ 8 := by
  refine ⟨by rw [List.length_map, List.length_take, h]; rfl, fun y hy => ?_⟩
  obtain ⟨r, _, rfl⟩ := List.mem_map.mp hy
  have a := sum_small (l := (List.range 5).map fun c => bit r c) fun z hz => by
    obtain ⟨c, _, rfl⟩ := List.mem_map.mp hz
    exact bit_small r c
  rw [List.length_map, List.length_range] at a
  show 0 ≤ ((List.range 5).map fun c => bit r c).sum ∧ ((List.range 5).map fun c => bit r c).sum ≤ 8
  omega
theorem cols_ok (h : ds.length = 7) : ((List.range 5).map fun c : Nat => ((ds.take 5).map fun r => bit r c).sum).length = 5 ∧ (∀ y ∈ (List.range 5).map fun c : Nat => ((ds.take 5).map fun r => bit r c).sum, 0 ≤ y ∧ y ≤ 5) ∧
    ((ds.take 5).map rowSum).sum = ((List.range 5).map fun c : Nat => ((ds.take 5).map fun r => bit r c).sum).sum := by
  refine ⟨by rw [List.length_map, List.length_range], fun y hy => ?_, sum_swap (fun r c => bit r c) (List.range 5) (ds.take 5)⟩
  obtain ⟨c, _, rfl⟩ := List.mem_map.mp hy
  have a := sum_small (l := (ds.take 5).map fun r => bit r c) fun z hz => by
    obtain ⟨r, _, rfl⟩ := List.mem_map.mp hz
    exact bit_small r c
  rw [List.length_map, List.length_take, h] at a
  omega
end
end Mine
end
section
open PySem PySem.W PySem.Calls PyProof.Rows PyProof.Rows.LCg
set_option maxRecDepth 100000
set_option maxHeartbeats 1000000
namespace Mine
theorem fresh_E34 : True := by
  w_top off
  trivial
local macro_rules | `(tactic| k_room) => `(tactic| ktr_room)
local macro_rules | `(tactic| walk_at "getAttr ref") => `(tactic| (k_here; k_dflt (first
  | refine' get_ownS ?k1 ?k2 ?k3 ?k4 ?k5 ?k6 ?k7 ?k8 ?k9 ?_; (case k1 => k_asm); (case k2 => k_asm); (case k3 => k_inst); (case k4 => k_is); (case k5 => k_is); (case k6 => k_is); (case k7 => k_is); (case k8 => k_get); (case k9 => k_handed); k_whole
  | refine' get_ownD ?k1 ?k2 ?k3 ?k4 ?k5 ?k6 ?k7 ?kt ?k8 ?k9 ?_; (case k1 => k_asm); (case k2 => k_asm); (case k3 => k_inst); (case k4 => k_is); (case k5 => k_is); (case k6 => k_is); (case k7 => k_is); (case kt => k_is); (case k8 => k_get); (case k9 => k_handed); k_whole)))
local macro_rules | `(tactic| walk_at "getMethod ref") => `(tactic| (k_here; k_dflt (first
  | refine' method_instS ?k1 ?k2 ?k3 ?k4 ?k5 ?k6 ?k7 ?_; (case k1 => k_asm); (case k2 => k_asm); (case k3 => k_inst); (case k4 => k_is); (case k5 => k_is); (case k6 => k_is); (case k7 => k_get); k_whole
  | refine' method_getS ?k1 ?k2 ?_; (case k1 => k_asm); (case k2 => k_mem); k_whole)))
local macro_rules | `(tactic| k_all) => `(tactic| exact far_of (by assumption) (by omega))
local macro_rules | `(tactic| walk_at "call builtin:dict.get") => `(tactic| (k_here; k_dflt (refine' getS_miss ?k1 ?k2 ?k3 ?k4 ?k5 ?_; (case k1 => k_asm); (case k2 => k_mem); (case k3 => k_keys); (case k4 => k_get); (case k5 => k_asm); k_whole)))
local macro_rules | `(tactic| walk_at "setItem ref str") => `(tactic| (k_here; k_dflt (refine' setS_new ?k1 ?k2 ?k3 ?k4 ?k5 ?k6 ?_; (case k1 => k_asm); (case k2 => k_asm); (case k6 => k_upd); (case k3 => k_keys); (case k4 => k_get); (case k5 => (rw [sizeLine_eq]; exact Nat.le_of_ble_eq_true (by with_unfolding_all rfl))); k_whole; intro h' F' N'; (try dsimp only [List.cons_append, List.nil_append] at N'); (try k_sweep))))
local macro_rules | `(tactic| walk_at "call builtin:dict.clear") => `(tactic| (k_here; k_dflt (refine' clear_K (knd := PySem.strKind _ _) ?k1 ?k2 ?k3 ?k4 ?_; (case k1 => k_asm); (case k2 => k_asm); (case k3 => k_updF); (case k4 => assumption); k_whole; intro h' o' F' N' hd'; (try dsimp only [List.cons_append, List.nil_append] at N'); (try k_sweep))))
local macro_rules | `(tactic| k_all) => `(tactic| with_reducible assumption)
local macro_rules | `(tactic| k_ne) => `(tactic| (refine neN ?_; (try dsimp only); first | with_reducible assumption | (refine Ne.symm ?_; with_reducible assumption)))
theorem ne_cell {h₀ h : Heap} {L : Addr} {news : List (Addr × Obj)} {a b : Addr} {xs : Array Value} {c : Nat} {o : Obj} {v : Option Value} (N : News h₀ L h news) (hp : (a, listOf xs c) ∈ news) (hq : (b, o) ∈ news) (hd : o.data = .cell v) : @Ne Nat a b := fun e => by
  have r : listOf xs c = o := congrArg Prod.snd (News.uniq N hp hq e)
  rw [← r] at hd
  cases hd
/-- the law, walked -/
theorem law_run {w : World} {s₁ : Shared} {p : Program} {loose : List Str} {mean : ExcName → Option Value} {mg mb : Str → Option Value} {fa : Addr} {o : Obj} {pm cd doc : Value} {l : Addr} {vs : List Value} {ns : List Int} {R : Result → Shared → Prop} :
    (Mine.LawTop.hd.heap_39 w.params).In s₁.heap → Top p loose mean mg mb s₁.heap → s₁.heap.get? fa = some o → o.data = .func { docDef (recOf Mine.LawTop.hd).name (recOf Mine.LawTop.hd).params (recOf Mine.LawTop.hd).body (recOf Mine.LawTop.hd).scope pm cd doc with defaults := .none, kwdefaults := .none } →
    s₁.heap.CodeRec cd (recOf Mine.LawTop.hd).name → s₁.heap.IsList l vs.toArray → IntsAre vs ns → ns.length ≤ 63 →
    (∀ h' tk L m, Fr s₁.heap L h' m → R (.ok (.ret (.bool true))) { s₁ with heap := h', toks := tk }) →
    codeN (model PySem.Challenge.rw_ez0195_01.row.prog w) callerA (.call (.ref fa) ⟨[.ref l], []⟩) R s₁ := by
  k_fill
  intro X T ho hd hcd hl hi hlen done
  refine' n_enterC (d := recOf Mine.LawTop.hd) (binds := [(PySem.Str.ofString "script", .ref l)]) ho hd hcd T.nolimit ?hb ?hk ?hn ?h1 ?h2 ?h3 ?_
  case hb => exact BindsTo.of_eq rfl
  case hk => rfl
  case hn => decide +kernel
  case h1 => rfl
  case h2 => rfl
  case h3 => rfl
  intro h' tk' cells F' N' Y'
  clear ho hd hcd
  dsimp only [recOf] at F' N' Y' ⊢
  have hbig := modules_low T.nolimit
  have B' := below_caller s₁.heap
  obtain ⟨L', hL'⟩ : ∃ L' : Nat, L' = s₁.heap.objs.size := ⟨_, rfl⟩
  rw [← hL'] at F' N' Y' ⊢
  k_cells Y'
  rename_i o1 o2 o3 o4 d1 d2 d3 d4
  (try simp only [List.cons_append, List.nil_append] at N')
  replace F' : Fr s₁.heap L' h' (fun _ => none) := by with_unfolding_all exact F'
  replace d1 : o1.data = .cell none := by with_unfolding_all exact d1
  replace d2 : o2.data = .cell none := by with_unfolding_all exact d2
  replace d3 : o3.data = .cell none := by with_unfolding_all exact d3
  replace d4 : o4.data = .cell (some (.ref l)) := by with_unfolding_all exact d4
  have hL9 : @LT.lt Nat _ 1 (L' + 1) := by
    have e : sysModules = 1 := rfl
    have : @LT.lt Nat _ sysModules s₁.heap.objs.size := hbig
    omega
  refine n_step ?_
  k_steps
  obtain ⟨ds, hI8, hd7⟩ : ∃ ds, IntsAre ys ds ∧ ds.length = 7 := ⟨_, by assumption, by rw [List.length_map]; rfl⟩
  rename News s₁.heap L' _ _ => N2
  rename Fr s₁.heap L' _ _ => F2
  rename _ ∧ _ ∧ _ ∧ _ => neD
  rename Obj => od
  rename od.data = _ => hod
  refine law_B B' X T F2 N2 neD d1 hod d3 d4 hI8 hd7 ?_
  intro h3 tk3 LA UA lv uv F3 N3 neU neL hIl hIu
  clear N2 F2
  obtain ⟨hl5, hlb⟩ := rows_ok hd7
  obtain ⟨hc5, hcb, hsw⟩ := cols_ok hd7
  refine law_C B' X T F3 N3 neU neL neD d1 hod d3 d4 hI8 hd7 hIl hIu hl5 hc5 hcb ?_
  intro h4 tk4 VA ku vus us m₁ F4 N4 neV hIv hu5 hub husum
  clear N3 F3
  refine law_D (ds := ds) B' X T F4 N4 neV neL neD d1 hod d3 d4 hIl hIv hl5 hu5 hlb hub ?_
  intro h5 tk5 FA AA cf ca fv av fs F5 N5 hIa hIf hperm hfall lf
  clear N4 F4
  refine law_L (us := us) B' X T F5 N5 ⟨ne_cell N5 (xs := fv.toArray) (c := cf) (by simp) (by simp) d3, ne_cell N5 (xs := av.toArray) (c := ca) (by simp) (by simp) d3, neV.2.2.2.2.1.symm, neL.2.2.2.1.symm, neD.2.2.1.symm⟩ d1 hod d3 d4 hIl hIv hIf hperm.length_eq hl5 hu5 hlb (fun y hy => hub y (hperm.mem_iff.mp hy)) ?_
  intro h6 tk6 b ok v F6 N6 hok hb
  refine law_W B' X T F6 N6 ⟨neL.2.1.symm, neV.2.2.1.symm, ne_cell N5 (xs := av.toArray) (c := ca) (by simp) (by simp) d1, neV.1⟩ d1 hIl hIv hIa hl5 hu5 (hsw.trans husum.symm) hlb hub ?hgr ?_
  case hgr => exact hb.trans (GRof_ineq (fun y hy => (hlb y hy).1) (fun y hy => by have := hub y hy; omega) hperm hfall).symm
  intro h7 tk7 m7 F7
  exact done _ _ _ _ F7
end Mine
end
section
open PySem PySem.W PySem.Calls PyProof.Rows
set_option maxRecDepth 100000
set_option maxHeartbeats 4000000
namespace Mine
theorem fresh_E35 : True := by
  w_top off
  trivial
local macro_rules | `(tactic| walk_at "nought") => `(tactic| fail)
local macro_rules | `(tactic| k_room) => `(tactic| ktr_room)
local macro_rules | `(tactic| walk_at "getAttr ref") => `(tactic| (k_here; k_dflt (first
  | refine' get_ownS ?k1 ?k2 ?k3 ?k4 ?k5 ?k6 ?k7 ?k8 ?k9 ?_; (case k1 => k_asm); (case k2 => k_asm); (case k3 => k_inst); (case k4 => k_is); (case k5 => k_is); (case k6 => k_is); (case k7 => k_is); (case k8 => k_get); (case k9 => k_handed); k_whole
  | refine' get_ownD ?k1 ?k2 ?k3 ?k4 ?k5 ?k6 ?k7 ?kt ?k8 ?k9 ?_; (case k1 => k_asm); (case k2 => k_asm); (case k3 => k_inst); (case k4 => k_is); (case k5 => k_is); (case k6 => k_is); (case k7 => k_is); (case kt => k_is); (case k8 => k_get); (case k9 => k_handed); k_whole)))
local macro_rules | `(tactic| walk_at "getMethod ref") => `(tactic| (k_here; k_dflt (first
  | refine' method_instS ?k1 ?k2 ?k3 ?k4 ?k5 ?k6 ?k7 ?_; (case k1 => k_asm); (case k2 => k_asm); (case k3 => k_inst); (case k4 => k_is); (case k5 => k_is); (case k6 => k_is); (case k7 => k_get); k_whole
  | refine' method_getS ?k1 ?k2 ?_; (case k1 => k_asm); (case k2 => k_mem); k_whole)))
local macro_rules | `(tactic| k_all) => `(tactic| exact far_of (by assumption) (by omega))
local macro_rules | `(tactic| walk_at "call builtin:dict.get") => `(tactic| (k_here; k_dflt (refine' getS_miss ?k1 ?k2 ?k3 ?k4 ?k5 ?_; (case k1 => k_asm); (case k2 => k_mem); (case k3 => k_keys); (case k4 => k_get); (case k5 => k_asm); k_whole)))
local macro_rules | `(tactic| walk_at "setItem ref str") => `(tactic| (k_here; k_dflt (refine' setS_new ?k1 ?k2 ?k3 ?k4 ?k5 ?k6 ?_; (case k1 => k_asm); (case k2 => k_asm); (case k6 => k_upd); (case k3 => k_keys); (case k4 => k_get); (case k5 => (rw [sizeLine_eq]; exact Nat.le_of_ble_eq_true (by with_unfolding_all rfl))); k_whole; intro h' F' N'; (try dsimp only [List.cons_append, List.nil_append] at N'); (try k_sweep))))
local macro_rules | `(tactic| walk_at "call builtin:dict.clear") => `(tactic| (k_here; k_dflt (refine' clear_K (knd := PySem.strKind _ _) ?k1 ?k2 ?k3 ?k4 ?_; (case k1 => k_asm); (case k2 => k_asm); (case k3 => k_updF); (case k4 => assumption); k_whole; intro h' o' F' N' hd'; (try dsimp only [List.cons_append, List.nil_append] at N'); (try k_sweep))))
local macro_rules | `(tactic| k_all) => `(tactic| with_reducible assumption)
local macro_rules | `(tactic| k_ne) => `(tactic| (refine neN ?_; (try dsimp only); first | with_reducible assumption | (refine Ne.symm ?_; with_reducible assumption)))
theorem law_top : PySem.Challenge.rw_ez0195_01.Holds := Mine.LawTop.hd (by
  k_fill
  intro w s₀ s₁ mg mb G Y fa o pm cd doc dV kV ho hd hcd hD hmg hg args vals as hpre hlay hrd hwl hlo
  have KX := kIn_of Y
  have X := (Ground.X G).1
  have V := (Ground.X G).2
  refine Ground.open G ?_
  intro T B D TE TW
  try (refine guard_noD D (by decide +kernel) ?_; clear D)
  clear hmg
  have hdV : dV = .none := by
    rcases hD.pos with h | h
    · exact h.2
    · exact absurd rfl h.1
  have hkV : kV = .none := by
    rcases hD.kw with h | h
    · exact h.2
    · exact absurd rfl h.1
  subst hdV hkV
  wrow_args hpre hlay hrd hwl hlo
  rename IntsAre _ _ => hI
  rename Heap.IsList _ _ _ => hL
  rename ¬ ((63 : Int) < _) => hc
  refine n_call (law_run KX T ho hd hcd hL hI (by omega) ?_)
  intro h' tk L m F
  refine GoodW.toG (goodW_bool F hg ?hn ?hp)
  case hn => intro cls; rfl
  case hp => first | kc_post | wrow_post)
end Mine
end
theorem PySem.Challenge.cw_ez0195_01_holds : PySem.Challenge.rw_ez0195_01.Holds :=
  Mine.law_top
