import PyProof.Rows.All
import Wide.All
import OpenK.AllK
import Wide.FinOn
import PySem.Challenge.RW_mj0151_01
set_option Elab.async false
set_option maxRecDepth 100000
set_option linter.unusedVariables false
set_option linter.unusedSimpArgs false
-- On
set_option Elab.async false
set_option maxRecDepth 100000
set_option linter.unusedVariables false
namespace Mine
open PySem PySem.W PySem.Calls PyProof.Rows

/-! ## runs whose stack holds the caller of the claim: int's refusals leave no mark there -/
def CalB (Γ : PySem.Ctx) : Prop := Γ.below.any (fun x => x.1.isCaller) = true
def wpOn {α : Type} (M : Model) (A : Around) (t : Sem α) (Q : α → Shared → Prop) (E : Value → Shared → Prop) (s : Shared) : Prop :=
  ∀ Γ p, Γ.In A → CalB Γ → Sem.wp M Γ t (fun a _ s' => Q a s') (fun e _ s' => E e s') p s
def codeOn (M : Model) (A : Around) (c : Code) (R : Result → Shared → Prop) (s : Shared) : Prop :=
  ∀ Γ p, Γ.code = c → Γ.Below A → CalB Γ → wpCode M Γ R p s

section
variable {α β : Type} {M : Model} {A : Around} {E : Value → Shared → Prop} {s : Shared}
theorem on {t : Sem α} {Q : α → Shared → Prop} (h : wpAny M A t Q E s) : wpOn M A t Q E s := fun Γ p hΓ _ => h Γ p hΓ
theorem onC {c : Code} {R : Result → Shared → Prop} (h : codeAny M A c R s) : codeOn M A c R s := fun Γ p hc hΓ _ => h Γ p hc hΓ
theorem CalB.enter {Γ : PySem.Ctx} (h : CalB Γ) (c : Code) (hd : Option Value) (p : Pos) : CalB (Γ.enter c hd p) := by
  show ((Γ.code, p) :: Γ.below).any (fun x => x.1.isCaller) = true
  rw [List.any_cons, show Γ.below.any (fun x => x.1.isCaller) = true from h, Bool.or_true]
theorem wpOn_pure {a : α} {Q : α → Shared → Prop} (h : Q a s) : wpOn M A (pure a) Q E s := on (wpAny_pure h)
theorem wpOn_mono {t : Sem α} {Q Q' : α → Shared → Prop} {E' : Value → Shared → Prop} (h : wpOn M A t Q E s) (hQ : ∀ a s, Q a s → Q' a s) (hE : ∀ e s, E e s → E' e s) : wpOn M A t Q' E' s :=
  fun Γ p hΓ hC => Sem.wp_mono M Γ t (fun a _ s => hQ a s) (fun e _ s => hE e s) p s (h Γ p hΓ hC)
theorem wpOn_bind {m : Sem α} {f : α → Sem β} {Q : β → Shared → Prop} (h : wpOn M A m (fun a s' => wpOn M A (f a) Q E s') E s) : wpOn M A (m >>= f) Q E s := fun Γ p hΓ hC => by
  rw [Sem.wp_bind']
  exact Sem.wp_mono M Γ m (fun a p' s' h' => h' Γ p' hΓ hC) (fun _ _ _ h' => h') p s (h Γ p hΓ hC)
theorem wpOn_onRaise {m : Sem α} {k : Value → Sem Unit} {Q : α → Shared → Prop} (h : wpOn M A m Q (fun e s' => wpAny M A (k e) (fun _ s'' => E e s'') E s') s) : wpOn M A (m.onRaise k) Q E s := fun Γ p hΓ hC => by
  rw [Sem.wp_onRaise]
  exact Sem.wp_mono M Γ m (fun _ _ _ h' => h') (fun e p' s' h' => h' Γ p' hΓ) p s (h Γ p hΓ hC)
theorem wpOn_attempt {m : Sem α} {Q : Except Value α → Shared → Prop} (h : wpOn M A m (fun a => Q (.ok a)) (fun e => Q (.error e)) s) : wpOn M A m.attempt Q E s := fun Γ p hΓ hC => by
  rw [Sem.wp_attempt]; exact h Γ p hΓ hC
theorem wpOn_holding {vs : List Value} {m : Sem α} {Q : α → Shared → Prop} (h : wpOn M A m Q E s) : wpOn M A (holding vs m) Q E s := fun Γ p hΓ hC => by
  rw [Sem.wp_holding]; exact h Γ p hΓ hC
theorem wpOn_eq {t t' : Sem α} {Q : α → Shared → Prop} (e : t = t') (h : wpOn M A t' Q E s) : wpOn M A t Q E s := e ▸ h
theorem wpOn_run {c : Code} {h : Option Value} {Q : Flow → Shared → Prop} (hc : codeOn M (A.mark h) c (fun r s' => match r with | .ok f => Q f s' | .error e => E e s') s) (hnb : h ≠ some byPass := by intro x; cases x) :
    wpOn M A (run c h) Q E s := fun Γ p hΓ hC => by
  rw [Sem.wp_run]; exact hc _ p rfl (hΓ.enter c h p hnb) (hC.enter c h p)
theorem wpOn_call {f : Value} {pos : List Value} {kw : List (Str × Value)} {Q : Value → Shared → Prop} (hc : codeOn M A (.call f ⟨pos, kw⟩) (fun r s' => match r with | .ok (.ret v) => Q v s' | .ok _ => False | .error e => E e s') s) :
    wpOn M A (call f pos kw) Q E s := fun Γ p hΓ hC => by
  show Sem.wp M Γ (runValue (.call f ⟨pos, kw⟩)) _ _ p s
  rw [Sem.wp_runValue]; exact hc _ p rfl (hΓ.enter _ none p (by intro x; cases x)) (hC.enter _ none p)
theorem codeOn_mono {c : Code} {R R' : Result → Shared → Prop} (h : codeOn M A c R s) (hR : ∀ r s, R r s → R' r s) : codeOn M A c R' s := fun Γ p hc hΓ hC => wpCode_mono hR (h Γ p hc hΓ hC)
theorem codeOn_tree {c : Code} {R : Result → Shared → Prop}
    (h : wpOn M (A.under c) (M.den c) (fun fin s' => match fin with | .done f => R (.ok f) s' | .again c' => c'.quiet = true ∧ codeOn M A c' R s') (fun e s' => R (.error e) s') s) : codeOn M A c R s := fun Γ p hc hΓ hC => by
  rw [wpCode_iff_wp, hc]
  refine Sem.wp_mono M Γ _ (fun fin p' s' h' => ?_) (fun _ _ _ h' => h') p s (h Γ p (hc ▸ hΓ.in) hC)
  cases fin with
  | done f => exact h'
  | again c' => exact ⟨h'.1, h'.2 (Γ.goto c') p' rfl (hΓ.goto c') hC⟩
theorem codeOn_loop {c : Code} {R : Result → Shared → Prop} (hq : c.quiet = true) (I : Nat → Shared → Prop)
    (turn : ∀ n s, I n s → wpOn M (A.under c) (M.den c) (fun fin s' => match fin with
        | .done f => R (.ok f) s'
        | .again c' => (c' = c ∧ ∃ m, m < n ∧ I m s') ∨ (c'.quiet = true ∧ codeOn M A c' R s')) (fun e s' => R (.error e) s') s) :
    ∀ (n : Nat) (s : Shared), I n s → codeOn M A c R s := by
  intro n
  induction n using Nat.strongRecOn with
  | ind n ih =>
    intro s h
    refine codeOn_tree (wpOn_mono (turn n s h) (fun fin s' hf => ?_) fun _ _ h' => h')
    cases fin with
    | done f => exact hf
    | again c' =>
      rcases hf with ⟨rfl, m, hm, hI⟩ | hf
      · exact ⟨hq, ih m hm s' hI⟩
      · exact hf

/-- what the stack says of a refusal -/
theorem wpOn_mark {own : List String} {e : Value} {Q : Unit → Shared → Prop} (h : Q () s) : wpOn M A (markTheRefusal own e) Q E s := fun Γ p hΓ hC => by
  unfold markTheRefusal
  rw [Sem.wp_bind']
  show Sem.wp M Γ (if pythonCodeMadeTheCall own (((Γ.code, p) :: Γ.below).map (·.1)) = true then _ else _) _ _ p s
  rw [if_neg]
  · exact h
  · have hn : (((Γ.code, p) :: Γ.below).map (·.1)).any (fun c => match c with | .builtin "claim.caller" _ => true | _ => false) = true := by
      have h1 : Γ.below.any (fun x => x.1.isCaller) = true := hC
      rw [List.any_eq_true] at h1 ⊢
      obtain ⟨x, hx, hc⟩ := h1
      exact ⟨x.1, List.mem_map.mpr ⟨x, List.mem_cons_of_mem _ hx, rfl⟩, hc⟩
    unfold pythonCodeMadeTheCall
    intro hh
    have h1 := (Bool.and_eq_true_iff.mp (Bool.and_eq_true_iff.mp hh).1).1
    rw [Bool.not_eq_true'] at h1
    exact Bool.noConfusion (h1.symm.trans hn)
end

/-! ## the rules that a walk down to int needs -/
section
variable {M : Model} {A : Around} {E : Value → Shared → Prop} {s : Shared} {env : Env}
theorem wpOn_execs {st : Stmt} {rest : List Stmt} {Q : Flow → Shared → Prop} (h : wpOn M A (exec st env) (fun f s' => match f with | .next => wpOn M A (execs rest env) Q E s' | f => Q f s') E s) : wpOn M A (execs (st :: rest) env) Q E s := fun Γ p hΓ hC => by
  rw [execs_cons, Sem.wp_bind']
  refine Sem.wp_mono M Γ _ (fun f p' s' h' => ?_) (fun _ _ _ h' => h') _ _ (h Γ p hΓ hC)
  cases f <;> first | exact h' Γ p' hΓ hC | exact h'
theorem wpOn_Assign {x : Str} {pos' pos : Pos} {value : Expr} {Q : Flow → Shared → Prop} (h : wpOn M A (eval value env) (fun v s₁ => wpAny M A (storeName env x v) (fun _ => Q .next) E s₁) E s)
    (hs : swapsWith value (some (.Name x pos')) pos.line env = pure false := by rfl) : wpOn M A (exec (.Assign [.Name x pos'] value pos) env) Q E s := fun Γ p hΓ hC => by
  simp only [exec_Assign_Name env x pos' value pos hs, Sem.wp_bind', Sem.wp_cmd_standAt, Sem.wp_bindName, Sem.wp_pure']
  exact Sem.wp_mono M Γ _ (fun v _ s₁ h₁ => h₁ Γ _ hΓ) (fun _ _ _ h' => h') _ _ (h Γ _ hΓ hC)
theorem wpOn_If {test : Expr} {body orelse : List Stmt} {pos : Pos} {Q : Flow → Shared → Prop} (h : wpAny M A (isTrue test env (eval test env)) (fun b s₂ => if b then wpOn M A (execs body env) Q E s₂ else wpOn M A (execs orelse env) Q E s₂) E s) :
    wpOn M A (exec (.If test body orelse pos) env) Q E s := fun Γ p hΓ hC => by
  simp only [exec_If, Sem.wp_bind', Sem.wp_cmd_standAt]
  refine Sem.wp_mono M Γ _ (fun b p₂ s₂ h₂ => ?_) (fun _ _ _ h' => h') _ _ (h Γ _ hΓ)
  cases b <;> exact h₂ Γ p₂ hΓ hC
theorem wpOn_runOwn {c : Code} {Q : Flow → Shared → Prop} (hc : codeOn M A c (fun r s' => match r with | .ok f => Q f s' | .error e => cameBackBy M A env E e s') s) : wpOn M A (runOwn c env) Q E s := by
  unfold runOwn
  exact wpOn_onRaise (wpOn_run (h := none) hc)
theorem wpOn_For {target iter : Expr} {body orelse : List Stmt} {pos : Pos} {Q : Flow → Shared → Prop}
    (h : wpAny M A (eval iter env) (fun x s₁ => wpAny M A (pyIter x) (fun it s₂ =>
      codeOn M A (.forLoop target it body orelse env) (fun r s' => match r with | .ok f => Q f s' | .error e => cameBackBy M A env E e s') s₂) E s₁) E s)
    (hs : ∀ x, foldedSetIterable iter env x = pure x := by intro _; rfl) : wpOn M A (exec (.For target iter body orelse pos) env) Q E s := by
  rw [exec_For]
  refine wpOn_bind (on (wpAny_standAt (wpOn_bind (on (wpAny_mono h (fun x s₁ h₁ => ?_) fun _ _ e => e)))))
  refine wpOn_bind (wpOn_eq (hs x) (wpOn_pure (wpOn_bind (on (wpAny_standAt (wpOn_bind (wpOn_holding (on (wpAny_mono h₁ (fun it s₂ h₂ => wpOn_runOwn h₂) fun _ _ e => e)))))))))
theorem wpOn_Try {body orelse : List Stmt} {h₀ : ExceptHandler} {hs : List ExceptHandler} {pos : Pos} {Q : Flow → Shared → Prop}
    (h : wpOn M A (execs body env) (fun f s₁ => match f with | .next => wpAny M A (execs orelse env) Q E s₁ | f => Q f s₁)
      (fun e s₁ => wpAny M A (noteFrame e env) (fun _ s₂ => wpAny M A (setFlight e none) (fun _ s₃ => wpAny M A (handleBy e env (h₀ :: hs)) Q E s₃) E s₂) E s₁) s) :
    wpOn M A (exec (.Try body (h₀ :: hs) orelse [] pos) env) Q E s := by
  rw [arm_exec_Try]
  refine wpOn_bind (on (wpAny_standAt ?_))
  unfold tryStmt
  simp only [List.isEmpty_nil, if_true, List.isEmpty_cons, Bool.false_and, Bool.false_eq_true, if_false]
  refine wpOn_bind (wpOn_attempt (wpOn_mono h (fun f s₁ h₁ => ?_) fun e s₁ h₁ => ?_))
  · cases f <;> first | exact on h₁ | exact wpOn_pure h₁
  · exact wpOn_bind (on (wpAny_mono h₁ (fun _ _ h₂ => wpOn_bind (on (wpAny_mono h₂ (fun _ _ h₃ => on h₃) fun _ _ x => x))) fun _ _ x => x))
theorem wpOn_Call {id : Str} {p pos : Pos} {args : List Expr} {Q : Value → Shared → Prop}
    (h : wpAny M A (eval (.Name id p) env) (fun f s₁ => wpOn M A (callWith pos f [] (backTo pos (starEach args env)) []) Q E s₁) E s) : wpOn M A (eval (.Call (.Name id p) args [] pos) env) Q E s := by
  show wpOn M A (do callWith pos (← eval (.Name id p) env) [] (backTo pos (starEach args env)) (backToKw pos (keywordEach [] env))) Q E s
  exact wpOn_bind (on h)
end

section
variable {prog : Program} {w : World} {A : Around} {E : Value → Shared → Prop} {R : Result → Shared → Prop} {s : Shared}
theorem codeOn_forLoop {target : Expr} {it : Value} {body orelse : List Stmt} {env : Env} (I : Nat → Shared → Prop)
    (turn : ∀ n s, I n s → wpAny (model prog w) A (pyNext it) (fun r s₁ => match r with
      | none => wpAny (model prog w) A (execs orelse env) (fun f s₃ => R (.ok f) s₃) (notedBy (model prog w) A env fun e s' => R (.error e) s') s₁
      | some v => wpAny (model prog w) A (assign target env v) (fun _ s₂ => wpOn (model prog w) A (execs body env) (fun f s₃ => match f with
          | .next | .cont => ∃ m, m < n ∧ I m s₃
          | .brk => R (.ok .next) s₃
          | .ret v => R (.ok (.ret v)) s₃) (notedBy (model prog w) A env fun e s' => R (.error e) s') s₂) (notedBy (model prog w) A env fun e s' => R (.error e) s') s₁) (notedBy (model prog w) A env fun e s' => R (.error e) s') s)
    (n : Nat) (h : I n s) (ht : ∀ v, letOwnedTupleGo target it v = pure () := by intro _; rfl) : codeOn (model prog w) A (.forLoop target it body orelse env) R s := by
  refine codeOn_loop rfl I (fun n s hI => ?_) n s h
  show wpOn _ _ ((forTurn target it body orelse env).onRaise (fun x => do noteFrame x env; theTreesLotGoes x)) _ _ s
  have back : ∀ (x : Value) (s' : Shared), notedBy (model prog w) A env (fun e s' => R (.error e) s') x s' → wpAny (model prog w) A (do noteFrame x env; theTreesLotGoes x) (fun _ s'' => R (.error x) s'') (fun e s' => R (.error e) s') s' :=
    fun x s' hx => wpAny_bind (wpAny_mono hx (fun _ _ e => wpAny_theTreesLotGoes e) fun _ _ e => e)
  refine wpOn_onRaise (wpOn_mono (E := notedBy (model prog w) A env (fun e s' => R (.error e) s')) ?_ (fun _ _ q => q) back)
  simp only [forTurn]
  refine wpOn_bind (on (wpAny_standAt (wpOn_bind (on (wpAny_onRaise (wpAny_mono (turn n s hI) (fun r s₁ h₁ => ?_) fun _ _ h' => wpAny_standAt h'))))))
  cases r with
  | none => exact wpOn_pure (.inr ⟨rfl, onC (codeAny_block h₁)⟩)
  | some v =>
    refine wpOn_bind (wpOn_eq (ht v) (wpOn_pure ?_))
    refine wpOn_bind (on (wpAny_mono h₁ (fun _ s₂ h₂ => wpOn_bind (wpOn_mono h₂ (fun f s₃ h₃ => ?_) fun _ _ h' => h')) fun _ _ h' => h'))
    cases f with
    | next => exact wpOn_pure (.inl ⟨rfl, h₃⟩)
    | cont => exact wpOn_pure (.inl ⟨rfl, h₃⟩)
    | brk => exact wpOn_pure h₃
    | ret v => exact wpOn_pure h₃
theorem codeOn_func {body : List Stmt} {env : Env} (h : wpOn (model prog w) (A.deeper env) (execs body env) (fun f s' => R (.ok (.ret (match f with | .ret v => v | _ => .none))) s') (fun _ _ => False) s) : codeOn (model prog w) A (.func body env) R s := by
  refine codeOn_tree ?_
  show wpOn _ (A.deeper env) (do point; match ← (execs body env).onRaise (leaving env) with | .ret v => ret v | _ => ret .none) _ _ s
  refine wpOn_bind (on (wpAny_point (wpOn_bind (wpOn_onRaise (wpOn_mono h (fun f s' h' => ?_) fun _ _ h' => h'.elim)))))
  cases f <;> exact wpOn_pure h'
theorem codeOn_function {a : Addr} {args : Args} {o : Obj} {fd : FuncData} {body : List Stmt} (hroom : A.depth < recursionLimit) (ho : s.heap.get? a = some o)
    (hd' : o.data = .func fd) (hco : fd.scope.isCoroutine = false) (hgen : fd.scope.isGenerator = false) (hbody : fd.body = .stmts body) (hcd : s.heap.CodeRec fd.code fd.qualname)
    (h : wpAny (model prog w) A.in1 (bindArgs fd args) (fun binds s₁ =>
      wpAny (model prog w) A.in1 (newFunctionEnv fd.scope fd.globals fd.closure binds (fd.qualname ++ ".<locals>.") (some a) fd.code none fd.builtins)
        (fun env s₂ => s₂.heap.NoLimit ∧ codeOn (model prog w) A (.func body env) R s₂) (fun e s' => R (.error e) s') s₁) (fun e s' => R (.error e) s') s) :
    codeOn (model prog w) A (.call (.ref a) args) R s := by
  refine codeOn_tree ?_
  show wpOn _ A.in1 (callAny (.ref a) args) _ _ s
  simp only [callAny]
  refine wpOn_bind (on (wpAny_load ho ?_))
  obtain ⟨c, oc, vs, tq, hc, hoc, hdc, hq⟩ := hcd
  simp only [hd', callFunction, hco, hgen, hbody, hc]
  rw [hc] at h
  refine wpOn_bind (m := field (.ref c) 1) (on (wpAny_field hoc hdc hq (wpOn_bind (wpOn_pure ?_))))
  exact wpOn_bind (on (wpAny_mono h (fun binds s₁ h₁ => wpOn_bind (on (wpAny_mono h₁ (fun env s₂ h₂ => wpOn_bind (on (wpAny_enterFrame h₂.1 hroom (wpOn_pure (And.intro rfl h₂.2))))) fun _ _ h' => h'))) fun _ _ h' => h'))
end
end Mine
-- On2
set_option Elab.async false
set_option maxRecDepth 100000
set_option linter.unusedVariables false
namespace Mine
open PySem PySem.W PySem.Calls PyProof.Rows

/-- the claim's own context -/
abbrev gam0 : PySem.Ctx := ⟨.builtin "claim.caller" {}, none, none, [], none⟩
theorem gam0_below (f : Value) (vs : List Value) (p : Pos) : CalB (gam0.enter (.call f ⟨vs, []⟩) none p) := by
  show (([((Code.builtin "claim.caller" {}), p)] : List (Code × Pos)).any (fun x => x.1.isCaller)) = true
  rfl

/-- what a law's call is to show: under the caller alone -/
abbrev WalkS (q : Program) (loose : List Str) (XP : (Str → Option Value) → Heap → Prop) (YP : World → Heap → Prop) (r : RowW) (d : DefRec) (kwd : List (Str × Expr)) : Prop :=
  ∀ (w : World) (s₀ s₁ : Shared) (mg mb : Str → Option Value), Ground q loose r.records XP w s₀ mg mb s₁.heap → YP w s₁.heap → ∀ (a : Addr) (o : Obj) (pm cd doc dV kV : Value), s₁.heap.get? a = some o →
    o.data = .func { docDef d.name d.params d.body d.scope pm cd doc with defaults := dV, kwdefaults := kV } → s₁.heap.CodeRec cd d.name → Dflts mg s₁.heap d.params kwd dV kV → mg d.name = some (.ref a) → s₁.gens = #[] →
    ∀ (args : List WData) (vals : List Value) (as : List Addr), r.claim.pre args = true → WData.layableAll args = true → ReadsAllW r.records (classAt s₀.heap) s₁.heap vals args as → WellAll w.params s₁.heap vals args → (∀ a ∈ as, (a == sysModules) = false) →
      codeOn (model r.prog w) callerA (.call (.ref a) ⟨vals, []⟩) (fun res s' => match res with
        | .ok (.ret v) => GoodWG r.claim (classAt s₀.heap) (ExcName.means s₀.heap) args s₁ (.ok (.ret v)) s'
        | .ok _ => False
        | .error e => GoodWG r.claim (classAt s₀.heap) (ExcName.means s₀.heap) args s₁ (.error e) s') s₁

end Mine

namespace Mine.Top
open _root_.PySem _root_.PySem.W _root_.PySem.Calls _root_.PyProof.Rows
/-- the head for it: open_top, in this namespace, takes it in the place of the library's own -/
theorem PySem.W.holds_open {r : OpenRow} {q : Program} {loose : List Str} {Xt : Shared → Bool} {XP : (Str → Option Value) → Heap → Prop} {α : Type} {Yf : Shared → α} {Ya : World → α} {YP : World → Heap → Prop} {d : DefRec} {kwd : List (Str × Expr)} {N : Nat}
    (left : LeftO r.prog q loose Xt Yf Ya N) (hY : ∀ w s, Yf s = Ya w → YP w s.heap) (hYk : ∀ w h h', YP w h → (∀ b o, h.get? b = some o → h'.get? b = some o) → YP w h')
    (hX : ∀ s, Xt s = true → XP (s.heap.nsMap mainGlobals) s.heap) (hXk : ∀ mg h h', XP mg h → (∀ b o, h.get? b = some o → h'.get? b = some o) → XP mg h')
    (hdef : defOf q r.name = some (d, kwd)) (hp : r.prog.theDef r.name = some (d.params, d.body, d.scope)) (hk : kwWritten? d.params.kwonlyargs d.params.kw_defaults = some kwd) (hRf : ∀ s, Xt s = true → RecFacts r.records s.heap) (hwr : (!r.writes || r.records.isEmpty) = true)
    (k1 : r.wellSaid = true) (ok : (chainsOk q && opensWell r.prog && (frees r.toRowW && r.within.isEmpty)) = true) (hb : r.prog.bare) (hw : r.toRowW.promised)
    (walk : WalkS q loose XP YP r.toRowW d kwd) : r.Holds := by
  obtain ⟨ok1, k5⟩ := Bool.and_eq_true_iff.mp ok
  obtain ⟨hch, o1⟩ := Bool.and_eq_true_iff.mp ok1
  obtain ⟨k5, k6⟩ := Bool.and_eq_true_iff.mp k5
  obtain ⟨hsame, hu, ha, hap, hm⟩ := frees_parts k5
  refine ⟨k1, hw, ⟨hb, o1, by show r.toRowW.makers.map _ = []; rw [hm]; rfl⟩, hw.witness, fun w => ⟨(left.behind hX hch w).1, fun s' hs' => ?_⟩⟩
  obtain ⟨s₀, hf, hg0, s, hT, hz, hgens, hg, G00, y⟩ := (left.behind (XP := fun mg h => XP mg h ∧ RecFacts r.records h) (fun s hs => ⟨hX s hs, hRf s hs⟩) hch w).2 s' hs'
  have G0 : Ground q loose [] XP w s (s.heap.nsMap mainGlobals) (s.heap.nsMap builtinsNs) s.heap := ⟨G00.T, G00.B, G00.D, G00.TE, G00.TD, G00.W, G00.X.1, G00.cls, G00.has, G00.apart, G00.once, G00.K⟩
  have RF := G00.X.2
  have G : Ground q loose r.records XP w s _ _ s.heap := RF.ground G0
  have hgens : s.gens = #[] := Array.eq_empty_of_size_eq_zero (beq_iff_eq.mp hgens)
  refine ⟨s₀, hf, hg0, s, hT, fun n hn => ?_, RF.1, RF.2.1, fun args hpre hlay ord hord => ?_⟩
  · obtain rfl : n = r.name := by split at hn <;> simp_all
    exact pinned_of_view hg G0 hdef hp hk
  obtain ⟨⟨vs, s₁⟩, hlaid⟩ := Option.isSome_iff_exists.mp (layAllW_isSome (P := w.params) (ord := ord) G.has args r.args s (pre_splitW hpre).1)
  have keeps := layAllW_keeps _ _ _ hlaid
  have hal := layAllW_rest _ _ _ hlaid
  obtain ⟨as, hrd, hin, hold⟩ := reads_layAllW hord _ _ _ hlaid hlay s₁.heap (fun _ _ e => e)
  have L : Laid r.records w s s₁ args vs as := ⟨⟨ord, hord, hlaid⟩, hrd, hin, hold, keeps, hal.1.trans hgens, hal.2.2.1⟩
  have G₁ := G.keeps hXk keeps
  obtain ⟨a, o, pm, cd, doc, dV, kV, h1, h2, h3, h4, h5⟩ := G₁.fn hdef
  have hcode := walk w s s₁ _ _ G₁ (hYk _ _ _ (hY w s y) keeps) a o pm cd doc dV kV h2 h3 h4 h5 (defOf_name hdef ▸ h1) L.gens args vs as hpre hlay L.reads L.well (L.low G.low)
  have hi := ident_freeW hu ha hap
  have hwi : r.toRowW.claim.within = [] := List.isEmpty_iff.mp k6
  -- what the call leaves
  let kept : Heap → Prop := fun h' => r.writes = true → namesKept r.toRowW.claim.prog r.keeps s.heap h' ∧ ∀ x ∈ r.toRowW.claim.records, ∀ a, classAt s.heap x.1 = some a → recordClass h' a x.1 (x.2.map (·.1)) = true
  let RR : Result → Shared → Prop := fun res s' => r.toRowW.claim.Ends s args vs s₁ res s' ∧ s'.os = s.os ∧ kept s'.heap
  have done : ∀ res s', GoodWG r.toRowW.claim (classAt s.heap) (ExcName.means s.heap) args s₁ res s' → RR res s' ∧ leftWithCleanup s'.gens = false := fun res s' g => by
    have z := g.laid (c := r.toRowW.claim) hsame hwi hi L
    exact ⟨⟨z.1, z.2.1, fun q => ⟨namesKept_of hT hg r.keeps keeps g.2.1.old, noTable hwr q⟩⟩, leftWithCleanup_false_of_bare z.2.2⟩
  have hwp : Sem.wp (model r.prog w) gam0 (do match ← nsGet mainNs r.name with
      | some f => do ret (← PySem.call f vs)
      | none => unsupported "claim.caller:no-such-global") (Sem.finPost (model r.prog w) gam0 fun res s' => RR res s' ∧ leftWithCleanup s'.gens = false)
      (fun e _ s' => RR (.error e) s' ∧ leftWithCleanup s'.gens = false) default s₁ := by
    rw [Sem.wp_bind']
    refine Sem.wp_mono _ _ _ (fun v p' s' hv => ?_) (fun _ _ _ h' => h') _ _ ((wpAny_nsGet (M := model r.prog w) (A := callerA) (E := fun _ _ => False) (Q := fun v s' => v = some (.ref a) ∧ s' = s₁) G₁.T.g ⟨h1, rfl⟩ : wpAny _ _ _ _ _ _) gam0 default caller_in |> Sem.wp_mono _ _ _ (fun _ _ _ q => q) (fun _ _ _ q => q.elim) _ _)
    obtain ⟨rfl, rfl⟩ := hv
    dsimp only
    rw [Sem.wp_bind']
    show Sem.wp _ _ (runValue (.call (.ref a) ⟨vs, []⟩)) _ _ _ _
    rw [Sem.wp_runValue]
    refine wpCode_mono (fun res s'' hr => ?_) (hcode (gam0.enter (.call (.ref a) ⟨vs, []⟩) none p') p' rfl (caller_in.enter _ none p' (by intro x; cases x)) (gam0_below _ _ _))
    cases res with
    | error e => exact done _ _ hr
    | ok fl => cases fl with
      | ret v => exact done _ _ hr
      | _ => exact hr.elim
  obtain ⟨n, res, sr, sf, hsched, hrun, hfo, hcase, hos, hkp⟩ := wp_halts_full (M := model r.prog w) (R := RR) (Shared.asleep_of_life hal.2.2.2 hz) hwp
  obtain ⟨eh, _, _, eo, _⟩ := Shared.forget_eq hfo
  have hcase := hcase.congr eh
  have hkp : kept sf.heap := by rw [eh]; exact hkp
  have hos' : sf.os = s.os := eo.trans hos
  have hlife : sf.heap.life = s.heap.life := (runN_life _ _ _ hrun).trans hal.2.2.2
  refine ⟨vs, s₁, hlaid, n, _, sf, hsched, ?_, (fun _ i x hx => by rw [hgens] at hx; simp at hx), hkp, by rw [hlife], Shared.rest_eq hos'⟩
  rcases hcase with ⟨v, rfl, d1, d2, d3, d4, d5⟩ | ⟨e, ob, cls, rfl, d1, d2, d3, d4, d5⟩
  · exact .inl ⟨v, rfl, d1, d2, d3, fun b o y _ => d4 b o y, d5⟩
  · exact .inr ⟨e, ob, cls, rfl, d1, d2, d3, d4, fun b o y _ => d5 b o y⟩
end Mine.Top
-- Head
set_option Elab.async false
namespace Mine.Top
set_option maxRecDepth 100000 in
set_option maxHeartbeats 0 in
open_top hd for PySem.Challenge.rw_mj0151_01
end Mine.Top
-- RX
set_option Elab.async false
set_option maxRecDepth 100000
set_option linter.unusedVariables false
namespace Mine
open PySem PySem.Sre

def rxCode : Array Nat := #[14, 4, 0, 1, 4294967295, 17, 0, 7, 14, 24, 10, 1, 4294967295, 13, 5, 22, 48, 57, 0, 1, 15, 17, 15, 13, 11, 9, 0, 26624, 2147483648, 0, 0, 0, 0, 0, 0, 15, 2, 0, 17, 1, 1]
def dig (c : Nat) : Bool := decide (48 ≤ c) && decide (c ≤ 57)
def sgn (c : Nat) : Bool := c == 43 || c == 45 || c == 46 || c == 95

theorem acc_dig0 (c : Nat) (seen : Seen) : accepts rxCode 13 c seen = if (decide (48 ≤ c) && decide (c ≤ 57)) = true then .ok (true, seen.add 22) else .ok (false, (seen.add 22).add 0) := rfl
theorem acc_dig (c : Nat) (seen : Seen) : ∃ seen', accepts rxCode 13 c seen = .ok (dig c, seen') := by
  rw [acc_dig0]
  unfold dig
  cases (decide (48 ≤ c) && decide (c ≤ 57))
  · exact ⟨_, rfl⟩
  · exact ⟨_, rfl⟩
theorem acc_sgn0 (c : Nat) (seen : Seen) : accepts rxCode 23 c seen = if (decide (c < 256) && (rxCode.getD (25 + (1 + c / 32)) 0).testBit (c % 32)) = true then .ok (true, seen.add 9) else .ok (false, (seen.add 9).add 0) := rfl
theorem sgn_bits : ∀ c < 256, (rxCode.getD (25 + (1 + c / 32)) 0).testBit (c % 32) = sgn c := by decide +kernel
theorem acc_sgn (c : Nat) (seen : Seen) : ∃ seen', accepts rxCode 23 c seen = .ok (sgn c, seen') := by
  rw [acc_sgn0]
  have key : (decide (c < 256) && (rxCode.getD (25 + (1 + c / 32)) 0).testBit (c % 32)) = sgn c := by
    by_cases h : c < 256
    · rw [sgn_bits c h, decide_eq_true h]; rfl
    · have h1 : sgn c = false := by
        unfold sgn
        simp only [Bool.or_eq_false_iff, beq_eq_false_iff_ne]
        omega
      rw [h1, decide_eq_false h]; rfl
  rw [key]
  cases sgn c
  · exact ⟨_, rfl⟩
  · exact ⟨_, rfl⟩

/-- a run of figures -/
theorem run_dig (text : Array Nat) : ∀ (n p found : Nat) (seen : Seen) (k : Nat), k ≤ n → (∀ i < k, dig (text.getD (p + i) 0) = true) → (k < n → dig (text.getD (p + k) 0) = false) →
    ∃ seen', run rxCode text 13 n p found seen = .ok (found + k, seen')
  | 0, p, found, seen, k, hk, _, _ => ⟨seen, by rw [Nat.le_zero.mp hk]; rfl⟩
  | n + 1, p, found, seen, k, hk, h1, h2 => by
    obtain ⟨s1, e1⟩ := acc_dig (text.getD p 0) seen
    show ∃ seen', (accepts rxCode 13 (text.getD p 0) seen >>= fun x => if x.1 = true then run rxCode text 13 n (p + 1) (found + 1) x.2 else pure (found, x.2)) = _
    rw [e1]
    cases k with
    | zero =>
      have := h2 (Nat.succ_pos _)
      rw [Nat.add_zero] at this
      exact ⟨s1, by rw [this]; rfl⟩
    | succ k =>
      have q := h1 0 (Nat.succ_pos _)
      rw [Nat.add_zero] at q
      obtain ⟨s2, e2⟩ := run_dig text n (p + 1) (found + 1) s1 k (by omega) (fun i hi => by have := h1 (i + 1) (by omega); rwa [show p + (i + 1) = p + 1 + i by omega] at this) (fun hi => by have := h2 (by omega); rwa [show p + (k + 1) = p + 1 + k by omega] at this)
      refine ⟨s2, ?_⟩
      show (if dig (text.getD p 0) = true then run rxCode text 13 n (p + 1) (found + 1) s1 else pure (found, s1)) = _
      rw [q, if_pos rfl, e2]
      congr 2
      omega

/-! ### the machine, step by step -/
/-- all states that a search goes through -/
abbrev rS (text : Array Nat) (lim start pc pos handed : Nat) (first : Bool) (m0 m1 : Option Nat) (lastmark lastindex : Int) (frames : List Sre.Frame) (weight : Nat) (answer : Option Bool) (seen : Seen) (outcome : Option Sre.Outcome) : M :=
  { code := rxCode, text, lim, start, lastStart := lim, wholeText := false, mustAdvance := false, pc, pos, handed, outermost := first, marks := #[m0, m1], lastmark, lastindex, loops := #[], inner := none, frames, weight, answer, seen, outcome }
abbrev fS (p : Nat) (first : Bool) : Sre.Frame := { wait := .nextStart, pc := 5, pos := p, outermost := first }
abbrev kB : Sre.Kept := { lastmark := 0, lastindex := -1, whole := false, marks := #[] }
abbrev fB (p pc : Nat) (first : Bool) : Sre.Frame := { wait := .nextBranch, pc := pc, pos := p, outermost := first, kept := kB }
abbrev fG (p n : Nat) (first : Bool) : Sre.Frame := { wait := .giveBack, pc := 9, pos := p, outermost := first, count := (n : Int), kept := kB }

section
variable {text : Array Nat} {lim p : Nat} {first : Bool} {m0 : Option Nat} {seen : Seen}
theorem s1 : (rS text lim p 5 p p first m0 none (-1) (-1) [fS p first] 1 none seen none).step = rS text lim p 7 p p first (some p) none 0 (-1) [fS p first] 1 none (seen.add 17) none := rfl
theorem s2 : (rS text lim p 7 p p first (some p) none 0 (-1) [fS p first] 1 none seen none).step = rS text lim p 9 p p first (some p) none 0 (-1) [fB p 8 first, fS p first] 2 none (seen.add 7) none := rfl
theorem s3 : (rS text lim p 9 p p first (some p) none 0 (-1) [fB p 8 first, fS p first] 2 none seen none).step =
    (if ((1 : Nat) : Int) > ((lim : Int) - (p : Int)) then rS text lim p 9 p p first (some p) none 0 (-1) [fB p 8 first, fS p first] 2 (some false) (seen.add 24) none else
      match run rxCode text 13 (min 4294967295 ((lim : Int) - (p : Int)).toNat) p 0 ((seen.add 24).add 13) with
      | .error why => (rS text lim p 9 p p first (some p) none 0 (-1) [fB p 8 first, fS p first] 2 none (seen.add 24) none).stick why
      | .ok (n, seen') => if n < 1 then rS text lim p 9 p p first (some p) none 0 (-1) [fB p 8 first, fS p first] 2 (some false) seen' none else
        rS text lim p 20 (p + n) (p + n) first (some p) none 0 (-1) [fG (p + n) n first, fB p 8 first, fS p first] 3 none seen' none) := rfl

variable {n h : Nat} {fr : List Sre.Frame} {wt : Nat} {q : Option Nat}
-- figures
theorem d4 : (rS text lim p 20 h h first (some p) none 0 (-1) fr wt none seen none).step = rS text lim p 38 h h first (some p) none 0 (-1) fr wt none (seen.add 15) none := rfl
theorem d5 : (rS text lim p 38 h n first (some p) none 0 (-1) fr wt none seen none).step = rS text lim p 40 h n first (some p) (some h) 1 1 fr wt none (seen.add 17) none := by
  have e : (rS text lim p 38 h n first (some p) none 0 (-1) fr wt none seen none).step = (rS text lim p 38 h n first (some p) none 0 (-1) fr wt none (seen.add 17) none).mark 1 := rfl
  rw [e]
  unfold M.mark
  rw [if_pos (show ((1 : Nat) : Int) ≤ (0 : Int) + 1 by decide)]
  rfl
theorem d6 : (rS text lim p 40 h n first (some p) (some h) 1 1 fr wt none seen none).step = rS text lim p 40 h h first (some p) (some h) 1 1 fr wt (some true) (seen.add 1) none := by cases first <;> rfl
theorem d7 {k pos : Nat} : (rS text lim p k pos h first (some p) (some h) 1 1 (fG h n first :: fr) (wt + 1) (some true) seen none).step = rS text lim p 9 h h first (some p) (some h) 1 1 fr wt (some true) seen none := rfl
theorem d8 {k pos c : Nat} : (rS text lim p k pos h first (some p) (some h) 1 1 (fB p c first :: fr) (wt + 1) (some true) seen none).step = rS text lim p c p h first (some p) (some h) 1 1 fr wt (some true) seen none := rfl
theorem d9 {k pos : Nat} : (rS text lim p k pos h first (some p) (some h) 1 1 (fS p first :: fr) (wt + 1) (some true) seen none).step = rS text lim p 5 p h first (some p) (some h) 1 1 fr wt (some true) seen none := rfl
theorem d10 {k pos : Nat} : (rS text lim p k pos h first (some p) (some h) 1 1 [] wt (some true) seen none).step = rS text lim p k pos h first (some p) (some h) 1 1 [] wt (some true) seen (some .matched) := rfl
-- no figure
theorem e1 {k pos : Nat} : (rS text lim p k pos h first (some p) none 0 (-1) [fB p 8 first, fS p first] 2 (some false) seen none).step = rS text lim p 23 p p first (some p) none 0 (-1) [fB p 22 first, fS p first] 2 none seen none := rfl
theorem e2 : (rS text lim p 23 p p first (some p) none 0 (-1) fr wt none seen none).step =
    (if p ≥ lim then rS text lim p 23 p p first (some p) none 0 (-1) fr wt (some false) (seen.add 13) none else
      match accepts rxCode 23 (text.getD p 0) (seen.add 13) with
      | .error why => (rS text lim p 23 p p first (some p) none 0 (-1) fr wt none (seen.add 13) none).stick why
      | .ok (false, seen') => rS text lim p 23 p p first (some p) none 0 (-1) fr wt (some false) seen' none
      | .ok (true, seen') => rS text lim p 35 (p + 1) p first (some p) none 0 (-1) fr wt none seen' none) := rfl
theorem e3 : (rS text lim p 35 h n first (some p) none 0 (-1) fr wt none seen none).step = rS text lim p 38 h n first (some p) none 0 (-1) fr wt none (seen.add 15) none := rfl
theorem e4 {k pos : Nat} : (rS text lim p k pos h first (some p) none 0 (-1) [fB p 22 first, fS p first] 2 (some false) seen none).step = rS text lim p 22 p h first (some p) none 0 (-1) [fS p first] 1 (some false) seen none := rfl
theorem e5 {k pos : Nat} : (rS text lim p k pos h first (some p) none 0 (-1) [fS p first] 1 (some false) seen none).step =
    (if p < lim then rS text lim (p + 1) 5 (p + 1) (p + 1) false (some p) none (-1) (-1) [fS (p + 1) false] 1 none seen none else rS text lim p 5 p h first (some p) none 0 (-1) [] 0 (some false) seen none) := rfl
theorem e6 {k pos : Nat} : (rS text lim p k pos h first (some p) none 0 (-1) [] wt (some false) seen none).step = rS text lim p k pos h first (some p) none 0 (-1) [] wt (some false) seen (some .failed) := rfl

/-- k steps lead from m to m' -/
def Rch (k : Nat) (m m' : M) : Prop := ∀ j, M.runFor (k + j) m = M.runFor j m'
theorem Rch.refl (m : M) : Rch 0 m m := fun j => by rw [Nat.zero_add]
theorem Rch.step {k : Nat} {m m' m'' : M} (h0 : m.outcome = none) (e : m.step = m') (h : Rch k m' m'') : Rch (k + 1) m m'' := fun j => by
  rw [show k + 1 + j = (k + j) + 1 by omega]
  show (if m.outcome.isSome then m else M.runFor (k + j) m.step) = _
  rw [h0, e]
  exact h j
end

/-- where a match is found -/
def Found (text : Array Nat) (lim a b : Nat) (m : M) : Prop := ∃ first seen k pos wt, m = rS text lim a k pos b first (some a) (some b) 1 1 [] wt (some true) seen (some .matched)
def Lost (m : M) : Prop := m.outcome = some .failed

theorem try_dig {text : Array Nat} {lim p n : Nat} {first : Bool} {m0 : Option Nat} {seen : Seen} (hn : 1 ≤ n) (hp : p + n ≤ lim) (hl : lim ≤ 4294967295) (h1 : ∀ i < n, dig (text.getD (p + i) 0) = true) (h2 : p + n < lim → dig (text.getD (p + n) 0) = false) :
    ∃ m', Found text lim p (p + n) m' ∧ Rch 10 (rS text lim p 5 p p first m0 none (-1) (-1) [fS p first] 1 none seen none) m' := by
  obtain ⟨sn, er⟩ := run_dig text (min 4294967295 ((lim : Int) - (p : Int)).toNat) p 0 (((seen.add 17).add 7).add 24 |>.add 13) n (by omega) h1 (fun hlt => h2 (by omega))
  have x3 : (rS text lim p 9 p p first (some p) none 0 (-1) [fB p 8 first, fS p first] 2 none ((seen.add 17).add 7) none).step = rS text lim p 20 (p + n) (p + n) first (some p) none 0 (-1) [fG (p + n) n first, fB p 8 first, fS p first] 3 none sn none := by
    rw [s3, if_neg (by omega), er]
    simp only [Nat.zero_add]
    rw [if_neg (by omega)]
  refine ⟨_, ⟨_, _, _, _, _, rfl⟩, .step rfl s1 (.step rfl s2 (.step rfl x3 (.step rfl d4 (.step rfl d5 (.step rfl d6 (.step rfl d7 (.step rfl d8 (.step rfl d9 (.step rfl d10 (.refl _))))))))))⟩

theorem no_dig {text : Array Nat} {lim p : Nat} {first : Bool} {seen : Seen} (hp : p ≤ lim) (hl : lim ≤ 4294967295) (h : p < lim → dig (text.getD p 0) = false) :
    ∃ seen' h', (rS text lim p 9 p p first (some p) none 0 (-1) [fB p 8 first, fS p first] 2 none seen none).step = rS text lim p 9 p h' first (some p) none 0 (-1) [fB p 8 first, fS p first] 2 (some false) seen' none := by
  rw [s3]
  by_cases hr : ((1 : Nat) : Int) > ((lim : Int) - (p : Int))
  · rw [if_pos hr]; exact ⟨_, _, rfl⟩
  · rw [if_neg hr]
    obtain ⟨sn, er⟩ := run_dig text (min 4294967295 ((lim : Int) - (p : Int)).toNat) p 0 ((seen.add 24).add 13) 0 (Nat.zero_le _) (fun i hi => absurd hi (Nat.not_lt_zero _)) (fun _ => h (by omega))
    rw [er]
    exact ⟨_, _, rfl⟩

theorem try_sgn {text : Array Nat} {lim p : Nat} {first : Bool} {m0 : Option Nat} {seen : Seen} (hp : p < lim) (hl : lim ≤ 4294967295) (h1 : dig (text.getD p 0) = false) (h2 : sgn (text.getD p 0) = true) :
    ∃ m', Found text lim p (p + 1) m' ∧ Rch 11 (rS text lim p 5 p p first m0 none (-1) (-1) [fS p first] 1 none seen none) m' := by
  obtain ⟨sn, hh, x3⟩ := no_dig (text := text) (first := first) (seen := (seen.add 17).add 7) (Nat.le_of_lt hp) hl (fun _ => h1)
  obtain ⟨sa, ea⟩ := acc_sgn (text.getD p 0) (sn.add 13)
  have x5 : (rS text lim p 23 p p first (some p) none 0 (-1) [fB p 22 first, fS p first] 2 none sn none).step = rS text lim p 35 (p + 1) p first (some p) none 0 (-1) [fB p 22 first, fS p first] 2 none sa none := by
    rw [e2, if_neg (by omega), ea, h2]
  refine ⟨_, ⟨_, _, _, _, _, rfl⟩, .step rfl s1 (.step rfl s2 (.step rfl x3 (.step rfl e1 (.step rfl x5 (.step rfl e3 (.step rfl d5 (.step rfl d6 (.step rfl d8 (.step rfl d9 (.step rfl d10 (.refl _)))))))))))⟩

theorem try_none {text : Array Nat} {lim p : Nat} {first : Bool} {m0 : Option Nat} {seen : Seen} (hp : p ≤ lim) (hl : lim ≤ 4294967295) (h1 : p < lim → dig (text.getD p 0) = false) (h2 : p < lim → sgn (text.getD p 0) = false) :
    ∃ seen' h' wt, Rch 7 (rS text lim p 5 p p first m0 none (-1) (-1) [fS p first] 1 none seen none)
      (if p < lim then rS text lim (p + 1) 5 (p + 1) (p + 1) false (some p) none (-1) (-1) [fS (p + 1) false] 1 none seen' none else rS text lim p 5 p h' first (some p) none 0 (-1) [] wt (some false) seen' none) := by
  obtain ⟨sn, hh, x3⟩ := no_dig (text := text) (first := first) (seen := (seen.add 17).add 7) hp hl h1
  obtain ⟨sa, x5⟩ : ∃ sa, (rS text lim p 23 p p first (some p) none 0 (-1) [fB p 22 first, fS p first] 2 none sn none).step = rS text lim p 23 p p first (some p) none 0 (-1) [fB p 22 first, fS p first] 2 (some false) sa none := by
    rw [e2]
    by_cases hlt : p < lim
    · obtain ⟨sa, ea⟩ := acc_sgn (text.getD p 0) (sn.add 13)
      rw [if_neg (by omega), ea, h2 hlt]
      exact ⟨_, rfl⟩
    · rw [if_pos (by omega)]; exact ⟨_, rfl⟩
  exact ⟨sa, p, 0, .step rfl s1 (.step rfl s2 (.step rfl x3 (.step rfl e1 (.step rfl x5 (.step rfl e4 (.step rfl e5 (.refl _)))))))⟩
end Mine
-- RX2
set_option Elab.async false
set_option maxRecDepth 100000
set_option linter.unusedVariables false
namespace Mine
open PySem PySem.Sre PySem.Builtin.Re
open PyProof.Rows hiding Seen

theorem runFor_stop {m : M} (h : m.outcome.isSome = true) : ∀ j, M.runFor j m = m
  | 0 => rfl
  | j + 1 => by show (if m.outcome.isSome then m else _) = m; rw [h, if_pos rfl]
theorem runFor_add (b : Nat) : ∀ (a : Nat) (m : M), M.runFor (a + b) m = M.runFor b (M.runFor a m)
  | 0, m => by rw [Nat.zero_add]; rfl
  | a + 1, m => by
    rw [show a + 1 + b = (a + b) + 1 by omega]
    show (if m.outcome.isSome then m else M.runFor (a + b) m.step) = M.runFor b (if m.outcome.isSome then m else M.runFor a m.step)
    by_cases h : m.outcome.isSome = true
    · rw [if_pos h, if_pos h, runFor_stop h]
    · rw [if_neg h, if_neg h, runFor_add b a]

section
variable {Mo : Model} {A : Around} {E : Value → Shared → Prop} {s : Shared}
theorem drive {Q : M → Shared → Prop} : ∀ (T k : Nat) (m m' : M), M.runFor k m = m' → m'.outcome.isSome = true → 0 < T → k ≤ 4 * T → Q m' s → wpAny Mo A (reDrive T m) Q E s
  | 0, k, m, m', e, ho, h0, hk, hq => absurd h0 (Nat.lt_irrefl _)
  | T + 1, k, m, m', e, ho, h0, hk, hq => by
    show wpAny Mo A (if (M.runFor 4 m).outcome.isSome then pure (M.runFor 4 m) else do rule "sre.turn"; reDrive T (M.runFor 4 m)) Q E s
    by_cases h4 : (M.runFor 4 m).outcome.isSome = true
    · have : M.runFor 4 m = m' := by
        have a := runFor_add k 4 m
        have b := runFor_add 4 k m
        rw [runFor_stop h4] at a
        rw [e, runFor_stop ho, Nat.add_comm] at b
        rw [← a, b]
      rw [if_pos h4, this]
      exact wpAny_pure hq
    · rw [if_neg h4]
      have hk4 : 4 < k := by
        rcases Nat.lt_or_ge 4 k with q | q
        · exact q
        · exfalso
          apply h4
          have := runFor_add (4 - k) k m
          rw [show k + (4 - k) = 4 by omega, e, runFor_stop ho] at this
          rw [this]; exact ho
      refine wpAny_bind (wpAny_rule ?_)
      refine drive T (k - 4) _ m' ?_ ho (by omega) (by omega) hq
      rw [← runFor_add, show 4 + (k - 4) = k by omega]
      exact e

theorem toEnd {Q : Option M → Shared → Prop} {k : Nat} {m m' : M} (e : M.runFor k m = m') (ho : m'.outcome.isSome = true) (hk : k ≤ 1000000000)
    (hq : match m'.outcome with | some .matched => Q (some m') s | some .failed => Q none s | _ => False) : wpAny Mo A (reRunToEnd m) Q E s := by
  unfold reRunToEnd
  refine wpAny_bind (drive (2 ^ 64) k m m' e ho (by decide) (Nat.le_trans hk (Nat.le_of_ble_eq_true rfl)) ?_)
  refine wpAny_bind (wpAny_forIn_list _ (fun _ _ s' => s' = s) _ ?_ ?_ _ _ rfl)
  · rintro x rest b s' rfl
    split
    · exact wpAny_bind (wpAny_rule (wpAny_pure rfl))
    · exact wpAny_pure rfl
  · rintro b s' rfl
    revert hq
    cases m'.outcome with
    | none => exact fun h => h.elim
    | some o => cases o with
      | matched => exact fun h => wpAny_pure h
      | failed => exact fun h => wpAny_pure h
      | stuck why => exact fun h => h.elim
end

abbrev st (text : Array Nat) (lim p : Nat) (first : Bool) (m0 : Option Nat) (seen : Seen) : M := rS text lim p 5 p p first m0 none (-1) (-1) [fS p first] 1 none seen none
theorem Rch.trans {a b : Nat} {m m' m'' : M} (x : Rch a m m') (y : Rch b m' m'') : Rch (a + b) m m'' := fun j => by rw [Nat.add_assoc, x, y]
theorem Rch.run {k : Nat} {m m' : M} (x : Rch k m m') : M.runFor k m = m' := x 0

def plain (c : Nat) : Bool := !dig c && !sgn c
theorem plain_d {c : Nat} (h : plain c = true) : dig c = false := by
  unfold plain at h; revert h; cases dig c <;> cases sgn c <;> simp
theorem plain_s {c : Nat} (h : plain c = true) : sgn c = false := by
  unfold plain at h; revert h; cases dig c <;> cases sgn c <;> simp
theorem sgn_d {c : Nat} (h : sgn c = true) : dig c = false := by
  unfold sgn at h
  unfold dig
  simp only [Bool.or_eq_true, beq_iff_eq] at h
  rcases h with ((rfl | rfl) | rfl) | rfl <;> rfl

theorem skip {text : Array Nat} {lim : Nat} (hl : lim ≤ 4294967295) : ∀ (j p : Nat) (first : Bool) (m0 : Option Nat) (seen : Seen), p + j ≤ lim → (∀ i < j, plain (text.getD (p + i) 0) = true) →
    ∃ first' m0' seen', Rch (7 * j) (st text lim p first m0 seen) (st text lim (p + j) first' m0' seen')
  | 0, p, first, m0, seen, _, _ => ⟨first, m0, seen, .refl _⟩
  | j + 1, p, first, m0, seen, hp, h => by
    have h0 := h 0 (Nat.succ_pos _)
    rw [Nat.add_zero] at h0
    obtain ⟨sn, h', wt, r⟩ := try_none (first := first) (m0 := m0) (seen := seen) (p := p) (by omega : p ≤ lim) hl (fun _ => plain_d h0) (fun _ => plain_s h0)
    rw [if_pos (by omega)] at r
    obtain ⟨f', a', b', r2⟩ := skip hl j (p + 1) false (some p) sn (by omega) (fun i hi => by have := h (i + 1) (by omega); rwa [show p + (i + 1) = p + 1 + i by omega] at this)
    refine ⟨f', a', b', ?_⟩
    rw [show p + (j + 1) = p + 1 + j by omega, show 7 * (j + 1) = 7 + 7 * j by omega]
    exact r.trans r2

theorem find_dig {text : Array Nat} {lim p j n : Nat} {first : Bool} {m0 : Option Nat} {seen : Seen} (hl : lim ≤ 4294967295) (hn : 1 ≤ n) (hp : p + j + n ≤ lim) (h0 : ∀ i < j, plain (text.getD (p + i) 0) = true)
    (h1 : ∀ i < n, dig (text.getD (p + j + i) 0) = true) (h2 : p + j + n < lim → dig (text.getD (p + j + n) 0) = false) :
    ∃ m' k, Found text lim (p + j) (p + j + n) m' ∧ Rch k (st text lim p first m0 seen) m' ∧ k ≤ 7 * lim + 11 := by
  obtain ⟨f', a', b', r⟩ := skip hl j p first m0 seen (by omega) h0
  obtain ⟨m', hf, r2⟩ := try_dig (first := f') (m0 := a') (seen := b') hn hp hl h1 h2
  exact ⟨m', _, hf, r.trans r2, by omega⟩
theorem find_sgn {text : Array Nat} {lim p j : Nat} {first : Bool} {m0 : Option Nat} {seen : Seen} (hl : lim ≤ 4294967295) (hp : p + j < lim) (h0 : ∀ i < j, plain (text.getD (p + i) 0) = true)
    (h1 : sgn (text.getD (p + j) 0) = true) :
    ∃ m' k, Found text lim (p + j) (p + j + 1) m' ∧ Rch k (st text lim p first m0 seen) m' ∧ k ≤ 7 * lim + 11 := by
  obtain ⟨f', a', b', r⟩ := skip hl j p first m0 seen (by omega) h0
  obtain ⟨m', hf, r2⟩ := try_sgn (first := f') (m0 := a') (seen := b') hp hl (sgn_d h1) h1
  exact ⟨m', _, hf, r.trans r2, by omega⟩
theorem find_none {text : Array Nat} {lim p j : Nat} {first : Bool} {m0 : Option Nat} {seen : Seen} (hl : lim ≤ 4294967295) (hp : p + j = lim) (h0 : ∀ i < j, plain (text.getD (p + i) 0) = true) :
    ∃ m' k, Lost m' ∧ Rch k (st text lim p first m0 seen) m' ∧ k ≤ 7 * lim + 11 := by
  obtain ⟨f', a', b', r⟩ := skip hl j p first m0 seen (by omega) h0
  obtain ⟨sn, h', wt, r2⟩ := try_none (first := f') (m0 := a') (seen := b') (p := p + j) (by omega : p + j ≤ lim) hl (fun q => absurd q (by omega)) (fun q => absurd q (by omega))
  rw [if_neg (by omega)] at r2
  exact ⟨_, _, show Lost (rS text lim (p + j) 5 (p + j) h' f' (some (p + j)) none 0 (-1) [] wt (some false) sn (some .failed)) from rfl, (r.trans r2).trans (.step rfl e6 (.refl _)), by omega⟩

theorem search_at {text : Array Nat} {lim p : Nat} (h : p < lim) : ∃ seen, forSearch rxCode text 1 p lim false = st text lim p true none seen := by
  refine ⟨({} : Seen).add 14, ?_⟩
  unfold forSearch
  rw [if_neg]
  · rfl
  · show ¬ ((decide (p > lim) || decide (lim - p < 1)) = true)
    simp only [Bool.or_eq_true, decide_eq_true_eq]
    omega
theorem search_end {text : Array Nat} {lim : Nat} : ∃ m', Lost m' ∧ Rch 1 (forSearch rxCode text 1 lim lim false) m' := by
  obtain ⟨m, e, hm, hs⟩ : ∃ m, forSearch rxCode text 1 lim lim false = m ∧ m.outcome = none ∧ m.step.outcome = some .failed := by
    refine ⟨_, rfl, ?_⟩
    unfold forSearch
    rw [if_pos]
    · exact ⟨rfl, rfl⟩
    · show ((decide (lim > lim) || decide (lim - lim < 1)) = true)
      simp
  rw [e]
  exact ⟨_, hs, .step hm rfl (.refl _)⟩
end Mine
-- M0
set_option Elab.async false
set_option maxRecDepth 100000
namespace Mine
open PySem PySem.W PySem.Spec PySem.Calls PyProof.Rows

/-! ## the frame of a call: what turns, what stands -/
abbrev Led := List (Addr × Obj)
noncomputable abbrev KF (w : World) : Frag := Top.hd.heap_39 w.params

def Keep (h h' : Heap) : Prop := ∀ b o, h.get? b = some o → h'.get? b = some o
theorem Keep.refl (h : Heap) : Keep h h := fun _ _ e => e
theorem Keep.trans {a b c : Heap} (x : Keep a b) (y : Keep b c) : Keep a c := fun p o e => y p o (x p o e)
theorem Keep.push (h : Heap) (o : Obj) : Keep h (h.push o) := fun _ _ e => Heap.get?_push_of_some _ e

def LedIn (h : Heap) (led : Led) : Prop := ∀ p ∈ led, h.get? p.1 = some p.2
theorem LedIn.keep {h h' : Heap} {led : Led} (x : LedIn h led) (k : Keep h h') : LedIn h' led := fun p hp => k _ _ (x p hp)
/-- a ledger grown by things that are new against h -/
structure Grow (h : Heap) (fr fr' : Led) : Prop where
  sub : ∀ p ∈ fr, p ∈ fr'
  new : ∀ p ∈ fr', p ∈ fr ∨ h.get? p.1 = none
theorem Grow.refl (h : Heap) (fr : Led) : Grow h fr fr := ⟨fun _ q => q, fun _ q => .inl q⟩
theorem Grow.trans {h h' : Heap} {a b c : Led} (x : Grow h a b) (k : Keep h h') (y : Grow h' b c) : Grow h a c :=
  ⟨fun p q => y.sub p (x.sub p q), fun p q => (y.new p q).elim (fun r => x.new p r) fun r => .inr (by
    cases e : h.get? p.1 with
    | none => rfl
    | some o => rw [k _ _ e] at r; cases r)⟩
theorem Grow.cons {h : Heap} {fr : Led} {a : Addr} {o : Obj} (ha : h.get? a = none) : Grow h fr ((a, o) :: fr) :=
  ⟨fun _ q => .tail _ q, fun p q => (List.mem_cons.mp q).elim (fun e => .inr (by rw [e]; exact ha)) .inl⟩

def keysL : List Nat := [2, 3, 32, 34, 35, 37, 38, 42, 43, 44, 45, 47, 48, 50, 51, 59, 61, 62, 64, 65, 66, 68, 69, 71, 72, 73, 75, 76, 78, 79, 80, 81, 83, 84, 86, 87, 88, 90, 91, 93, 94, 95, 96, 97, 98, 99, 102, 104, 105, 107, 108, 109, 112, 113, 114, 116, 117, 119, 120, 121, 123, 124, 126, 127, 128, 131, 132, 133, 135, 136, 138, 139, 140, 142, 143, 145, 146, 147, 149, 150, 152, 153, 154, 156, 157, 159, 160, 161, 164, 165, 166, 169, 170]
theorem keysEq (w : World) : (KF w).map (·.1) = keysL := rfl
theorem keysNodup (w : World) : ((KF w).map (·.1)).Nodup := by rw [keysEq]; decide +kernel
theorem lookup_at {K : Frag} {a : Addr} {o : Obj} : ∀ {i : Nat}, (K.map (·.1)).Nodup → K[i]? = some (a, o) → K.lookup a = some o := by
  induction K with
  | nil => intro i _ h; simp at h
  | cons p r ih =>
    intro i hn h
    obtain ⟨b, ob⟩ := p
    cases i with
    | zero =>
      simp only [List.getElem?_cons_zero, Option.some.injEq, Prod.mk.injEq] at h
      obtain ⟨rfl, rfl⟩ := h
      show List.lookup b ((b, ob) :: r) = some ob
      simp
    | succ i =>
      simp only [List.getElem?_cons_succ] at h
      have hb : a ≠ b := by
        intro e
        subst e
        have := (List.nodup_cons.mp hn).1
        exact this (List.mem_map.mpr ⟨(a, o), List.mem_of_getElem? h, rfl⟩)
      have := ih (List.nodup_cons.mp hn).2 h
      show List.lookup a ((b, ob) :: r) = some o
      rw [List.lookup_cons, beq_eq_false_iff_ne.mpr hb]
      exact this

/-- the top's facts, kept by every heap that keeps -/
structure Bs (w : World) (h : Heap) : Prop where
  k : (KF w).In h
  t : ∃ p loose mg mb, TopRead p loose mg mb h
theorem Bs.keep {w : World} {h h' : Heap} (x : Bs w h) (k : Keep h h') : Bs w h' :=
  ⟨Frag.In.keeps x.k k, let ⟨p, l, mg, mb, t⟩ := x.t; ⟨p, l, mg, mb, t.keeps k⟩⟩
theorem Bs.at {w : World} {h : Heap} {i a : Nat} {o : Obj} (x : Bs w h) (e : (KF w)[i]? = some (a, o)) : h.get? a = some o := x.k _ _ (lookup_at (keysNodup w) e)
theorem Bs.nolimit {w : World} {h : Heap} (x : Bs w h) : h.NoLimit := let ⟨_, _, _, _, t⟩ := x.t; t.nolimit

/-- names bound in a frame -/
abbrev Bd := List (Str × Value)
def mp (bs : Bd) : Str → Option Value := fun x => bs.lookup x
def setL : Bd → Str → Value → Bd
  | [], x, v => [(x, v)]
  | (y, u) :: r, x, v => bif y == x then (y, v) :: r else (y, u) :: setL r x v
theorem mp_setL (bs : Bd) (x : Str) (v : Value) : (fun y => if y = x then some v else mp bs y) = mp (setL bs x v) := by
  funext y
  induction bs with
  | nil =>
    simp only [mp, setL, List.lookup_cons, List.lookup_nil]
    by_cases h : y = x
    · simp [h]
    · have : (y == x) = false := beq_eq_false_iff_ne.mpr h
      simp [h, this]
  | cons p r ih =>
    obtain ⟨z, u⟩ := p
    simp only [mp, setL, List.lookup_cons] at ih ⊢
    by_cases hzx : z = x
    · subst hzx
      by_cases hy : y = z
      · simp [hy]
      · have : (y == z) = false := beq_eq_false_iff_ne.mpr hy
        simp [hy, this, List.lookup_cons]
    · have e1 : (z == x) = false := beq_eq_false_iff_ne.mpr hzx
      simp only [e1, cond_false, List.lookup_cons]
      by_cases hyz : y = z
      · subst hyz
        have : ¬ y = x := hzx
        simp [this]
      · have e2 : (y == z) = false := beq_eq_false_iff_ne.mpr hyz
        simp only [e2]
        exact ih

/-- a frame's world: its names, what it may turn (mu), what stands (fr) -/
structure W (h₀ : Heap) (fr₀ : Led) (L : Addr) (m : Str → Option Value) (mu fr : Led) (h : Heap) : Prop where
  ns : h.Ns L m
  keep : Keep h₀ h
  mus : LedIn h mu
  frs : LedIn h fr
  gr : Grow h₀ fr₀ fr
  newL : h₀.get? L = none
  newM : ∀ p ∈ mu, h₀.get? p.1 = none
  ndL : ∀ p ∈ mu, p.1 ≠ L
  nd : (mu.map (·.1)).Nodup
  offL : ∀ p ∈ fr, p.1 ≠ L
  off : ∀ p ∈ fr, ∀ q ∈ mu, p.1 ≠ q.1

section
variable {h₀ h h' : Heap} {L : Addr} {m m' : Str → Option Value} {mu fr fr₀ fr' : Led}

theorem W.call (x : W h₀ fr₀ L m mu fr h) (k : Keep h h') (l : LedIn h' fr') (g : Grow h fr fr') : W h₀ fr₀ L m mu fr' h' where
  ns := x.ns.keeps k
  keep := x.keep.trans k
  mus := x.mus.keep k
  frs := l
  gr := x.gr.trans x.keep g
  newL := x.newL
  newM := x.newM
  ndL := x.ndL
  nd := x.nd
  offL := fun p hp => (g.new p hp).elim (fun q => x.offL p q) fun q e => by
    obtain ⟨o, _, _, ho, _⟩ := x.ns
    rw [e, ho] at q; cases q
  off := fun p hp r hr => (g.new p hp).elim (fun q => x.off p q r hr) fun q e => by
    rw [e, x.mus r hr] at q; cases q
theorem W.same (x : W h₀ fr₀ L m mu fr h) (k : Keep h h') : W h₀ fr₀ L m mu fr h' := x.call k (x.frs.keep k) (Grow.refl _ _)

theorem W.store (x : W h₀ fr₀ L m mu fr h) (hn : h'.Ns L m') (hs : Heap.SameBut L h h') : W h₀ fr₀ L m' mu fr h' where
  ns := hn
  keep := fun b o e => (hs.2 b (fun q => by rw [q, x.newL] at e; cases e)).trans (x.keep b o e)
  mus := fun p hp => (hs.2 p.1 (x.ndL p hp)).trans (x.mus p hp)
  frs := fun p hp => (hs.2 p.1 (x.offL p hp)).trans (x.frs p hp)
  gr := x.gr
  newL := x.newL
  newM := x.newM
  ndL := x.ndL
  nd := x.nd
  offL := x.offL
  off := x.off

theorem size_none (h : Heap) : h.get? h.objs.size = none := by
  cases q : h.get? h.objs.size with
  | none => rfl
  | some o => exact absurd (Heap.lt_size q) (Nat.lt_irrefl _)
theorem Keep.none (k : Keep h h') {a : Addr} (e : h'.get? a = none) : h.get? a = none := by
  cases q : h.get? a with
  | none => rfl
  | some o => rw [k _ _ q] at e; cases e

theorem W.pushM (x : W h₀ fr₀ L m mu fr h) (o : Obj) (hf : o.isFreed = false := by rfl) : W h₀ fr₀ L m ((h.objs.size, o) :: mu) fr (h.push o) where
  ns := x.ns.push o
  keep := x.keep.trans (Keep.push h o)
  mus := fun p hp => by
    rcases List.mem_cons.mp hp with rfl | hp
    · exact Heap.get?_push_size _ hf
    · exact Heap.get?_push_of_some _ (x.mus p hp)
  frs := x.frs.keep (Keep.push h o)
  gr := x.gr
  newL := x.newL
  newM := fun p hp => by
    rcases List.mem_cons.mp hp with rfl | hp
    · exact x.keep.none (size_none h)
    · exact x.newM p hp
  ndL := fun p hp => by
    rcases List.mem_cons.mp hp with rfl | hp
    · exact Nat.ne_of_gt x.ns.lt
    · exact x.ndL p hp
  nd := by
    refine List.nodup_cons.mpr ⟨fun hm => ?_, x.nd⟩
    obtain ⟨p, hp, e⟩ := List.mem_map.mp hm
    exact absurd (Heap.lt_size (x.mus p hp)) (by rw [e]; exact Nat.lt_irrefl _)
  offL := x.offL
  off := fun p hp r hr e => by
    rcases List.mem_cons.mp hr with rfl | hr
    · exact absurd (Heap.lt_size (x.frs p hp)) (by rw [e]; exact Nat.lt_irrefl _)
    · exact x.off p hp r hr e

theorem W.pushF (x : W h₀ fr₀ L m mu fr h) (o : Obj) (hf : o.isFreed = false := by rfl) : W h₀ fr₀ L m mu ((h.objs.size, o) :: fr) (h.push o) :=
  x.call (Keep.push h o) (fun p hp => by
    rcases List.mem_cons.mp hp with rfl | hp
    · exact Heap.get?_push_size _ hf
    · exact Heap.get?_push_of_some _ (x.frs p hp)) (Grow.cons (size_none h))

/-- what turns first in the list -/
theorem W.turn {d : Addr} {o o' : Obj} (x : W h₀ fr₀ L m ((d, o) :: mu) fr h) (ho : h'.get? d = some o') (hs : Heap.ExtBut d h h') : W h₀ fr₀ L m ((d, o') :: mu) fr h' where
  ns := x.ns.extBut hs (Ne.symm (x.ndL _ (.head _)))
  keep := fun b c e => hs b c (fun q => by have := x.newM _ (.head _); rw [← q] at this; rw [this] at e; cases e) (x.keep b c e)
  mus := fun p hp => by
    rcases List.mem_cons.mp hp with rfl | hq
    · exact ho
    · refine hs p.1 p.2 (fun e => ?_) (x.mus p (.tail _ hq))
      have := (List.nodup_cons.mp x.nd).1
      exact this (List.mem_map.mpr ⟨p, hq, e⟩)
  frs := fun p hp => hs p.1 p.2 (x.off p hp _ (.head _)) (x.frs p hp)
  gr := x.gr
  newL := x.newL
  newM := fun p hp => by
    rcases List.mem_cons.mp hp with rfl | hq
    · exact x.newM (d, o) (.head _)
    · exact x.newM p (.tail _ hq)
  ndL := fun p hp => by
    rcases List.mem_cons.mp hp with rfl | hq
    · exact x.ndL (d, o) (.head _)
    · exact x.ndL p (.tail _ hq)
  nd := x.nd
  offL := x.offL
  off := fun p hp r hr => by
    rcases List.mem_cons.mp hr with rfl | hq
    · exact x.off p hp (d, o) (.head _)
    · exact x.off p hp r (.tail _ hq)
theorem W.gone {d : Addr} {o : Obj} (x : W h₀ fr₀ L m ((d, o) :: mu) fr h) (hs : Heap.ExtBut d h h') : W h₀ fr₀ L m mu fr h' where
  ns := x.ns.extBut hs (Ne.symm (x.ndL _ (.head _)))
  keep := fun b c e => hs b c (fun q => by have := x.newM _ (.head _); rw [← q] at this; rw [this] at e; cases e) (x.keep b c e)
  mus := fun p hp => by
    refine hs p.1 p.2 (fun e => ?_) (x.mus p (.tail _ hp))
    exact (List.nodup_cons.mp x.nd).1 (List.mem_map.mpr ⟨p, hp, e⟩)
  frs := fun p hp => hs p.1 p.2 (x.off p hp _ (.head _)) (x.frs p hp)
  gr := x.gr
  newL := x.newL
  newM := fun p hp => x.newM p (.tail _ hp)
  ndL := fun p hp => x.ndL p (.tail _ hp)
  nd := (List.nodup_cons.mp x.nd).2
  offL := x.offL
  off := fun p hp r hr => x.off p hp r (.tail _ hr)

theorem W.perm {mu' : Led} (x : W h₀ fr₀ L m mu fr h) (hp : mu'.Perm mu) : W h₀ fr₀ L m mu' fr h where
  ns := x.ns
  keep := x.keep
  mus := fun p q => x.mus p (hp.mem_iff.mp q)
  frs := x.frs
  gr := x.gr
  newL := x.newL
  newM := fun p q => x.newM p (hp.mem_iff.mp q)
  ndL := fun p q => x.ndL p (hp.mem_iff.mp q)
  nd := (hp.map _).nodup_iff.mpr x.nd
  offL := x.offL
  off := fun p hq r hr => x.off p hq r (hp.mem_iff.mp hr)
theorem W.swap {a b : Addr × Obj} (x : W h₀ fr₀ L m (a :: b :: mu) fr h) : W h₀ fr₀ L m (b :: a :: mu) fr h := x.perm (.swap ..)

/-- a thing that turned stands from here on -/
theorem W.freeze {p : Addr × Obj} (x : W h₀ fr₀ L m (p :: mu) fr h) : W h₀ fr₀ L m mu (p :: fr) h where
  ns := x.ns
  keep := x.keep
  mus := fun q hq => x.mus q (.tail _ hq)
  frs := fun q hq => by
    rcases List.mem_cons.mp hq with rfl | hq
    · exact x.mus _ (.head _)
    · exact x.frs q hq
  gr := ⟨fun q hq => .tail _ (x.gr.sub q hq), fun q hq => by
    rcases List.mem_cons.mp hq with rfl | hq
    · exact .inr (x.newM _ (.head _))
    · exact x.gr.new q hq⟩
  newL := x.newL
  newM := fun q hq => x.newM q (.tail _ hq)
  ndL := fun q hq => x.ndL q (.tail _ hq)
  nd := (List.nodup_cons.mp x.nd).2
  offL := fun q hq => by
    rcases List.mem_cons.mp hq with rfl | hq
    · exact x.ndL _ (.head _)
    · exact x.offL q hq
  off := fun q hq r hr => by
    rcases List.mem_cons.mp hq with rfl | hq
    · intro e
      exact (List.nodup_cons.mp x.nd).1 (List.mem_map.mpr ⟨r, hr, e.symm⟩)
    · exact x.off q hq r (.tail _ hr)
theorem W.forget {p : Addr × Obj} (x : W h₀ fr₀ L m (p :: mu) fr h) : W h₀ fr₀ L m mu fr h :=
  { x with
    mus := fun q hq => x.mus q (.tail _ hq)
    newM := fun q hq => x.newM q (.tail _ hq)
    ndL := fun q hq => x.ndL q (.tail _ hq)
    nd := (List.nodup_cons.mp x.nd).2
    off := fun q hq r hr => x.off q hq r (.tail _ hr) }

/-- the start of a call -/
theorem W.start {s : Shared} {h₁ : Heap} {fr : Led} (hn : h₁.Ns s.heap.objs.size m) (k : Keep s.heap h₁) (f : LedIn s.heap fr) : W s.heap fr s.heap.objs.size m [] fr h₁ where
  ns := hn
  keep := k
  mus := fun _ hp => nomatch hp
  frs := f.keep k
  gr := Grow.refl _ _
  newL := size_none _
  newM := fun _ hp => nomatch hp
  ndL := fun _ hp => nomatch hp
  nd := List.nodup_nil
  offL := fun p hp e => absurd (Heap.lt_size (f p hp)) (by rw [e]; exact Nat.lt_irrefl _)
  off := fun _ _ _ hr => nomatch hr
end

/-- what a call stands in -/
structure AOk (A : Around) (n : Nat) : Prop where
  hh : A.handled = none
  dep : A.depth + n < recursionLimit
  un : A.units + 4 * n + 100 < cLine
theorem AOk.deeper {A : Around} {n : Nat} {env : Env} (x : AOk A (n + 1)) : AOk (A.deeper env) n where
  hh := x.hh
  dep := by have := x.dep; show A.depth + 1 + n < recursionLimit; omega
  un := by have := x.un; show A.units + 3 + 4 * n + 100 < cLine; omega
theorem AOk.le {A : Around} {n k : Nat} (x : AOk A n) (h : k ≤ n) : AOk A k where
  hh := x.hh
  dep := by have := x.dep; omega
  un := by have := x.un; omega

/-- a def's contract -/
def Ctr (prog : Program) (w : World) (n : Nat) (f : Addr) (vals : List Value) (fr : Led) (P : Led → Value → Prop) : Prop :=
  ∀ (A : Around) (s : Shared) (Q : Value → Shared → Prop) (E : Value → Shared → Prop), AOk A n → Bs w s.heap → LedIn s.heap fr →
    (∀ v h' tk fr', Keep s.heap h' → LedIn h' fr' → Grow s.heap fr fr' → P fr' v → Q v { s with heap := h', toks := tk }) →
    wpAny (model prog w) A (call (.ref f) vals) Q E s

section
variable {prog : Program} {w : World} {A : Around} {E : Value → Shared → Prop} {s : Shared}

/-- entering a def without cells -/
theorem enter {f : Addr} {vals : List Value} {Q : Value → Shared → Prop} {name qual : Str} {params : Arguments} {body : List Stmt} {scope : Scope} {dV kV doc pm ct oc cc : Value} {an od cd' : Option Addr} {osl csl : Array (Option Value)}
    {n c : Nat} {cvs : Array Value} {ctk : Tok} {fr : Led} (i : Nat) (bs : Bd)
    (hA : AOk A (n + 1)) (hB : Bs w s.heap) (hf : LedIn s.heap fr)
    (ho : (KF w)[i + 1]? = some (f, ⟨oc, od, .func (fnOf name qual params body scope dV kV doc pm an (.ref c) ct), osl⟩)) (hcd : (KF w)[i]? = some (c, ⟨cc, cd', .fields cvs, csl⟩)) (hcq : cvs[1]? = some (.str qual ctk))
    (hbind : bindArgs (fnOf name qual params body scope dV kV doc pm an (.ref c) ct) ⟨vals, []⟩ = pure bs)
    (hloc : (bs.all fun x => decide (scope.names.lookup x.1 = some .local)) = true)
    (h : ∀ L h₁ tk, W s.heap fr L (mp bs.reverse) [] fr h₁ → Bs w h₁ → AOk (A.deeper (envX qual scope L f (.ref c) [])) n →
      wpAny (model prog w) (A.deeper (envX qual scope L f (.ref c) [])) (execs body (envX qual scope L f (.ref c) []))
        (fun fl s' => Q (match fl with | .ret v => v | _ => .none) s') (fun _ _ => False) { s with heap := h₁, toks := tk })
    (hcell : ∀ x ∈ scope.names, x.2 ≠ .cell) (hco : scope.isCoroutine = false := by rfl) (hgen : scope.isGenerator = false := by rfl) (hk : scope.kind = .function := by rfl) :
    wpAny (model prog w) A (call (.ref f) vals) Q E s := by
  refine wpAny_call (codeAny_call_def (fd := fnOf name qual params body scope dV kV doc pm an (.ref c) ct) (body := body) (binds := bs) (by have := hA.dep; omega) (hB.at ho) rfl hB.nolimit ⟨_, _, _, _, rfl, hB.at hcd, rfl, hcq⟩ rfl (BindsTo.of_eq hbind) hcell (locs hloc) (fun h₁ hns hk₁ => ?_) hco hgen hk)
  refine wpAny_mono (h s.heap.objs.size h₁ _ (W.start hns hk₁ hf) (hB.keep hk₁) hA.deeper) (fun _ _ x => x) fun _ _ x => x.elim

/-- names -/
theorem nmL {env : Env} {L : Addr} {h₀ : Heap} {m : Str → Option Value} {mu fr fr₀ : Led} {x : Str} {v : Value} {pos : Pos} {M : Model} {Q : Value → Shared → Prop} (hW : W h₀ fr₀ L m mu fr s.heap) (hv : m x = some v) (h : Q v s)
    (hL : env.locals = L := by rfl) (hk : env.scope.kind = .function := by rfl) (hx : env.kindOf x = some .local := by rfl) (hd : (x == ("__debug__" : Str)) = false := by decide) :
    wpAny M A (eval (.Name x pos) env) Q E s := wpAny_Name (wpAny_loadName_local hk hx (hL ▸ hW.ns) hv h) hd
theorem ldL {env : Env} {L : Addr} {h₀ : Heap} {m : Str → Option Value} {mu fr fr₀ : Led} {x : Str} {v : Value} {M : Model} {Q : Value → Shared → Prop} (hW : W h₀ fr₀ L m mu fr s.heap) (hv : m x = some v) (h : Q v s)
    (hL : env.locals = L := by rfl) (hk : env.scope.kind = .function := by rfl) (hx : env.kindOf x = some .local := by rfl) :
    wpAny M A (loadName env x) Q E s := wpAny_loadName_local hk hx (hL ▸ hW.ns) hv h
theorem stL {env : Env} {L : Addr} {h₀ : Heap} {bs : Bd} {mu fr fr₀ : Led} {x : Str} {v : Value} {M : Model} {Q : Unit → Shared → Prop} (hW : W h₀ fr₀ L (mp bs) mu fr s.heap)
    (h : ∀ h' tk, W h₀ fr₀ L (mp (setL bs x v)) mu fr h' → Q () { s with heap := h', toks := tk })
    (hL : env.locals = L := by rfl) (hx : env.kindOf x = some .local := by rfl) (hp : (env.scope.kind == .class || (env.scope.kind == .module && env.locals != env.globals)) = false := by rfl) :
    wpAny M A (storeName env x v) Q E s := by
  subst hL
  exact wpAny_storeName_local hx hW.ns (fun h' hn hs => h h' _ (hW.store (by rw [← mp_setL]; exact hn) hs)) hp
theorem nmK {env : Env} {x : Str} {v : Value} {pos : Pos} {M : Model} {Q : Value → Shared → Prop} (hB : Bs w s.heap) (e : nsIn (KF w) mainGlobals x = some (some v)) (h : Q v s) (hg : env.globals = mainGlobals := by rfl)
    (hk : env.scope.kind = .function := by rfl) (hx : env.kindOf x = some .globalImplicit := by rfl) (hd : (x == ("__debug__" : Str)) = false := by decide) :
    wpAny M A (eval (.Name x pos) env) Q E s := by
  obtain ⟨_, _, _, _, T⟩ := hB.t
  exact Name_function_global hk hx (loadGlobal_global (by rw [hg]; exact T.g) (mg_of hB.k T.g e) h) hd
theorem nmB {env : Env} {x : Str} {v : Value} {pos : Pos} {M : Model} {Q : Value → Shared → Prop} (hB : Bs w s.heap) (e : nsIn (KF w) mainGlobals x = some none) (hv : bootBuiltins x = some v) (hn : x ≠ "__name__") (h : Q v s) (hg : env.globals = mainGlobals := by rfl) (hb : env.builtins = builtinsNs := by rfl)
    (hk : env.scope.kind = .function := by rfl) (hx : env.kindOf x = some .globalImplicit := by rfl) (hd : (x == ("__debug__" : Str)) = false := by decide) :
    wpAny M A (eval (.Name x pos) env) Q E s := by
  obtain ⟨_, _, _, _, T⟩ := hB.t
  exact Name_function_global hk hx (loadGlobal_builtin (by rw [hg]; exact T.g) (mg_none_of hB.k T.g e) (by rw [hb]; exact T.b) ((T.builtins x hn).trans hv) h) hd
/-- a cell that holds a value -/
abbrev cellO (v : Option Value) : Obj := { cls := .type "cell", data := .cell v }
theorem nmC {env : Env} {x : Str} {c : Addr} {o : Obj} {v : Value} {pos : Pos} {M : Model} {Q : Value → Shared → Prop} (hc : env.cells.lookup x = some c) (ho : s.heap.get? c = some o) (hd : o.data = .cell (some v)) (h : Q v s)
    (hk : env.scope.kind = .function := by rfl) (hx : env.kindOf x = some .cell := by rfl) (hb : (x == ("__debug__" : Str)) = false := by decide) :
    wpAny M A (eval (.Name x pos) env) Q E s := wpAny_Name (wpAny_loadName_cell hk hx hc ⟨o, ho, hd⟩ h) hb
end
end Mine
-- M1
set_option Elab.async false
set_option maxRecDepth 100000
set_option pp.maxSteps 600
namespace Mine
open PySem PySem.W PySem.Spec PySem.Calls PyProof.Rows

def S (l : List Nat) : Str := ⟨l.toArray⟩
theorem S_append (a b : List Nat) : S a ++ S b = S (a ++ b) := by
  show Str.append (S a) (S b) = _
  simp [S, Str.append]
theorem S_length (a : List Nat) : (S a).length = a.length := by simp [S, Str.length]
theorem S_cps (a : List Nat) : (S a).cps.toList = a := by simp [S]
theorem S_inj {a b : List Nat} (h : S a = S b) : a = b := by
  have := congrArg (fun x => x.cps.toList) h
  simpa [S] using this
def joinL (sep : List Nat) : List (List Nat) → List Nat
  | [] => []
  | [x] => x
  | x :: y :: r => x ++ sep ++ joinL sep (y :: r)
theorem S_join (sep : List Nat) : ∀ ls : List (List Nat), Str.join (S sep) (ls.map S) = S (joinL sep ls)
  | [] => rfl
  | [x] => rfl
  | x :: y :: r => by
    have ih := S_join sep (y :: r)
    simp only [List.map_cons] at ih ⊢
    rw [Str.join, ih, joinL, S_append, S_append]
    intro h; cases h

theorem glued_S (sep : List Nat) (ls : List (List Nat)) : Txt.join (S sep) (ls.map S) = S (joinL sep ls) := by
  rw [← S_join]
  exact PySem.StrLaws.glued_eq_join _ _

abbrev sd (l : List Nat) : Dat := .str (S l)
theorem datStrs {fr : Led} {vs : List Value} : ∀ {ls : List (List Nat)}, DatAll fr vs (ls.map sd) → ∃ l : List (Str × Tok), vs = strValues l ∧ l.map (·.1) = ls.map S := by
  induction vs with
  | nil => intro ls h; cases ls with
    | nil => exact ⟨[], rfl, rfl⟩
    | cons => cases h
  | cons v vs ih => intro ls h; cases ls with
    | nil => cases h
    | cons x ls =>
      cases h with
      | cons hd tl =>
        obtain ⟨l, e1, e2⟩ := ih tl
        cases hd with
        | str x t => exact ⟨(S _, t) :: l, by rw [e1]; rfl, by simp [e2]⟩
theorem datList {fr : Led} {v : Value} {ds : List Dat} (h : DatIn fr v (.list ds)) : ∃ a vs n, v = .ref a ∧ (a, listOf vs.toArray n) ∈ fr ∧ DatAll fr vs ds := by
  cases h with
  | list hm hd => exact ⟨_, _, _, rfl, hm, hd⟩
theorem datTup {fr : Led} {v : Value} {ds : List Dat} (h : DatIn fr v (.tuple ds)) : ∃ a vs n, v = .ref a ∧ (a, ({ cls := .type "tuple", data := .seq vs.toArray n } : Obj)) ∈ fr ∧ DatAll fr vs ds := by
  cases h with
  | tuple hm hd => exact ⟨_, _, _, rfl, hm, hd⟩
theorem isList_of {h : Heap} {fr : Led} {a : Addr} {vs : List Value} {n : Nat} (hl : LedIn h fr) (hm : (a, listOf vs.toArray n) ∈ fr) : h.IsList a vs.toArray := ⟨_, hl _ hm, rfl, n, rfl⟩

end Mine
-- RX3
set_option Elab.async false
set_option maxRecDepth 100000
set_option linter.unusedVariables false
namespace Mine
open PySem PySem.Sre PySem.Builtin.Re
open PyProof.Rows hiding Seen
open PySem.W (DatIn DatAll)

inductive Sp : List Nat → List (List Nat) → Prop
  | fin {m : List Nat} : (∀ c ∈ m, plain c = true) → Sp m [m]
  | dig {m d r : List Nat} {ps : List (List Nat)} : (∀ c ∈ m, plain c = true) → d ≠ [] → (∀ c ∈ d, dig c = true) → (∀ c ∈ r.head?, Mine.dig c = false) → Sp r ps → Sp (m ++ (d ++ r)) (m :: d :: ps)
  | sgn {m : List Nat} {c : Nat} {r : List Nat} {ps : List (List Nat)} : (∀ c ∈ m, plain c = true) → sgn c = true → Sp r ps → Sp (m ++ (c :: r)) (m :: [c] :: ps)

theorem getD_drop (l : List Nat) (p i : Nat) : l.toArray.getD (p + i) 0 = (l.drop p).getD i 0 := by
  simp [Array.getD_eq_getD_getElem?, List.getElem?_drop]
theorem getD_left {a b : List Nat} {i : Nat} (h : i < a.length) : (a ++ b).getD i 0 ∈ a := by
  simp [List.getElem?_append_left h, h]
theorem getD_right {a b : List Nat} (i : Nat) : (a ++ b).getD (a.length + i) 0 = b.getD i 0 := by
  simp [List.getElem?_append_right]
theorem slice_at {l a b : List Nat} {p : Nat} (h : l.drop p = a ++ b) : l.toArray.extract p (p + a.length) = a.toArray := by
  simp [h]
theorem drop_at {l a b : List Nat} {p : Nat} (h : l.drop p = a ++ b) : l.drop (p + a.length) = b := by
  rw [← List.drop_drop, h]; simp
theorem len_at {l a : List Nat} {p : Nat} (h : l.drop p = a) (hp : p ≤ l.length) : p + a.length = l.length := by
  rw [← h, List.length_drop]; omega

section
variable {prog : Program} {w : World} {A : Around} {E : Value → Shared → Prop} {s : Shared}
theorem named (sv : Value) : reNamed "re.Pattern.split" "split" ["string", "maxsplit"] 1 [sv] [] = pure [some sv, none] := rfl

theorem lost {m m' : M} {k : Nat} {Q : Option M → Shared → Prop} (r : Rch k m m') (hL : Lost m') (hk : k ≤ 1000000000) (hq : Q none s) : wpAny (model prog w) A (reRunToEnd m) Q E s := by
  have e := r.run
  have hL' : m'.outcome = some .failed := hL
  have ho : m'.outcome.isSome = true := by rw [hL']; rfl
  refine toEnd (k := k) (m' := m') e ho hk ?_
  rw [hL']; exact hq
theorem won {m m' : M} {k : Nat} {Q : Option M → Shared → Prop} (r : Rch k m m') (hL' : m'.outcome = some .matched) (hk : k ≤ 1000000000) (hq : Q (some m') s) : wpAny (model prog w) A (reRunToEnd m) Q E s := by
  have e := r.run
  have ho : m'.outcome.isSome = true := by rw [hL']; rfl
  refine toEnd (k := k) (m' := m') e ho hk ?_
  rw [hL']; exact hq
/-- the next match, or none -/
theorem next_none {l : List Nat} {p : Nat} {t : ReTarget} {Q : Option M → Shared → Prop} (hc : t.code = rxCode) (ht : t.text = l.toArray) (hg : t.groups = 1) (hlim : t.lim = l.length) (hl : l.length ≤ sizeLine) (hp : p ≤ l.length)
    (h : ∀ c ∈ l.drop p, plain c = true) (hq : Q none s) : wpAny (model prog w) A (reNextFound t p false) Q E s := by
  have hline : sizeLine ≤ 16777216 := Nat.le_of_ble_eq_true rfl
  unfold reNextFound
  rw [hc, ht, hg, hlim]
  rcases Nat.lt_or_ge p l.length with hlt | hge
  · obtain ⟨sn, es⟩ := search_at (text := l.toArray) hlt
    have e := len_at rfl hp
    obtain ⟨m', k, hL, r, hk⟩ := find_none (text := l.toArray) (first := true) (m0 := none) (seen := sn) (by omega) e (fun i hi => by
      rw [getD_drop]
      refine h _ ?_
      have := getD_left (a := l.drop p) (b := []) hi
      rwa [List.append_nil] at this)
    rw [es]
    have hk' : k ≤ 1000000000 := by omega
    generalize Mine.st l.toArray l.length p true none sn = q at *
    exact lost r hL hk' hq
  · obtain rfl : p = l.length := by omega
    obtain ⟨m', hL, r⟩ := search_end (text := l.toArray) (lim := l.length)
    exact lost r hL (by decide) hq
theorem next_found {l m d r : List Nat} {p : Nat} {t : ReTarget} {Q : Option M → Shared → Prop} (hc : t.code = rxCode) (ht : t.text = l.toArray) (hg : t.groups = 1) (hlim : t.lim = l.length) (hl : l.length ≤ sizeLine) (hp : p ≤ l.length)
    (h : l.drop p = m ++ (d ++ r)) (h0 : ∀ c ∈ m, plain c = true) (h1 : d ≠ []) (h2 : ((∀ c ∈ d, dig c = true) ∧ (∀ c ∈ r.head?, dig c = false)) ∨ (∃ c, d = [c] ∧ sgn c = true))
    (hq : ∀ first seen k pos wt, Q (some (rS l.toArray l.length (p + m.length) k pos (p + m.length + d.length) first (some (p + m.length)) (some (p + m.length + d.length)) 1 1 [] wt (some true) seen (some .matched))) s) : wpAny (model prog w) A (reNextFound t p false) Q E s := by
  have hline : sizeLine ≤ 16777216 := Nat.le_of_ble_eq_true rfl
  have hd : 0 < d.length := List.length_pos_iff.mpr h1
  have e := len_at h hp
  simp only [List.length_append] at e
  unfold reNextFound
  rw [hc, ht, hg, hlim]
  obtain ⟨sn, es⟩ := search_at (text := l.toArray) (p := p) (lim := l.length) (by omega)
  have g0 : ∀ i < m.length, plain (l.toArray.getD (p + i) 0) = true := fun i hi => by
    rw [getD_drop, h]; exact h0 _ (getD_left hi)
  obtain ⟨m', k, ⟨first, seen, kk, pos, wt, hF⟩, rr, hk⟩ : ∃ m' k, Found l.toArray l.length (p + m.length) (p + m.length + d.length) m' ∧ Rch k (Mine.st l.toArray l.length p true none sn) m' ∧ k ≤ 7 * l.length + 11 := by
    rcases h2 with ⟨h2, h3⟩ | ⟨c, rfl, h2⟩
    · refine find_dig (by omega) hd (by omega) g0 (fun i hi => ?_) fun hlt => ?_
      · rw [Nat.add_assoc, getD_drop, h, getD_right]; exact h2 _ (getD_left hi)
      · rw [show p + m.length + d.length = p + (m.length + (d.length + 0)) by omega, getD_drop, h, getD_right, getD_right]
        cases r with
        | nil => simp at e; omega
        | cons c r => exact h3 c rfl
    · refine find_sgn (by omega) (by simp at e; omega) g0 ?_
      rw [show p + m.length = p + (m.length + 0) by omega, getD_drop, h, getD_right]
      exact h2
  rw [es]
  have hk' : k ≤ 1000000000 := by omega
  have ho : m'.outcome = some .matched := by rw [hF]
  have hq' := hq first seen kk pos wt
  rw [← hF] at hq'
  clear hF hq
  generalize Mine.st l.toArray l.length p true none sn = q at *
  exact won rr ho hk' hq'

theorem split_ok {P C : Addr} {oP oC : Obj} {pv : Array Value} {cs : Array Value} {nC : Nat} {l : List Nat} {t : Tok} {ps : List (List Nat)} {Q : Fin → Shared → Prop} (hP : s.heap.get? P = some oP) (hPd : oP.data = .fields pv) (h5 : pv.getD 5 .none = .ref C) (h6 : reRawNat (pv.getD 6 .none) = 0) (h2 : reRawNat (pv.getD 2 .none) = 1)
    (hC : s.heap.get? C = some oC) (hCd : oC.data = .seq cs nC) (hcs : (cs.map reRawOf).map (·.toNat) = rxCode)
    (hl : l.length ≤ sizeLine) (hpl : ps.length ≤ sizeLine) (hsp : Sp l ps)
    (h : ∀ (vs : List Value) tk, DatAll [] vs (ps.map sd) → Q (.done (.ret (.ref s.heap.objs.size))) { s with heap := s.heap.push { cls := .type "list", data := .seq vs.toArray }, toks := tk }) :
    wpAny (model prog w) A (Builtin.«re.Pattern.split» ⟨[.ref P, .str (S l) t], []⟩) Q E s := by
  unfold Builtin.«re.Pattern.split»
  dsimp only
  rw [named]
  simp only [pure_bind, bind_assoc]
  unfold reWholeTarget
  simp only [pure_bind, bind_assoc]
  refine wpAny_bind (wpAny_fieldsOf hP hPd ?_)
  rw [h6, h2, h5]
  refine wpAny_bind (wpAny_pure (a := (l.toArray, 0)) ?_)
  dsimp only
  rw [if_neg (by decide), if_neg (by decide)]
  refine wpAny_bind (wpAny_bind (wpAny_pure (a := ()) ?_))
  refine wpAny_bind (wpAny_bind (wpAny_seqItems hC hCd (wpAny_pure ?_)))
  dsimp only [Option.getD]
  rw [hcs]
  refine wpAny_pure ?_
  generalize hT : ReTarget.mk (.ref P) (.str (S l) t) rxCode l.toArray 0 1 0 l.toArray.size = T
  have hcode : T.code = rxCode := by rw [← hT]
  have htext : T.text = l.toArray := by rw [← hT]
  have hgr : T.groups = 1 := by rw [← hT]
  have hlim : T.lim = l.length := by rw [← hT]; simp
  have hkd : T.kind = 0 := by rw [← hT]
  have hmost : reMostMatches T = 2 * l.length + 3 := by unfold reMostMatches; rw [htext]; simp
  clear hT
  refine wpAny_bind (wpAny_forIn_list _ (fun rest b s' => ∃ tk, s' = { s with toks := tk } ∧ b.2.2.1 ≤ l.length ∧ ((b.2.2.2.2.2 = true ∧ ∃ qs, ps = qs ++ [l.drop b.2.2.1] ∧ DatAll [] b.1.toList (qs.map sd)) ∨
    (b.2.2.2.2.2 = false ∧ b.2.2.2.1 = false ∧ b.2.1 = b.2.2.1 ∧ l.length - b.2.2.1 < rest.length ∧ ∃ qs rs, ps = qs ++ rs ∧ DatAll [] b.1.toList (qs.map sd) ∧ Sp (l.drop b.2.2.1) rs))) _ ?_ ?_ _ _ ?_)
  · rintro x rest ⟨out, start, last, must, n, over⟩ s' ⟨tk, rfl, hle, ⟨ho, hq⟩ | ⟨ho, hm, hst, hlen, qs, rs, hps, hda, hSp⟩⟩
    · dsimp only at ho ⊢
      subst ho
      exact wpAny_pure ⟨tk, rfl, hle, .inl ⟨rfl, hq⟩⟩
    · dsimp only at ho hm hst hlen hda hSp hle ⊢
      subst ho hm hst
      rw [if_pos (show (!false) = true from rfl), if_neg (by simp)]
      have alt : (rs = [l.drop start] ∧ ∀ c ∈ l.drop start, plain c = true) ∨ ∃ m d r rs', l.drop start = m ++ (d ++ r) ∧ (∀ c ∈ m, plain c = true) ∧ d ≠ [] ∧ (((∀ c ∈ d, dig c = true) ∧ (∀ c ∈ r.head?, dig c = false)) ∨ (∃ c, d = [c] ∧ sgn c = true)) ∧ rs = m :: d :: rs' ∧ Sp r rs' := by
        generalize l.drop start = q at hSp ⊢
        cases hSp with
        | fin h => exact .inl ⟨rfl, h⟩
        | dig a b c d e => exact .inr ⟨_, _, _, _, rfl, a, b, .inl ⟨c, d⟩, rfl, e⟩
        | @sgn m c r ps' a b e => exact .inr ⟨m, [c], r, _, rfl, a, List.cons_ne_nil _ _, .inr ⟨_, rfl, b⟩, rfl, e⟩
      rcases alt with ⟨rfl, hpl⟩ | ⟨m, d, r, rs', e0, h0, h1, hcase, rfl, hr⟩
      · refine wpAny_bind (next_none hcode htext hgr hlim hl hle hpl ?_)
        exact wpAny_pure ⟨tk, rfl, hle, .inl ⟨rfl, qs, hps, hda⟩⟩
      · have e1 := len_at e0 hle
        simp only [List.length_append] at e1
        have hd : 0 < d.length := List.length_pos_iff.mpr h1
        refine wpAny_bind (next_found hcode htext hgr hlim hl hle e0 h0 h1 hcase fun first seen k pos wt => ?_)
        dsimp only
        rw [htext, hkd, hgr]
        refine wpAny_bind ?_
        show wpAny _ _ (mkStr ⟨l.toArray.extract start (start + m.length)⟩) _ _ _
        rw [slice_at e0]
        refine wpAny_mkStr ?_ (by show m.toArray.size ≤ sizeLine; rw [List.size_toArray]; omega)
        have e2 : l.drop (start + m.length) = d ++ r := drop_at e0
        have e3 : l.drop (start + m.length + d.length) = r := drop_at e2
        refine wpAny_bind ?_
        show wpAny _ _ (forIn [0] _ _) _ _ _
        rw [List.forIn_cons]
        refine wpAny_bind (wpAny_bind ?_)
        unfold reMachineGroup
        rw [if_neg (show ¬ ((2 * (0 + 1 - 1) : Nat) : Int) ≥ 1 by decide)]
        dsimp only
        show wpAny _ _ (if start + m.length + d.length < start + m.length then reWrongSpan else reSlice T.text T.kind (start + m.length) (start + m.length + d.length)) _ _ _
        rw [if_neg (by omega), htext, hkd]
        show wpAny _ _ (mkStr ⟨l.toArray.extract (start + m.length) (start + m.length + d.length)⟩) _ _ _
        rw [slice_at e2]
        refine wpAny_mkStr ?_ (by show d.toArray.size ≤ sizeLine; rw [List.size_toArray]; omega)
        refine wpAny_pure ?_
        dsimp only
        rw [List.forIn_nil]
        refine wpAny_pure (wpAny_pure ⟨_, rfl, ?_, .inr ⟨rfl, ?_, rfl, ?_, qs ++ [m, d], rs', ?_, ?_, ?_⟩⟩)
        · dsimp only; omega
        · dsimp only; exact beq_eq_false_iff_ne.mpr (by omega)
        · dsimp only; simp only [List.length_cons] at hlen; omega
        · rw [hps]; simp
        · dsimp only
          rw [List.map_append]
          simp only [Array.toList_push, List.append_assoc]
          exact hda.append (.cons (.str _ _) (.cons (.str _ _) .nil))
        · dsimp only; rw [e3]; exact hr
  · rintro ⟨out, start, last, must, n, over⟩ s' ⟨tk, rfl, hle, ⟨ho, qs, hq, hda⟩ | ⟨ho, hm, hst, hlen, _⟩⟩
    · dsimp only at ho hq hda hle ⊢
      subst ho
      rw [if_neg (by decide), htext, hkd, hlim]
      refine wpAny_bind ?_
      have e1 := len_at rfl hle
      show wpAny _ _ (mkStr ⟨l.toArray.extract last l.length⟩) _ _ _
      rw [← e1, slice_at (b := []) (by simp)]
      refine wpAny_mkStr ?_ (by show (l.drop last).toArray.size ≤ sizeLine; rw [List.size_toArray]; omega)
      have hda' := hda.length
      rw [hq] at hpl
      refine wpAny_bind (wpAny_newObj_type (wpAny_pure ?_) (hd := by simp [sizeOk] at hda' hpl ⊢; omega))
      refine h _ _ ?_
      rw [hq, List.map_append]
      simp only [Array.toList_push]
      exact hda.append (.cons (.str _ _) .nil)
    · exact absurd hlen (Nat.not_lt_zero _)
  · refine ⟨s.toks, rfl, Nat.zero_le _, .inr ⟨rfl, rfl, rfl, ?_, [], ps, rfl, DatAll.nil, hsp⟩⟩
    rw [List.length_range, hmost]
    dsimp only
    omega
end
end Mine
-- M2
set_option Elab.async false
set_option maxRecDepth 100000
set_option pp.maxSteps 600
namespace Mine
open PySem PySem.W PySem.Spec PySem.Calls PyProof.Rows

/-- a value that can be walked from the heap h on: the iterator is one new thing -/
def ItV (prog : Program) (w : World) (A : Around) (h : Heap) (xv : Value) (fpx : List Addr) (n : Nat) (P : Nat → Value → Prop) : Prop :=
  ∀ (s : Shared) (Q : Value → Shared → Prop) (E : Value → Shared → Prop), s.heap = h →
    (∀ (oI : Obj) (St : Nat → Heap → Prop), oI.isFreed = false → Walks prog w A h.objs.size (h.objs.size :: fpx) [h.objs.size] n P St →
      (∀ i g, St i g → ∃ o, g.get? h.objs.size = some o) → St 0 (h.push oI) → Q (.ref h.objs.size) { s with heap := h.push oI }) →
    wpAny (model prog w) A (pyIter xv) Q E s

section
variable {prog : Program} {w : World} {A : Around}
theorem itv_list {h : Heap} {l : Addr} {items : Array Value} (hh : A.handled = none) (hl : h.IsList l items) : ItV prog w A h (.ref l) [l] items.size (fun i v => items[i]? = some v) := by
  intro s Q E hs k
  subst hs
  obtain ⟨ol, hol, _⟩ := id hl
  have hne : l ≠ s.heap.objs.size := Nat.ne_of_lt (Heap.lt_size hol)
  refine wpAny_pyIter_list hl (k _ _ rfl (Walks.list hh s.heap.objs.size l hne items) (fun i g st => ?_) ⟨⟨_, Heap.get?_push_size _ rfl, rfl, rfl⟩, hl.push _⟩)
  obtain ⟨o, ho, _⟩ := st.1
  exact ⟨o, ho⟩
theorem itv_str {h : Heap} {x : Str} {t : Tok} (hh : A.handled = none) : ItV prog w A h (.str x t) [] x.cps.size (SignAt x) := by
  intro s Q E hs k
  subst hs
  cases ha : x.cps.all (· < 128)
  · exact wpAny_pyIter_wide ha (k _ _ rfl (Walks.strWide hh _ x t) (fun i g st => let ⟨o, ho, _⟩ := st; ⟨o, ho⟩) ⟨_, Heap.get?_push_size _ rfl, rfl, rfl⟩)
  · exact wpAny_pyIter_ascii ha (k _ _ rfl (Walks.strAscii hh _ x t) (fun i g st => let ⟨o, ho, _⟩ := st; ⟨o, ho⟩) ⟨_, Heap.get?_push_size _ rfl, rfl, rfl⟩)
theorem itv_dict {h : Heap} {d : Addr} {kvs : List (Str × Value)} {ep : Nat} (hh : A.handled = none) (hd : (d == sysModules) = false) (hm : h.DictAt (PySem.strKind prog w) d kvs ep) :
    ItV prog w A h (.ref d) [d] kvs.length (fun i v => ∃ k x, kvs[i]? = some (k, x) ∧ (PySem.strKind prog w).is k v = true) := by
  intro s Q E hs k
  subst hs
  obtain ⟨od, es, hod, _⟩ := id hm
  have hne : d ≠ s.heap.objs.size := Nat.ne_of_lt (Heap.lt_size hod)
  refine wpAny_pyIter_dict hd hm (k _ _ rfl (Walks.dictKeys hh s.heap.objs.size d hne kvs ep) (fun i g st => ?_) ⟨⟨_, Heap.get?_push_size _ rfl, rfl, rfl⟩, hm.at' fun o e => Heap.get?_push_of_some _ e⟩)
  obtain ⟨o, ho, _⟩ := st.1
  exact ⟨o, ho⟩

/-- a for over what can be walked -/
theorem loop_W {x : Str} {px : Pos} {body : List Stmt} {env : Env} {R : Result → Shared → Prop} {s : Shared} {I : Addr} {fpx : List Addr} {n : Nat} {P : Nat → Value → Prop} {St : Nat → Heap → Prop}
    {h₀ : Heap} {bs : Bd} {mu fr fr₀ : Led} {oI : Obj} (Wk : Walks prog w A I (I :: fpx) [I] n P St) (hob : ∀ i g, St i g → ∃ o, g.get? I = some o)
    (hx : env.kindOf x = some .local) (hp : (env.scope.kind == .class || (env.scope.kind == .module && env.locals != env.globals)) = false)
    (hst : St 0 s.heap) (hW : W h₀ fr₀ env.locals (mp bs) ((I, oI) :: mu) fr s.heap) (hfp : ∀ b ∈ fpx, (∃ o, (b, o) ∈ fr) ∨ ∃ o, h₀.get? b = some o)
    (J : Nat → Bd → Led → Led → Prop) (hJ : J 0 bs mu fr)
    (turn : ∀ i v bs₁ mu₁ fr₁ oI₁ h tk, i < n → P i v → J i bs₁ mu₁ fr₁ → (∀ p ∈ fr, p ∈ fr₁) → W h₀ fr₀ env.locals (mp (setL bs₁ x v)) ((I, oI₁) :: mu₁) fr₁ h →
      wpAny (model prog w) A (execs body env) (fun f s' => match f with
        | .next | .cont => ∃ bs' mu' fr' h' tk', s' = { s with heap := h', toks := tk' } ∧ (∀ p ∈ fr₁, p ∈ fr') ∧ W h₀ fr₀ env.locals (mp bs') ((I, oI₁) :: mu') fr' h' ∧ J (i + 1) bs' mu' fr'
        | .brk => R (.ok .next) s'
        | .ret v => R (.ok (.ret v)) s') (notedBy (model prog w) A env fun e s' => R (.error e) s') { s with heap := h, toks := tk })
    (done : ∀ bs₁ mu₁ fr₁ h tk, J n bs₁ mu₁ fr₁ → (∀ p ∈ fr, p ∈ fr₁) → W h₀ fr₀ env.locals (mp bs₁) mu₁ fr₁ h → R (.ok .next) { s with heap := h, toks := tk }) :
    codeAny (model prog w) A (.forLoop (.Name x px) (.ref I) body [] env) R s := by
  refine codeAny_forLoop (fun k s' => ∃ i h tk bs₁ mu₁ fr₁ oI₁, s' = { s with heap := h, toks := tk } ∧ k = n - i ∧ i ≤ n ∧ St i h ∧ W h₀ fr₀ env.locals (mp bs₁) ((I, oI₁) :: mu₁) fr₁ h ∧ (∀ p ∈ fr, p ∈ fr₁) ∧ J i bs₁ mu₁ fr₁) ?_ n
    ⟨0, s.heap, s.toks, bs, mu, fr, oI, rfl, rfl, Nat.zero_le _, hst, hW, fun _ hp => hp, hJ⟩
  rintro k s' ⟨i, h, tk, bs₁, mu₁, fr₁, oI₁, rfl, rfl, hi, st, hW₁, hsub, hJ₁⟩
  have keepFp : ∀ {g g' : Heap} {m : Str → Option Value} {mu' fr' : Led} {o o' : Obj}, W h₀ fr₀ env.locals m ((I, o) :: mu') fr' g' → g.get? I = some o → (∀ p ∈ fr₁, p ∈ fr') → Keep h₀ g → LedIn g fr₁ → ∀ b ∈ I :: fpx, ∀ q, g.get? b = some q → g'.get? b = some q := by
    intro g g' m mu' fr' o o' w' hg hs' k₀ l₁ b hb q hq
    rcases List.mem_cons.mp hb with rfl | hb
    · rw [hg] at hq; cases hq; exact w'.mus _ (.head _)
    · rcases hfp b hb with ⟨o₂, h₂⟩ | ⟨o₂, h₂⟩
      · have e1 := l₁ _ (hsub _ h₂)
        rw [show (b, o₂).1 = b from rfl, hq] at e1
        cases e1
        exact w'.frs _ (hs' _ (hsub _ h₂))
      · have e1 := k₀ _ _ h₂
        rw [hq] at e1
        cases e1
        exact w'.keep _ _ h₂
  by_cases hlt : i < n
  · refine Wk.item i _ _ _ hlt st fun v h₁ tk₁ hPv st₁ hk₁ => ?_
    obtain ⟨o₁, ho₁⟩ := hob _ _ st₁
    have W₂ : W h₀ fr₀ env.locals (mp bs₁) ((I, o₁) :: mu₁) fr₁ h₁ := hW₁.turn ho₁ fun b o hb e => hk₁ b o (by simpa using hb) e
    refine wpAny_assign_Name (wpAny_storeName_local hx W₂.ns (fun h₂ hn₂ hs₂ => ?_) hp)
    have W₃ : W h₀ fr₀ env.locals (mp (setL bs₁ x v)) ((I, o₁) :: mu₁) fr₁ h₂ := W₂.store (by rw [← mp_setL]; exact hn₂) hs₂
    have st₃ : St (i + 1) h₂ := Wk.frame _ _ _ st₁ (keepFp (o' := o₁) W₃ ho₁ (fun _ q => q) W₂.keep W₂.frs)
    refine wpAny_mono (turn i v bs₁ mu₁ fr₁ o₁ h₂ _ hlt hPv hJ₁ hsub W₃) (fun f s₃ hf => ?_) fun _ _ e => e
    have fin : (∃ bs' mu' fr' h' tk', s₃ = { s with heap := h', toks := tk' } ∧ (∀ p ∈ fr₁, p ∈ fr') ∧ W h₀ fr₀ env.locals (mp bs') ((I, o₁) :: mu') fr' h' ∧ J (i + 1) bs' mu' fr') →
        ∃ m, m < n - i ∧ ∃ i h tk bs₁ mu₁ fr₁ oI₁, s₃ = { s with heap := h, toks := tk } ∧ m = n - i ∧ i ≤ n ∧ St i h ∧ W h₀ fr₀ env.locals (mp bs₁) ((I, oI₁) :: mu₁) fr₁ h ∧ (∀ p ∈ fr, p ∈ fr₁) ∧ J i bs₁ mu₁ fr₁ := by
      rintro ⟨bs', mu', fr', h', tk', rfl, hs', w', j'⟩
      refine ⟨n - (i + 1), by omega, i + 1, h', tk', bs', mu', fr', o₁, rfl, rfl, hlt, ?_, w', fun p hp => hs' p (hsub p hp), j'⟩
      exact Wk.frame _ _ _ st₃ (keepFp (o' := o₁) w' (W₃.mus _ (.head _)) hs' W₃.keep W₃.frs)
    cases f with
    | next => exact fin hf
    | cont => exact fin hf
    | brk => exact hf
    | ret v => exact hf
  · obtain rfl : i = n := by omega
    refine Wk.done _ _ _ st fun h' tk' hk' => ?_
    refine wpAny_execs_nil ?_
    exact done bs₁ mu₁ fr₁ h' tk' hJ₁ hsub (hW₁.gone fun b o hb e => hk' b o (by simpa using hb) e)

/-- the whole for: behind the evaluation of what is walked -/
theorem for_W {L : Addr} {x : Str} {px : Pos} {body : List Stmt} {env : Env} {s : Shared} {Q : Flow → Shared → Prop} {E : Value → Shared → Prop} {xv : Value} {fpx : List Addr} {n : Nat} {P : Nat → Value → Prop}
    {h₀ : Heap} {bs : Bd} {mu fr fr₀ : Led} (It : ItV prog w A s.heap xv fpx n P)
    (hW : W h₀ fr₀ L (mp bs) mu fr s.heap) (hfp : ∀ b ∈ fpx, (∃ o, (b, o) ∈ fr) ∨ ∃ o, h₀.get? b = some o)
    (J : Nat → Bd → Led → Led → Prop) (hJ : J 0 bs mu fr)
    (turn : ∀ i v bs₁ mu₁ fr₁ I oI h tk, i < n → P i v → J i bs₁ mu₁ fr₁ → (∀ p ∈ fr, p ∈ fr₁) → W h₀ fr₀ L (mp (setL bs₁ x v)) ((I, oI) :: mu₁) fr₁ h →
      wpAny (model prog w) A (execs body env) (fun f s' => match f with
        | .next | .cont => ∃ bs' mu' fr' h' tk', s' = { s with heap := h', toks := tk' } ∧ (∀ p ∈ fr₁, p ∈ fr') ∧ W h₀ fr₀ L (mp bs') ((I, oI) :: mu') fr' h' ∧ J (i + 1) bs' mu' fr'
        | .brk => Q .next s'
        | .ret v => Q (.ret v) s') (notedBy (model prog w) A env fun e s' => cameBackBy (model prog w) A env E e s') { s with heap := h, toks := tk })
    (done : ∀ bs₁ mu₁ fr₁ h tk, J n bs₁ mu₁ fr₁ → (∀ p ∈ fr, p ∈ fr₁) → W h₀ fr₀ L (mp bs₁) mu₁ fr₁ h → Q .next { s with heap := h, toks := tk })
    (hL : env.locals = L := by rfl) (hx : env.kindOf x = some .local := by rfl) (hp : (env.scope.kind == .class || (env.scope.kind == .module && env.locals != env.globals)) = false := by rfl) :
    wpAny (model prog w) A (pyIter xv) (fun it s₂ => codeAny (model prog w) A (.forLoop (.Name x px) it body [] env) (fun r s' => match r with | .ok f => Q f s' | .error e => cameBackBy (model prog w) A env E e s') s₂) E s := by
  subst hL
  refine It s _ _ rfl fun oI St hf Wk hob hst => ?_
  refine loop_W (h₀ := h₀) (bs := bs) (mu := mu) (fr := fr) (oI := oI) Wk hob hx hp hst (hW.pushM oI hf) hfp J hJ (fun i v bs₁ mu₁ fr₁ oI₁ h tk h1 h2 h3 h4 h5 => ?_) (fun bs₁ mu₁ fr₁ h tk h1 h2 h3 => ?_)
  · refine wpAny_mono (turn i v bs₁ mu₁ fr₁ _ oI₁ h tk h1 h2 h3 h4 h5) (fun f s' x => ?_) fun _ _ e => e
    cases f with
    | next => exact x
    | cont => exact x
    | brk => exact x
    | ret v => exact x
  · exact done bs₁ mu₁ fr₁ h tk h1 h2 h3

/-! ### list comprehensions -/
/-- the loop of a list comprehension; f says what each turn lays, or nothing -/
theorem compLoop_W {elt iter : Expr} {x : Str} {px : Pos} {ifs : List Expr} {scope : Scope} {pos : Pos} {cenv : Env} {R : Result → Shared → Prop} {s : Shared} {I D : Addr} {fpx : List Addr} {n : Nat} {P : Nat → Value → Prop} {St : Nat → Heap → Prop}
    {h₀ : Heap} {m : Str → Option Value} {mu fr fr₀ : Led} {oI : Obj} {k₀ : Nat} (Wk : Walks prog w A I (I :: fpx) [I] n P St) (hob : ∀ i g, St i g → ∃ o, g.get? I = some o)
    (hst : St 0 s.heap) (hW : W h₀ fr₀ cenv.locals m ((I, oI) :: (D, listOf [].toArray k₀) :: mu) fr s.heap) (hfp : ∀ b ∈ fpx, ∃ o, h₀.get? b = some o)
    (J : (Str → Option Value) → Led → Prop) (hJ : J m mu) (f : Nat → Option Dat) (hn : n ≤ sizeLine)
    (turn : ∀ i v m₁ mu₁ fr₁ oI₁ ys k h tk E', i < n → P i v → J m₁ mu₁ → (∀ p ∈ fr, p ∈ fr₁) → W h₀ fr₀ cenv.locals m₁ ((I, oI₁) :: (D, listOf (List.toArray ys) k) :: mu₁) fr₁ h →
      wpAny (model prog w) A (assign (.Name x px) cenv v) (fun _ s₂ => wpAny (model prog w) A (forIn ifs true fun c r => if r = true then do let ok ← isTrue c cenv (eval c cenv); pure (ForInStep.yield ok) else pure (ForInStep.yield r))
        (fun ok s₃ => if ok = true then wpAny (model prog w) A (eval elt cenv) (fun y s₄ => ∃ h' tk' m' mu' fr', s₄ = { s with heap := h', toks := tk' } ∧ (∀ p ∈ fr₁, p ∈ fr') ∧ W h₀ fr₀ cenv.locals m' ((I, oI₁) :: (D, listOf (List.toArray ys) k) :: mu') fr' h' ∧ J m' mu' ∧ ∃ d, f i = some d ∧ DatIn fr' y d) E' s₃
          else ∃ h' tk' m' mu' fr', s₃ = { s with heap := h', toks := tk' } ∧ (∀ p ∈ fr₁, p ∈ fr') ∧ W h₀ fr₀ cenv.locals m' ((I, oI₁) :: (D, listOf (List.toArray ys) k) :: mu') fr' h' ∧ J m' mu' ∧ f i = none) E' s₂) E' { s with heap := h, toks := tk })
    (done : ∀ m₁ mu₁ fr₁ ys k h tk, J m₁ mu₁ → (∀ p ∈ fr, p ∈ fr₁) → W h₀ fr₀ cenv.locals m₁ ((D, listOf (List.toArray ys) k) :: mu₁) fr₁ h → DatAll fr₁ ys ((List.range n).filterMap f) → R (.ok .next) { s with heap := h, toks := tk }) :
    codeAny (model prog w) A (.compLoop (.ListComp elt [⟨.Name x px, iter, ifs, 0⟩] scope pos) 0 (.ref I) (.ref D) cenv) R s := by
  refine codeAny_compLoop_tests (fun k s' => ∃ i h tk m₁ mu₁ fr₁ oI₁ ys c, s' = { s with heap := h, toks := tk } ∧ k = n - i ∧ i ≤ n ∧ St i h ∧ W h₀ fr₀ cenv.locals m₁ ((I, oI₁) :: (D, listOf (List.toArray ys) c) :: mu₁) fr₁ h ∧ (∀ p ∈ fr, p ∈ fr₁) ∧ J m₁ mu₁ ∧ DatAll fr₁ ys ((List.range i).filterMap f)) ?_ n
    ⟨0, s.heap, s.toks, m, mu, fr, oI, [], k₀, rfl, rfl, Nat.zero_le _, hst, hW, fun _ hp => hp, hJ, DatAll.nil⟩
  rintro k s' ⟨i, h, tk, m₁, mu₁, fr₁, oI₁, ys, c, rfl, rfl, hi, st, hW₁, hsub, hJ₁, hD⟩
  have keepFp : ∀ {g g' : Heap} {m : Str → Option Value} {mu' fr' : Led} {o : Obj}, W h₀ fr₀ cenv.locals m ((I, o) :: mu') fr' g' → g.get? I = some o → Keep h₀ g → ∀ b ∈ I :: fpx, ∀ q, g.get? b = some q → g'.get? b = some q := by
    intro g g' m mu' fr' o w' hg k₀ b hb q hq
    rcases List.mem_cons.mp hb with rfl | hb
    · rw [hg] at hq; cases hq; exact w'.mus _ (.head _)
    · obtain ⟨o₂, h₂⟩ := hfp b hb
      have e1 := k₀ _ _ h₂
      rw [hq] at e1
      cases e1
      exact w'.keep _ _ h₂
  by_cases hlt : i < n
  · refine Wk.item i _ _ _ hlt st fun v h₁ tk₁ hPv st₁ hk₁ => ?_
    obtain ⟨o₁, ho₁⟩ := hob _ _ st₁
    have W₂ : W h₀ fr₀ cenv.locals m₁ ((I, o₁) :: (D, listOf ys.toArray c) :: mu₁) fr₁ h₁ := hW₁.turn ho₁ fun b o hb e => hk₁ b o (by simpa using hb) e
    refine wpAny_mono (turn i v m₁ mu₁ fr₁ o₁ ys c h₁ tk₁ _ hlt hPv hJ₁ hsub W₂) (fun _ s₂ x₂ => wpAny_mono x₂ (fun ok s₃ x₃ => ?_) fun _ _ e => e) fun _ _ e => e
    cases ok with
    | false =>
      simp only [Bool.false_eq_true, if_false] at x₃ ⊢
      obtain ⟨h', tk', m', mu', fr', rfl, hs', w', j', hf⟩ := x₃
      refine ⟨n - (i + 1), by omega, i + 1, h', tk', m', mu', fr', o₁, ys, c, rfl, rfl, hlt, Wk.frame _ _ _ st₁ (keepFp w' ho₁ W₂.keep), w', fun p hp => hs' p (hsub p hp), j', ?_⟩
      rw [List.range_succ, List.filterMap_append]
      simp only [List.filterMap_cons, hf, List.filterMap_nil, List.append_nil]
      exact hD.mono hs'
    | true =>
      simp only [if_true] at x₃ ⊢
      refine wpAny_mono x₃ (fun y s₄ x₄ => ?_) fun _ _ e => e
      obtain ⟨h', tk', m', mu', fr', rfl, hs', w', j', d, hf, hd⟩ := x₄
      have hpl : h'.PlainList D ys.toArray := ⟨c, w'.mus _ (.tail _ (.head _))⟩
      refine wpAny_list_append_plain hpl (fun h'' hpl' hsb => ?_) (by
        have := hD.length
        have e2 : ((List.range i).filterMap f).length ≤ (List.range i).length := List.length_filterMap_le _ _
        rw [List.length_range] at e2
        show ys.toArray.size ≤ sizeLine
        rw [List.size_toArray]; omega)
      obtain ⟨c', hc'⟩ := hpl'
      have w'' : W h₀ fr₀ cenv.locals m' ((I, o₁) :: (D, listOf (ys ++ [y]).toArray c') :: mu') fr' h'' := ((w'.swap).turn (by rw [hc']; simp) hsb.extBut).swap
      refine ⟨n - (i + 1), by omega, i + 1, h'', tk', m', mu', fr', o₁, ys ++ [y], c', rfl, rfl, hlt, Wk.frame _ _ _ st₁ (keepFp w'' ho₁ W₂.keep), w'', fun p hp => hs' p (hsub p hp), j', ?_⟩
      rw [List.range_succ, List.filterMap_append]
      simp only [List.filterMap_cons, hf, List.filterMap_nil]
      exact (hD.mono hs').append (DatAll.one hd)
  · obtain rfl : i = n := by omega
    refine Wk.done _ _ _ st fun h' tk' hk' => ?_
    exact done m₁ mu₁ fr₁ ys c h' tk' hJ₁ hsub (hW₁.gone fun b o hb e => hk' b o (by simpa using hb) e) hD
end
end Mine
-- M3
set_option Elab.async false
set_option maxRecDepth 100000
set_option pp.maxSteps 600
namespace Mine
open PySem PySem.W PySem.Spec PySem.Calls PyProof.Rows

section
variable {prog : Program} {w : World} {A : Around} {E : Value → Shared → Prop} {s : Shared} {env : Env}

/-- the tests of a clause -/
abbrev tests (ifs : List Expr) (env : Env) : Sem Bool := forIn ifs true fun c r => if r = true then do let ok ← isTrue c env (eval c env); pure (ForInStep.yield ok) else pure (ForInStep.yield r)

/-- the names of a comprehension that has no cell of its own: before the first turn, behind a turn -/
def JL (x : Str) (m : Str → Option Value) (mu : Led) : Prop := mu = [] ∧ (m = mp [] ∨ ∃ u, m = mp [(x, u)])

theorem lcBlock_W {elt iter : Expr} {x : Str} {px : Pos} {ifs : List Expr} {scope : Scope} {cl : List (Str × Addr)} {pos : Pos} {xv : Value} {fpx : List Addr} {n : Nat} {P : Nat → Value → Prop} {fr : Led}
    {RR : Value → Addr → Result → Shared → Prop} (It : ItV prog w A s.heap xv fpx n P) (hfp : ∀ b ∈ fpx, ∃ o, s.heap.get? b = some o) (hfr : LedIn s.heap fr)
    (f : Nat → Option Dat) (hn : n ≤ sizeLine)
    (hcell : ∀ y ∈ scope.names, y.2 ≠ .cell) (hkind : scope.kind = .function) (hx : scope.names.lookup x = some .local)
    (turn : ∀ C i v fr₁ mu₁ h tk E', i < n → P i v → (∀ p ∈ fr, p ∈ fr₁) → W s.heap fr C (mp [(x, v)]) mu₁ fr₁ h →
      wpAny (model prog w) A (tests ifs (compEnvC scope cl C env))
        (fun ok s₃ => if ok = true then wpAny (model prog w) A (eval elt (compEnvC scope cl C env)) (fun y s₄ => ∃ h' tk' fr', s₄ = { s with heap := h', toks := tk' } ∧ (∀ p ∈ fr₁, p ∈ fr') ∧ W s.heap fr C (mp [(x, v)]) mu₁ fr' h' ∧ ∃ d, f i = some d ∧ DatIn fr' y d) E' s₃
          else ∃ h' tk' fr', s₃ = { s with heap := h', toks := tk' } ∧ (∀ p ∈ fr₁, p ∈ fr') ∧ W s.heap fr C (mp [(x, v)]) mu₁ fr' h' ∧ f i = none) E' { s with heap := h, toks := tk })
    (done : ∀ D C m fr₁ ys k h tk, (∀ p ∈ fr, p ∈ fr₁) → W s.heap fr C m [(D, listOf (List.toArray ys) k)] fr₁ h → DatAll fr₁ ys ((List.range n).filterMap f) → RR (.ref D) C (.ok .next) { s with heap := h, toks := tk }) :
    wpAny (model prog w) A (pyIter xv) (fun it s₂ => wpAny (model prog w) A (newList []) (fun acc s₃ => wpAny (model prog w) A (newFunctionEnv scope env.globals cl [] env.qual none .none (some env)) (fun cenv s₄ =>
      codeAny (model prog w) A (.compStart (.ListComp elt [⟨.Name x px, iter, ifs, 0⟩] scope pos) 0 it acc { cenv with scope := relabel scope env }) (RR acc cenv.locals) s₄) E s₃) E s₂) E s := by
  refine It s _ _ rfl fun oI St hf Wk hob hst => ?_
  refine wpAny_newObj_type ?_
  refine wpAny_newFunctionEnv hcell (by intro y hy; simp at hy) (fun h₁ hns₁ hsb₁ => ?_) hkind
  dsimp only at hns₁ hsb₁ ⊢
  generalize hH1 : s.heap.push oI = H1 at hst hns₁ hsb₁ ⊢
  generalize hH2 : H1.push { cls := .type "list", dict := none, data := .seq ([] : List Value).toArray } = H2 at hns₁ hsb₁ ⊢
  have s1 : H1.objs.size = s.heap.objs.size + 1 := by rw [← hH1, Heap.size_push]
  have s2 : H2.objs.size = s.heap.objs.size + 2 := by rw [← hH2, Heap.size_push, s1]
  have k1 : Keep s.heap H1 := hH1 ▸ Keep.push _ _
  have k2 : Keep H1 H2 := hH2 ▸ Keep.push _ _
  have k3 : Keep H2 h₁ := fun b o e => hsb₁.extBut b o (Nat.ne_of_lt (Heap.lt_size e)) (Heap.get?_push_of_some _ e)
  have oI1 : H1.get? s.heap.objs.size = some oI := hH1 ▸ Heap.get?_push_size _ hf
  have oD2 : H2.get? H1.objs.size = some (listOf [].toArray 0) := hH2 ▸ Heap.get?_push_size _ rfl
  have none_of : ∀ a, s.heap.objs.size ≤ a → s.heap.get? a = none := fun a ha => by
    cases e : s.heap.get? a with
    | none => rfl
    | some o' => exact absurd (Heap.lt_size e) (Nat.not_lt.mpr ha)
  have hW : W s.heap fr H2.objs.size (mp []) [(s.heap.objs.size, oI), (H1.objs.size, listOf [].toArray 0)] fr h₁ := by
    refine ⟨hns₁, (k1.trans k2).trans k3, ?_, hfr.keep ((k1.trans k2).trans k3), Grow.refl _ _, none_of _ (by omega), ?_, ?_, ?_, ?_, ?_⟩
    · intro p hp
      rcases List.mem_cons.mp hp with rfl | hp
      · exact k3 _ _ (k2 _ _ oI1)
      · rw [List.mem_singleton.mp hp]; exact k3 _ _ oD2
    · intro p hp
      rcases List.mem_cons.mp hp with rfl | hp
      · exact none_of _ (Nat.le_refl _)
      · rw [List.mem_singleton.mp hp]; exact none_of _ (by show _ ≤ H1.objs.size; omega)
    · intro p hp
      rcases List.mem_cons.mp hp with rfl | hp
      · show s.heap.objs.size ≠ H2.objs.size; omega
      · rw [List.mem_singleton.mp hp]; show H1.objs.size ≠ H2.objs.size; omega
    · show [s.heap.objs.size, H1.objs.size].Nodup
      simp; omega
    · intro p hp e
      exact absurd (Heap.lt_size (hfr p hp)) (by rw [e, s2]; exact Nat.not_lt.mpr (Nat.le_add_right _ _))
    · intro p hp q hq e
      rcases List.mem_cons.mp hq with rfl | hq
      · exact absurd (Heap.lt_size (hfr p hp)) (by rw [e]; exact Nat.lt_irrefl _)
      · rw [List.mem_singleton.mp hq] at e
        exact absurd (Heap.lt_size (hfr p hp)) (by rw [e]; show ¬ (H1.objs.size < _); rw [s1]; exact Nat.not_lt.mpr (Nat.le_succ _))
  have hst₁ : St 0 h₁ := Wk.frame _ _ _ hst fun b _ o e => k3 b o (k2 b o e)
  have loop : ∀ s₃ : Shared, s₃ = { s with heap := h₁, toks := s.toks + ([] : List (Str × Value)).length } →
      codeAny (model prog w) A (.compLoop (.ListComp elt [⟨.Name x px, iter, ifs, 0⟩] scope pos) 0 (.ref s.heap.objs.size) (.ref H1.objs.size) (compEnvC scope cl H2.objs.size env))
        (RR (.ref H1.objs.size) H2.objs.size) s₃ := by
    rintro s₃ rfl
    refine compLoop_W (cenv := compEnvC scope cl H2.objs.size env) (h₀ := s.heap) (fr₀ := fr) (fr := fr) (mu := []) (m := mp []) (oI := oI) (k₀ := 0) Wk hob hst₁ hW hfp (JL x) ⟨rfl, .inl rfl⟩ f hn ?_ ?_
    · rintro i v m₁ mu₁ fr₁ oI₁ ys k h tk E' hi hP ⟨rfl, hm⟩ hsub hW₁
      obtain ⟨bs, rfl, hs⟩ : ∃ bs, m₁ = mp bs ∧ setL bs x v = [(x, v)] := by
        rcases hm with rfl | ⟨u, rfl⟩
        · exact ⟨[], rfl, rfl⟩
        · exact ⟨[(x, u)], rfl, by simp [setL]⟩
      refine wpAny_assign_Name (wpAny_storeName_local (lookup_relabel_local hx) hW₁.ns (fun h₂ hn₂ hs₂ => ?_) (by simp [compEnvC, relabel, hkind]))
      have W₂ : W s.heap fr H2.objs.size (mp [(x, v)]) [(s.heap.objs.size, oI₁), (H1.objs.size, listOf ys.toArray k)] fr₁ h₂ := hW₁.store (by rw [← hs, ← mp_setL]; exact hn₂) hs₂
      refine wpAny_mono (turn H2.objs.size i v fr₁ _ h₂ _ E' hi hP hsub W₂) (fun ok s₃ x₃ => ?_) fun _ _ e => e
      cases ok with
      | false =>
        simp only [Bool.false_eq_true, if_false] at x₃ ⊢
        obtain ⟨h', tk', fr', rfl, a, b, c⟩ := x₃
        exact ⟨h', tk', _, [], fr', rfl, a, b, ⟨rfl, .inr ⟨v, rfl⟩⟩, c⟩
      | true =>
        simp only [if_true] at x₃ ⊢
        refine wpAny_mono x₃ (fun y s₄ x₄ => ?_) fun _ _ e => e
        obtain ⟨h', tk', fr', rfl, a, b, c⟩ := x₄
        exact ⟨h', tk', _, [], fr', rfl, a, b, ⟨rfl, .inr ⟨v, rfl⟩⟩, c⟩
    · rintro m₁ mu₁ fr₁ ys k h tk ⟨rfl, _⟩ hsub hW₁ hD
      exact done _ _ _ fr₁ ys k h tk hsub hW₁ hD
  exact codeAny_compStart_list (loop _ rfl) (Wk.self 0 _ _ _ hst₁ (loop _ rfl))

/-- a list comprehension's value -/
theorem lc_W {elt iter : Expr} {x : Str} {px : Pos} {ifs : List Expr} {scope : Scope} {cl : List (Str × Addr)} {pos : Pos} {xv : Value} {fpx : List Addr} {n : Nat} {P : Nat → Value → Prop} {fr : Led} {Q : Value → Shared → Prop}
    (It : ItV prog w A s.heap xv fpx n P) (hfp : ∀ b ∈ fpx, ∃ o, s.heap.get? b = some o) (hfr : LedIn s.heap fr)
    (f : Nat → Option Dat) (hn : n ≤ sizeLine)
    (turn : ∀ C i v fr₁ mu₁ h tk E', i < n → P i v → (∀ p ∈ fr, p ∈ fr₁) → W s.heap fr C (mp [(x, v)]) mu₁ fr₁ h →
      wpAny (model prog w) A (tests ifs (compEnvC scope cl C env))
        (fun ok s₃ => if ok = true then wpAny (model prog w) A (eval elt (compEnvC scope cl C env)) (fun y s₄ => ∃ h' tk' fr', s₄ = { s with heap := h', toks := tk' } ∧ (∀ p ∈ fr₁, p ∈ fr') ∧ W s.heap fr C (mp [(x, v)]) mu₁ fr' h' ∧ ∃ d, f i = some d ∧ DatIn fr' y d) E' s₃
          else ∃ h' tk' fr', s₃ = { s with heap := h', toks := tk' } ∧ (∀ p ∈ fr₁, p ∈ fr') ∧ W s.heap fr C (mp [(x, v)]) mu₁ fr' h' ∧ f i = none) E' { s with heap := h, toks := tk })
    (done : ∀ D h tk fr', Keep s.heap h → LedIn h fr' → Grow s.heap fr fr' → DatIn fr' (.ref D) (.list ((List.range n).filterMap f)) → Q (.ref D) { s with heap := h, toks := tk })
    (hcell : ∀ y ∈ scope.names, y.2 ≠ .cell := by decide) (hkind : scope.kind = .function := by rfl) (hx : scope.names.lookup x = some .local := by rfl) :
    wpAny (model prog w) A (pyIter xv) (fun it s₂ => wpAny (model prog w) A (newList []) (fun acc s₃ => wpAny (model prog w) A (newFunctionEnv scope env.globals cl [] env.qual none .none (some env)) (fun cenv s₄ =>
      codeAny (model prog w) A (.compStart (.ListComp elt [⟨.Name x px, iter, ifs, 0⟩] scope pos) 0 it acc { cenv with scope := relabel scope env }) (compPost (model prog w) A E none Q acc cenv.locals) s₄) E s₃) E s₂) E s := by
  refine lcBlock_W (RR := fun acc C => compPost (model prog w) A E none Q acc C) It hfp hfr f hn hcell hkind hx turn ?_
  intro D C m fr₁ ys k h tk hsub hW₁ hD
  refine ⟨m, hW₁.ns, fun h' hs => ?_⟩
  have W₂ := hW₁.freeze
  have l' : LedIn h' ((D, listOf ys.toArray k) :: fr₁) := fun p hp => (hs.2 p.1 (W₂.offL p hp)).trans (W₂.frs p hp)
  refine done D h' tk ((D, listOf ys.toArray k) :: fr₁) (fun b o e => (hs.2 b (fun q => by rw [q, W₂.newL] at e; cases e)).trans (W₂.keep b o e)) l' W₂.gr ?_
  exact DatIn.list (.head _) (hD.mono fun p hp => .tail _ hp)

theorem lc_eval {elt iter : Expr} {x : Str} {px : Pos} {ifs : List Expr} {scope : Scope} (cl : List (Str × Addr)) {pos : Pos} {Q : Value → Shared → Prop}
    (hclos : closureFor scope env = pure cl)
    (h : wpAny (model prog w) A (eval iter env) (fun xv s₁ => wpAny (model prog w) A (pyIter xv) (fun it s₂ => wpAny (model prog w) A (newList []) (fun acc s₃ => wpAny (model prog w) A (newFunctionEnv scope env.globals cl [] env.qual none .none (some env)) (fun cenv s₄ =>
      codeAny (model prog w) A (.compStart (.ListComp elt [⟨.Name x px, iter, ifs, 0⟩] scope pos) 0 it acc { cenv with scope := relabel scope env }) (compPost (model prog w) A E none Q acc cenv.locals) s₄) E s₃) E s₂) E s₁) E s)
    (hkind : scope.kind = .function := by rfl) (hnames : ∀ y ∈ scope.names, y.2 = .local → scope.names.lookup y.1 = some .local := by decide) (hs : ∀ x, foldedSetIterable iter env x = pure x := by intro _; rfl) :
    wpAny (model prog w) A (eval (.ListComp elt [⟨.Name x px, iter, ifs, 0⟩] scope pos) env) Q E s := by
  rw [eval_ListComp]
  exact wpAny_comprehension_free (use := none) rfl hs hclos hkind hnames h

/-- a name bound to a list comprehension: the stores are exchanged -/
theorem lc_assign {elt iter : Expr} {x y : Str} {px py : Pos} {ifs : List Expr} {scope : Scope} (cl : List (Str × Addr)) {pos spos : Pos} {Q : Flow → Shared → Prop}
    (hclos : closureFor scope env = pure cl)
    (hsw : swapsWith (.ListComp elt [⟨.Name x px, iter, ifs, 0⟩] scope pos) (some (.Name y py)) spos.line env = pure true)
    (h : wpAny (model prog w) A (eval iter env) (fun xv s₁ => wpAny (model prog w) A (pyIter xv) (fun it s₂ => wpAny (model prog w) A (newList []) (fun acc s₃ => wpAny (model prog w) A (newFunctionEnv scope env.globals cl [] env.qual none .none (some env)) (fun cenv s₄ =>
      codeAny (model prog w) A (.compStart (.ListComp elt [⟨.Name x px, iter, ifs, 0⟩] scope pos) 0 it acc { cenv with scope := relabel scope env }) (compPost (model prog w) A E (some (assign (.Name y py) env)) (fun _ s' => Q .next s') acc cenv.locals) s₄) E s₃) E s₂) E s₁) E s)
    (hkind : scope.kind = .function := by rfl) (hnames : ∀ y ∈ scope.names, y.2 = .local → scope.names.lookup y.1 = some .local := by decide) (hs : ∀ x, foldedSetIterable iter env x = pure x := by intro _; rfl) :
    wpAny (model prog w) A (exec (.Assign [.Name y py] (.ListComp elt [⟨.Name x px, iter, ifs, 0⟩] scope pos) spos) env) Q E s := by
  rw [exec_Assign_Name_used _ _ _ _ hsw]
  refine wpAny_bind (wpAny_standAt (wpAny_bind ?_))
  show wpAny _ A (do let _ ← comprehension (.ListComp elt [⟨.Name x px, iter, ifs, 0⟩] scope pos) scope env _ (newList []) false (eval iter env) (some (assign (.Name y py) env))) _ _ s
  exact wpAny_bind (wpAny_mono (wpAny_comprehension_free (use := some (assign (.Name y py) env)) (Q := fun _ s' => Q .next s') rfl hs hclos hkind hnames h) (fun _ s' hq => wpAny_pure (wpAny_pure hq)) fun _ _ e => e)

theorem lcA_W {L : Addr} {elt iter : Expr} {x y : Str} {px py : Pos} {ifs : List Expr} {scope : Scope} {cl : List (Str × Addr)} {pos : Pos} {xv : Value} {fpx : List Addr} {n : Nat} {P : Nat → Value → Prop} {fr fr₀ mu : Led} {h₀ : Heap} {bs : Bd} {Q : Flow → Shared → Prop}
    (It : ItV prog w A s.heap xv fpx n P) (hfp : ∀ b ∈ fpx, ∃ o, s.heap.get? b = some o) (hW : W h₀ fr₀ L (mp bs) mu fr s.heap)
    (f : Nat → Option Dat) (hn : n ≤ sizeLine)
    (turn : ∀ C i v fr₁ mu₁ h tk E', i < n → P i v → (∀ p ∈ fr, p ∈ fr₁) → W s.heap fr C (mp [(x, v)]) mu₁ fr₁ h →
      wpAny (model prog w) A (tests ifs (compEnvC scope cl C env))
        (fun ok s₃ => if ok = true then wpAny (model prog w) A (eval elt (compEnvC scope cl C env)) (fun y s₄ => ∃ h' tk' fr', s₄ = { s with heap := h', toks := tk' } ∧ (∀ p ∈ fr₁, p ∈ fr') ∧ W s.heap fr C (mp [(x, v)]) mu₁ fr' h' ∧ ∃ d, f i = some d ∧ DatIn fr' y d) E' s₃
          else ∃ h' tk' fr', s₃ = { s with heap := h', toks := tk' } ∧ (∀ p ∈ fr₁, p ∈ fr') ∧ W s.heap fr C (mp [(x, v)]) mu₁ fr' h' ∧ f i = none) E' { s with heap := h, toks := tk })
    (done : ∀ D h tk fr', W h₀ fr₀ L (mp (setL bs y (.ref D))) mu fr' h → (∀ p ∈ fr, p ∈ fr') → DatIn fr' (.ref D) (.list ((List.range n).filterMap f)) → Q .next { s with heap := h, toks := tk })
    (hL : env.locals = L := by rfl) (hy : env.kindOf y = some .local := by rfl) (hp : (env.scope.kind == .class || (env.scope.kind == .module && env.locals != env.globals)) = false := by rfl)
    (hcell : ∀ y ∈ scope.names, y.2 ≠ .cell := by decide) (hkind : scope.kind = .function := by rfl) (hx : scope.names.lookup x = some .local := by rfl) :
    wpAny (model prog w) A (pyIter xv) (fun it s₂ => wpAny (model prog w) A (newList []) (fun acc s₃ => wpAny (model prog w) A (newFunctionEnv scope env.globals cl [] env.qual none .none (some env)) (fun cenv s₄ =>
      codeAny (model prog w) A (.compStart (.ListComp elt [⟨.Name x px, iter, ifs, 0⟩] scope pos) 0 it acc { cenv with scope := relabel scope env }) (compPost (model prog w) A E (some (assign (.Name y py) env)) (fun _ s' => Q .next s') acc cenv.locals) s₄) E s₃) E s₂) E s := by
  subst hL
  refine lcBlock_W (RR := fun acc C => compPost (model prog w) A E (some (assign (.Name y py) env)) (fun _ s' => Q .next s') acc C) It hfp hW.frs f hn hcell hkind hx turn ?_
  intro D C m fr₁ ys k h tk hsub hW₁ hD
  have W₂ := hW₁.freeze
  have hLC : env.locals ≠ C := by
    intro e
    have := W₂.newL
    rw [← e] at this
    obtain ⟨o, _, _, ho, _⟩ := hW.ns
    rw [this] at ho; cases ho
  have W₃ := hW.call W₂.keep W₂.frs W₂.gr
  show wpAny _ A (assign (.Name y py) env (.ref D)) _ _ _
  refine wpAny_assign_Name (wpAny_storeName_local hy W₃.ns (fun h₂ hn₂ hs₂ => ?_) hp)
  have W₄ : W h₀ fr₀ env.locals (mp (setL bs y (.ref D))) mu ((D, listOf ys.toArray k) :: fr₁) h₂ := W₃.store (by rw [← mp_setL]; exact hn₂) hs₂
  refine ⟨m, hW₁.ns.sameBut hs₂ (Ne.symm hLC), fun h₃ hs₃ => ?_⟩
  have offC : ∀ a, h₂.get? a ≠ none → (∃ o, s.heap.get? a = some o) → a ≠ C := by
    rintro a _ ⟨o, ho⟩ rfl
    rw [W₂.newL] at ho; cases ho
  refine done D h₃ _ ((D, listOf ys.toArray k) :: fr₁) ?_ (fun p hp => .tail _ (hsub p hp)) (DatIn.list (.head _) (hD.mono fun p hp => .tail _ hp))
  refine ⟨W₄.ns.sameBut hs₃ hLC, fun b o e => (hs₃.2 b (fun q => ?_)).trans (W₄.keep b o e), fun p hp => (hs₃.2 p.1 (fun q => ?_)).trans (W₄.mus p hp), fun p hp => (hs₃.2 p.1 (W₂.offL p hp)).trans (W₄.frs p hp), W₄.gr, W₄.newL, W₄.newM, W₄.ndL, W₄.nd, W₄.offL, W₄.off⟩
  · have := hW.keep b o e
    rw [q, W₂.newL] at this; cases this
  · have := hW.mus p hp
    rw [q, W₂.newL] at this; cases this
end
end Mine
-- M4
set_option Elab.async false
set_option maxRecDepth 100000
set_option pp.maxSteps 600
namespace Mine
open PySem PySem.W PySem.Spec PySem.Calls PyProof.Rows

section
variable {prog : Program} {w : World} {A : Around} {E : Value → Shared → Prop} {s : Shared} {env : Env} {h₀ : Heap} {m : Str → Option Value} {mu fr fr₀ : Led} {L : Addr}

theorem nmG {x : Str} {v : Value} {pos : Pos} {M : Model} {Q : Value → Shared → Prop} (hB : Bs w h₀) (hW : W h₀ fr₀ L m mu fr s.heap) (e : nsIn (KF w) mainGlobals x = some (some v)) (h : Q v s) (hg : env.globals = mainGlobals := by rfl)
    (hk : env.scope.kind = .function := by rfl) (hx : env.kindOf x = some .globalImplicit := by rfl) (hd : (x == ("__debug__" : Str)) = false := by decide) :
    wpAny M A (eval (.Name x pos) env) Q E s := nmK (hB.keep hW.keep) e h hg hk hx hd
theorem nmU {x : Str} {v : Value} {pos : Pos} {M : Model} {Q : Value → Shared → Prop} (hB : Bs w h₀) (hW : W h₀ fr₀ L m mu fr s.heap) (e : nsIn (KF w) mainGlobals x = some none) (hv : bootBuiltins x = some v) (hn : x ≠ "__name__") (h : Q v s) (hg : env.globals = mainGlobals := by rfl) (hb : env.builtins = builtinsNs := by rfl)
    (hk : env.scope.kind = .function := by rfl) (hx : env.kindOf x = some .globalImplicit := by rfl) (hd : (x == ("__debug__" : Str)) = false := by decide) :
    wpAny M A (eval (.Name x pos) env) Q E s := nmB (hB.keep hW.keep) e hv hn h hg hb hk hx hd

theorem keeperOf_fn {M : Model} {q : Addr} {o : Obj} {fd : FuncData} (ho : s.heap.get? q = some o) (hd : o.data = .func fd) {Q : Keeper → Shared → Prop} (h : Q .frame s) : wpAny M A (keeperOf (.ref q)) Q E s := by
  unfold keeperOf
  refine wpAny_bind (wpAny_load ho ?_)
  rw [hd]
  exact wpAny_pure h

/-- a call of a def of the top by its name: the arguments, then the call -/
theorem callD {q i : Nat} {o : Obj} {fd : FuncData} {e : Expr} {rest : List Expr} {pos : Pos} {Q : Value → Shared → Prop} (hB : Bs w h₀) (hq : (KF w)[i]? = some (q, o)) (hd : o.data = .func fd)
    (h : wpAny (model prog w) A (spliced (backTo pos (starEach (e :: rest) env))) (fun vs s₁ => Keep h₀ s₁.heap ∧ wpAny (model prog w) A (call (.ref q) vs) Q E s₁) E s)
    (he : starEach (e :: rest) env = (false, eval e env) :: starEach rest env := by rfl) (hplain : (backTo pos (starEach rest env)).any (·.1) = false := by rfl) :
    wpAny (model prog w) A (callWith pos (.ref q) [] (backTo pos (starEach (e :: rest) env)) []) Q E s := by
  rw [he] at h ⊢
  refine callWith_of (P := fun g => Keep h₀ g) (by show ((false || (backTo pos (starEach rest env)).any (·.1)) || false) = false; rw [hplain]; rfl) (fun g hg => ?_) (evalArgs_plain h)
  have := (hB.keep hg).at hq
  obtain ⟨oc, od, dt, sl⟩ := o
  simp only at hd
  subst hd
  exact ⟨.frame, .inl rfl, (Looks.ld (part := none) this).andThen .now⟩

/-- a def's contract at work -/
theorem call_ctr {n : Nat} {f : Addr} {vals : List Value} {P : Led → Value → Prop} {Q : Value → Shared → Prop} (C : Ctr prog w n f vals fr P) (hA : AOk A n) (hB : Bs w h₀) (hW : W h₀ fr₀ L m mu fr s.heap)
    (h : ∀ v h' tk fr', W h₀ fr₀ L m mu fr' h' → (∀ p ∈ fr, p ∈ fr') → P fr' v → Q v { s with heap := h', toks := tk }) : Keep h₀ s.heap ∧ wpAny (model prog w) A (call (.ref f) vals) Q E s :=
  ⟨hW.keep, C A s Q E hA (hB.keep hW.keep) hW.frs fun v h' tk fr' k l g p => h v h' tk fr' (hW.call k l g) g.sub p⟩

theorem mp_eq (bs : Bd) (x : Str) (v : Value) : mp (setL bs x v) x = some v := by rw [← mp_setL]; simp
theorem mp_ne {bs : Bd} {x y : Str} {v : Value} {u : Option Value} (h : y ≠ x) (e : mp bs y = u) : mp (setL bs x v) y = u := by rw [← mp_setL]; simp [h, e]

theorem newListF {M : Model} {vs : List Value} {Q : Value → Shared → Prop} (hW : W h₀ fr₀ L m mu fr s.heap)
    (h : ∀ D h', W h₀ fr₀ L m mu ((D, listOf vs.toArray 0) :: fr) h' → Q (.ref D) { s with heap := h' }) (hsz : vs.length ≤ sizeLine := by size_fits) : wpAny M A (newList vs) Q E s :=
  wpAny_newObj_type (h _ _ (hW.pushF _)) (by show vs.toArray.size ≤ sizeLine; rw [List.size_toArray]; exact hsz)
theorem newListM {M : Model} {vs : List Value} {Q : Value → Shared → Prop} (hW : W h₀ fr₀ L m mu fr s.heap)
    (h : ∀ D h', W h₀ fr₀ L m ((D, listOf vs.toArray 0) :: mu) fr h' → Q (.ref D) { s with heap := h' }) (hsz : vs.length ≤ sizeLine := by size_fits) : wpAny M A (newList vs) Q E s :=
  wpAny_newObj_type (h _ _ (hW.pushM _)) (by show vs.toArray.size ≤ sizeLine; rw [List.size_toArray]; exact hsz)
abbrev tupO (vs : List Value) (n : Nat) : Obj := { cls := .type "tuple", data := .seq vs.toArray n }
theorem newTupF {M : Model} {vs : List Value} {Q : Value → Shared → Prop} (hW : W h₀ fr₀ L m mu fr s.heap)
    (h : ∀ D h', W h₀ fr₀ L m mu ((D, tupO vs 0) :: fr) h' → Q (.ref D) { s with heap := h' }) (hsz : vs.length ≤ sizeLine := by size_fits) : wpAny M A (newTuple vs) Q E s :=
  wpAny_newObj_type (h _ _ (hW.pushF _)) (by show vs.toArray.size ≤ sizeLine; rw [List.size_toArray]; exact hsz)

/-! ### items -/
abbrev anyN : Expr := .Name (Str.ofString "q") ⟨0, 0, 0, 0⟩
theorem subT {value slice : Expr} {o i : Value} {T id : String} {ops : List Value} {Q : Value → Shared → Prop} (hT : s.TypeIs o T)
    (hl : typeLookup (.type T) "__getitem__" = pure (some (.builtin id))) (h : wpAny (model prog w) A (getItem o i) Q E s) (hs : subscripted slice false o i = operate ops (getItem o i)) :
    wpAny (model prog w) A (subscriptTail value slice o i) Q E s :=
  kba_turn (value' := anyN) (fun _ => rfl) (subscriptTail_ops hT hl h hs fun _ => rfl)
theorem sub_list {value slice : Expr} {l : Addr} {vs : List Value} {ds : List Dat} {n : Nat} {k : Int} {u : Tok} {led : Led} {d : Dat} {Q : Value → Shared → Prop} (hl : LedIn s.heap led) (hm : (l, listOf vs.toArray n) ∈ led) (hd : DatAll fr vs ds)
    (h0 : 0 ≤ k) (hfit : k < 2 ^ 63) (hk : ds[k.toNat]? = some d) (h : ∀ v, DatIn fr v d → Q v s)
    (hs : subscripted slice false (.ref l) (.int k u) = operate [.ref l, .int k u] (getItem (.ref l) (.int k u)) := by with_unfolding_all rfl) :
    wpAny (model prog w) A (subscriptTail value slice (.ref l) (.int k u)) Q E s := by
  have hlt : k.toNat < ds.length := by
    rcases Nat.lt_or_ge k.toNat ds.length with q | q
    · exact q
    · rw [List.getElem?_eq_none q] at hk; cases hk
  obtain ⟨v, hv, hvd⟩ := hd.get hlt
  have e : ds[k.toNat] = d := by rw [List.getElem?_eq_getElem hlt] at hk; exact Option.some.inj hk
  rw [e] at hvd
  exact subT (isList_of hl hm).typeIs list_getitem_lookup (wpAny_getItem_list (isList_of hl hm) h0 hfit (by simpa using hv) (h v hvd)) hs
theorem sub_last {value slice : Expr} {l : Addr} {vs : List Value} {ds : List Dat} {n : Nat} {u : Tok} {led : Led} {d : Dat} {Q : Value → Shared → Prop} (hl : LedIn s.heap led) (hm : (l, listOf vs.toArray n) ∈ led) (hd : DatAll fr vs ds)
    (hk : ds[ds.length - 1]? = some d) (h : ∀ v, DatIn fr v d → Q v s)
    (hs : subscripted slice false (.ref l) (.int (-1) u) = operate [.ref l, .int (-1) u] (getItem (.ref l) (.int (-1) u)) := by with_unfolding_all rfl) :
    wpAny (model prog w) A (subscriptTail value slice (.ref l) (.int (-1) u)) Q E s := by
  have hlt : ds.length - 1 < ds.length := by
    rcases Nat.lt_or_ge (ds.length - 1) ds.length with q | q
    · exact q
    · rw [List.getElem?_eq_none q] at hk; cases hk
  obtain ⟨v, hv, hvd⟩ := hd.get hlt
  have e : ds[ds.length - 1] = d := by rw [List.getElem?_eq_getElem hlt] at hk; exact Option.some.inj hk
  rw [e] at hvd
  have hlen := hd.length
  refine subT (isList_of hl hm).typeIs list_getitem_lookup (wpAny_getItem_list_neg (isList_of hl hm) (by omega) (by rw [List.size_toArray]; omega) (by omega) (x := v) ?_ (h v hvd)) hs
  rw [List.size_toArray, show ((-1 : Int) + (vs.length : Int)).toNat = ds.length - 1 by omega]
  simpa using hv
theorem isTup_of {h : Heap} {a : Addr} {vs : List Value} {n : Nat} {led : Led} (hl : LedIn h led) (hm : (a, tupO vs n) ∈ led) : IsTup h a vs.toArray := ⟨_, hl _ hm, rfl, n, rfl⟩
theorem sub_tup {value slice : Expr} {l : Addr} {vs : List Value} {ds : List Dat} {n : Nat} {k : Int} {u : Tok} {led : Led} {d : Dat} {Q : Value → Shared → Prop} (hl : LedIn s.heap led) (hm : (l, tupO vs n) ∈ led) (hd : DatAll fr vs ds)
    (h0 : 0 ≤ k) (hfit : k < 2 ^ 63) (hk : ds[k.toNat]? = some d) (h : ∀ v, DatIn fr v d → Q v s)
    (hs : subscripted slice false (.ref l) (.int k u) = operate [.ref l, .int k u] (getItem (.ref l) (.int k u)) := by with_unfolding_all rfl) :
    wpAny (model prog w) A (subscriptTail value slice (.ref l) (.int k u)) Q E s := by
  have hlt : k.toNat < ds.length := by
    rcases Nat.lt_or_ge k.toNat ds.length with q | q
    · exact q
    · rw [List.getElem?_eq_none q] at hk; cases hk
  obtain ⟨v, hv, hvd⟩ := hd.get hlt
  have e : ds[k.toNat] = d := by rw [List.getElem?_eq_getElem hlt] at hk; exact Option.some.inj hk
  rw [e] at hvd
  have hlen := hd.length
  have ht := isTup_of hl hm
  refine kba_turn (value' := anyN) (fun _ => rfl) (item_tupleL (value := anyN) ht (Int.le_trans (by decide) h0) hfit (j := k.toNat) ?_ hv (h v hvd) hs (fun _ => rfl))
  unfold seqIndex?
  have e1 : ¬ k < 0 := by omega
  have e2 : k < (vs.length : Int) := by omega
  simp [e1, e2, h0]
theorem add_W {a b : Addr} {vs ws : List Value} {n k : Nat} {led : Led} {Q : Value → Shared → Prop} (hW : W h₀ fr₀ L m mu fr s.heap) (hl : LedIn s.heap led) (ha : (a, listOf vs.toArray n) ∈ led) (hb : (b, listOf ws.toArray k) ∈ led)
    (h : ∀ D h', W h₀ fr₀ L m mu ((D, listOf (vs ++ ws).toArray 0) :: fr) h' → Q (.ref D) { s with heap := h' }) (hsz : vs.length + ws.length ≤ sizeLine) :
    wpAny (model prog w) A (binaryOp .Add (.ref a) (.ref b)) Q E s := by
  refine P.add_list (hl _ ha) (hl _ hb) ?_ (by simpa using hsz)
  have := h _ _ (hW.pushF (listOf (vs ++ ws).toArray 0))
  simpa using this

theorem cS {M : Model} {x : Str} {k : Nat} {pos : Pos} {Q : Value → Shared → Prop} (h : ∀ t tk, Q (.str x t) { s with toks := tk }) : wpAny M A (eval (.Constant (.str x) k pos) env) Q E s := fun _ _ _ => h _ _
theorem cI {M : Model} {x : Int} {k : Nat} {pos : Pos} {Q : Value → Shared → Prop} (h : ∀ t tk, Q (.int x t) { s with toks := tk }) : wpAny M A (eval (.Constant (.int x) k pos) env) Q E s := fun _ _ _ => h _ _
theorem iteD {p : Prop} [Decidable p] {X Y : Prop} (h1 : p → X) (h2 : ¬ p → Y) : if decide p = true then X else Y := by
  by_cases h : p
  · simpa [h] using h1 h
  · simpa [h] using h2 h
theorem iteB {b : Bool} {X Y : Prop} (h1 : b = true → X) (h2 : b = false → Y) : if b = true then X else Y := by
  cases b
  · simpa using h2 rfl
  · simpa using h1 rfl

theorem datInt {v : Value} {i : Int} (h : DatIn fr v (.int i)) : ∃ t, v = .int i t := by cases h; exact ⟨_, rfl⟩
theorem datStr {v : Value} {x : Str} (h : DatIn fr v (.str x)) : ∃ t, v = .str x t := by cases h; exact ⟨_, rfl⟩
theorem getMap {α : Type} {l : List α} {f : α → Dat} {k : Nat} {d : α} (h : k < l.length) : (l.map f)[((k : Nat) : Int).toNat]? = some (f (l.getD k d)) := by
  rw [Int.toNat_natCast, List.getElem?_map, List.getElem?_eq_getElem h, List.getD_eq_getElem?_getD, List.getElem?_eq_getElem h]
  rfl
end
end Mine
-- I1
set_option Elab.async false
set_option maxRecDepth 100000
set_option linter.unusedVariables false
namespace Mine
open PySem PySem.W PySem.Calls PyProof.Rows PySem.NumText

theorem typeCall_int_2 (a b : Value) : checkTypeCall "int" ⟨[a, b], []⟩ = pure () := by kernel_rfl
theorem args_object_init_3 (obj a b : Value) : argsOk "object.__init__" ⟨[obj, a, b], []⟩ := by kernel_rfl
theorem newCall_int_2 (a b : Value) : checkBuiltinCall "int.__new__" ⟨[.type "int", a, b], []⟩ = pure () := by kernel_rfl

/-- a text that int refuses -/
def bad (x : Str) : Bool := decide (x.length ≤ 640) && (digits? 10 (core (numSeenOf x))).isNone && decide ((reprText x).length ≤ 640)

section
variable {prog : Program} {w : World} {A : Around} {E : Value → Shared → Prop} {s : Shared}
theorem wpOn_ite_pos {α : Type} {M : Model} {c : Prop} [Decidable c] {a b : Sem α} {Q : α → Shared → Prop} (hc : c) (h : wpOn M A a Q E s) : wpOn M A (if c then a else b) Q E s := by rw [if_pos hc]; exact h
theorem intNew_bad {x : Str} {u v : Tok} {Q : Fin → Shared → Prop} (hx : bad x = true) (hA : A.handled = none)
    (h : ∀ h' tk e, Heap.NewExc s.heap h' e "ValueError" → E (.ref e) { s with heap := h', toks := tk }) :
    wpOn (model prog w) A (Builtin.«int.__new__» ⟨[.type "int", .str x u, .int 10 v], []⟩) Q E s := by
  unfold bad at hx
  simp only [Bool.and_eq_true, decide_eq_true_eq] at hx
  obtain ⟨⟨h1, h2⟩, h3⟩ := hx
  have hs : (numSeenOf x).length ≤ 640 := Nat.le_trans (seen_length x) h1
  have hr : (int_private% "readNumeral") 0 10 (numSeenOf x) = int_private% "Numeral.invalid" := by
    rw [readNumeral_ten]
    rw [Option.isNone_iff_eq_none.mp h2]
    rfl
  unfold Builtin.«int.__new__»
  dsimp only
  simp only [F.conv_sub_int, F.madeHere_int, pure_bind]
  refine wpOn_bind (wpOn_pure (a := true) ?_)
  rw [if_neg (by simp), if_neg (by simp), if_neg (by simp), if_neg (by simp)]
  refine wpOn_bind (wpOn_pure (a := PUnit.unit) ?_)
  simp only [List.head?_cons]
  rw [show ([Value.str x u, Value.int 10 v][1]? <|> Option.map (fun x => x.snd) ([] : List (Str × Value)).head?) = some (Value.int 10 v) from rfl]
  dsimp only
  refine wpOn_bind (wpOn_pure (a := (10 : Int)) ?_)
  rw [if_neg (by decide)]
  refine wpOn_bind (wpOn_pure (a := some (numTextOf x)) ?_)
  dsimp only
  refine wpOn_bind ?_
  refine wpOn_ite_pos hs ?_
  refine wpOn_bind (wpOn_pure ?_)
  dsimp only
  rw [show Int.toNat 10 = 10 from rfl, hr]
  dsimp only
  refine wpOn_bind (wpOn_pure (a := none) ?_)
  rw [if_neg (by simp)]
  refine wpOn_bind (on (wpAny_rule ?_))
  refine wpOn_bind (wpOn_pure (a := none) ?_)
  dsimp only
  have hline : 640 ≤ sizeLine := Nat.le_of_ble_eq_true rfl
  refine wpOn_bind (on (wpAny_pyRepr_str ?_ (Nat.le_trans h3 hline)))
  refine wpOn_bind (on (wpAny_mkStr ?_ ?_))
  · refine wpOn_bind (on (wpAny_newExc_plain plainExc_ValueError ?_))
    intro h' e he
    refine wpOn_bind (wpOn_mark ?_)
    exact on (wpAny_raiseNew_none hA (h _ _ _ he.newExc))
  · refine Nat.le_trans ?_ hline
    have e1 : (Str.ofString (toString "invalid literal for int() with base " ++ toString 10 ++ toString ": ")).cps.size = 40 := by decide +kernel
    generalize Str.ofString (toString "invalid literal for int() with base " ++ toString 10 ++ toString ": ") = m at e1 ⊢
    show (m.cps ++ (reprText x).cps.extract 0 200).size ≤ 640
    rw [Array.size_append, e1, Array.size_extract]
    omega

theorem intNew_ok {x : Str} {u v : Tok} {n : Int} (hl : x.length ≤ 640) (hn : PySem.intText? x = some n) : Gives (Builtin.«int.__new__» ⟨[.type "int", .str x u, .int 10 v], []⟩) (.int n) :=
  .of_wp fun M A E s Q h => by
    have hs : (numSeenOf x).length ≤ 640 := Nat.le_trans (seen_length x) hl
    have hr : (int_private% "readNumeral") 0 10 (numSeenOf x) = (int_private% "Numeral.value") n ∧ ((numSeenOf x).length == (numTextOf x).length) = true := by
      rcases read0 x hs with ⟨m, h1, h2, h3⟩ | ⟨h1, _⟩
      · rw [hn] at h1
        injection h1 with h1
        subst h1
        exact ⟨h3, h2⟩
      · rw [hn] at h1
        cases h1
    unfold Builtin.«int.__new__»
    dsimp only
    simp only [F.conv_sub_int, F.madeHere_int, pure_bind]
    refine wpAny_bind (wpAny_pure (a := true) ?_)
    rw [if_neg (by simp), if_neg (by simp), if_neg (by simp), if_neg (by simp)]
    refine wpAny_bind (wpAny_pure (a := PUnit.unit) ?_)
    simp only [List.head?_cons]
    rw [show ([Value.str x u, Value.int 10 v][1]? <|> Option.map (fun x => x.snd) ([] : List (Str × Value)).head?) = some (Value.int 10 v) from rfl]
    dsimp only
    refine wpAny_bind (wpAny_pure (a := (10 : Int)) ?_)
    rw [if_neg (by decide)]
    refine wpAny_bind (wpAny_pure (a := some (numTextOf x)) ?_)
    dsimp only
    refine wpAny_bind (KIN.wp_text hs hr.1 hr.2 ?_)
    exact wpAny_pure ⟨_, rfl, h⟩

theorem int2_ok {x : Str} {u v : Tok} {n : Int} {Q : Value → Shared → Prop} (hl : x.length ≤ 640) (hn : PySem.intText? x = some n) (h : ∀ t tk, Q (.int n t) { s with toks := tk }) :
    wpAny (model prog w) A (call (.type "int") [.str x u, .int 10 v]) Q E s :=
  callType_new F.called_int F.newNe_int (typeCall_int_2 _ _) (newCall_int_2 _ _) (fun obj => args_object_init_3 obj _ _) F.entry_int_new (intNew_ok hl hn).meets (show (Made.int n).post _ s from ⟨rfl, h _ _⟩)

theorem codeOn_call_builtin {R : Result → Shared → Prop} {id : String} {args : Args} {b : Builtin} (hq : plainId id = true) (hb : entryFor table id = some b) (hc : checkBuiltinCall id args = pure ())
    (h : wpOn (model prog w) A.in1 (b args) (fun fin s' => match fin with | .done f => R (.ok f) s' | .again c' => c'.quiet = true ∧ codeOn (model prog w) A c' R s') (fun e s' => R (.error e) s') s) :
    codeOn (model prog w) A (.call (.builtin id) args) R s := by
  refine codeOn_tree ?_
  show wpOn _ A.in1 (do checkBuiltinCall id args; again (.builtin id args)) _ _ s
  rw [hc]
  refine wpOn_bind (wpOn_pure (wpOn_pure (And.intro (plainId_quiet hq args) (codeOn_tree ?_))))
  show wpOn _ _ (match entryFor table id with | some b => b args | none => unsupported ((withoutEnding? id "#data").getD id)) _ _ s
  rw [hb, Around.under_plainId hq args]
  exact h

theorem codeOn_builtin {R : Result → Shared → Prop} {id : String} {args : Args} {b : Builtin} (hb : entryFor table id = some b)
    (h : wpOn (model prog w) (A.under (.builtin id args)) (b args) (fun fin s' => match fin with | .done f => R (.ok f) s' | .again c' => c'.quiet = true ∧ codeOn (model prog w) A c' R s') (fun e s' => R (.error e) s') s) :
    codeOn (model prog w) A (.builtin id args) R s := by
  refine codeOn_tree ?_
  show wpOn _ _ (match entryFor table id with | some b => b args | none => unsupported ((withoutEnding? id "#data").getD id)) _ _ s
  rw [hb]; exact h
theorem int2_bad {x : Str} {u v : Tok} {Q : Value → Shared → Prop} (hx : bad x = true) (hA : A.handled = none)
    (h : ∀ h' tk e, Heap.NewExc s.heap h' e "ValueError" → E (.ref e) { s with heap := h', toks := tk }) :
    wpOn (model prog w) A (call (.type "int") [.str x u, .int 10 v]) Q E s := by
  have ft := F.called_int
  obtain ⟨c, tl, hmro⟩ := ft.mro
  refine wpOn_call (codeOn_tree ?_)
  show wpOn _ _ (callAny (.type "int") _) _ _ _
  refine wpOn_pure ⟨Code.quiet_builtin _ (by decide +kernel), codeOn_builtin F.entry_type_call ?_⟩
  rw [Around.under_plain (weight_type_call_type "int" [.str x u, .int 10 v] []) (units_type_call_type "int" [.str x u, .int 10 v] [])]
  unfold Builtin.«type.__call__»
  dsimp only
  rw [if_neg (by rw [ft.notType]; exact Bool.false_ne_true)]
  rw [if_neg (by rw [ft.canCreate]; exact Bool.false_ne_true), typeCall_int_2, hmro]
  refine wpOn_bind (wpOn_pure (wpOn_bind (wpOn_pure ?_)))
  rw [if_neg (by simp), ft.made]
  refine wpOn_bind (wpOn_pure ?_)
  dsimp only
  refine wpOn_bind (wpOn_pure (wpOn_bind (wpOn_holding (wpOn_call (codeOn_call_builtin ft.plain F.entry_int_new (newCall_int_2 _ _) ?_)))))
  refine intNew_bad hx hA ?_
  intro h' tk e he
  exact h h' tk e he
end
end Mine
-- C1
set_option Elab.async false
set_option maxRecDepth 100000
set_option linter.unusedVariables false
namespace Mine
open PySem PySem.W PySem.Spec PySem.Calls PyProof.Rows

def allBut (h : Heap) (xs : List Addr) : Led := (List.range h.objs.size).filterMap fun a => if a ∈ xs then none else (h.get? a).map fun o => (a, o)
theorem mem_allBut {h : Heap} {xs : List Addr} {p : Addr × Obj} : p ∈ allBut h xs ↔ p.1 ∉ xs ∧ h.get? p.1 = some p.2 := by
  unfold allBut
  rw [List.mem_filterMap]
  constructor
  · rintro ⟨a, ha, e⟩
    split at e
    · cases e
    · rename_i hn
      cases ho : h.get? a with
      | none => rw [ho] at e; cases e
      | some o => rw [ho] at e; cases e; exact ⟨hn, ho⟩
  · rintro ⟨h1, h2⟩
    refine ⟨p.1, List.mem_range.mpr (Heap.lt_size h2), ?_⟩
    rw [if_neg h1, h2]
    rfl
theorem empty_none (a : Addr) : ({ objs := #[] } : Heap).get? a = none := by
  cases q : ({ objs := #[] } : Heap).get? a with
  | none => rfl
  | some o => exact absurd (Heap.lt_size q) (Nat.not_lt_zero _)

section
variable {prog : Program} {w : World} {A₀ : Around} {E : Value → Shared → Prop}
theorem caught_W {s' : Shared} {h : Heap} {L Ll e f : Addr} {oL : Obj} {m : Str → Option Value} {lenv : Env} {name : Str} {scope : Scope} {cd : Value} {b₀ : Stmt} {suite : List Stmt} {pos np : Pos} {Q : Flow → Shared → Prop}
    (hfr : A₀.frames = some [lenv]) (hFs : TI.Frs [lenv] [(Ll, oL)]) (hx : Heap.NewExc h s'.heap e "ValueError") (hns : h.Ns L m) (hL : h.get? Ll = some oL) (hne : Ll ≠ L)
    (hB : ∀ h', (∀ b o, b ≠ L → b ≠ Ll → h.get? b = some o → h'.get? b = some o) → Bs w h')
    (k : ∀ h' sl, h'.Ns L m → h'.get? Ll = some { oL with slots := sl } → (∀ b o, b ≠ L → b ≠ Ll → h.get? b = some o → h'.get? b = some o) →
      wpAny (model prog w) ((A₀.deeper (envOf name scope L f cd)).mark (some (.ref e))) (execs (b₀ :: suite) (envOf name scope L f cd)) Q (fun _ _ => False) { s' with heap := h' })
    (hg : nsIn (KF w) mainGlobals (Str.ofString "ValueError") = some none)
    (hk : scope.kind = .function) (hxk : (envOf name scope L f cd).kindOf (Str.ofString "ValueError") = some .globalImplicit) :
    wpAny (model prog w) (A₀.deeper (envOf name scope L f cd)) (noteFrame (.ref e) (envOf name scope L f cd)) (fun _ s₂ => wpAny (model prog w) (A₀.deeper (envOf name scope L f cd)) (setFlight (.ref e) none)
      (fun _ s₃ => wpAny (model prog w) (A₀.deeper (envOf name scope L f cd)) (handleBy (.ref e) (envOf name scope L f cd) [.ExceptHandler (some (.Name (Str.ofString "ValueError") np)) none (b₀ :: suite) pos]) Q (fun _ _ => False) s₃) (fun _ _ => False) s₂) (fun _ _ => False) s' := by
  have F : Fr { objs := #[] } L h m := ⟨hns, fun b o q => absurd q (by rw [empty_none]; intro z; nomatch z), Nat.zero_le _⟩
  have N : News { objs := #[] } L h (allBut h [L, Ll] ++ [(Ll, oL)]) := by
    intro p hp
    rcases List.mem_append.mp hp with hp | hp
    · obtain ⟨h1, h2⟩ := mem_allBut.mp hp
      exact ⟨h2, fun q => h1 (by rw [q]; exact List.mem_cons_self), empty_none _⟩
    · rw [List.mem_singleton.mp hp]
      exact ⟨hL, hne, empty_none _⟩
  have facts : ∀ {h' : Heap} {frs' : Led}, TI.SameUp [(Ll, oL)] frs' → News { objs := #[] } L h' (allBut h [L, Ll] ++ frs') → (∃ sl, h'.get? Ll = some { oL with slots := sl }) ∧ ∀ b o, b ≠ L → b ≠ Ll → h.get? b = some o → h'.get? b = some o := by
    intro h' frs' SU N'
    obtain ⟨sl, rfl⟩ := TLg.one_up SU
    refine ⟨⟨sl, (N' _ (List.mem_append_right _ List.mem_cons_self)).1⟩, fun b o b1 b2 hb => ?_⟩
    refine (N' (b, o) (List.mem_append_left _ (mem_allBut.mpr ⟨?_, hb⟩))).1
    intro hm
    rcases List.mem_cons.mp hm with q | hm
    · exact b1 q
    · exact b2 (List.mem_singleton.mp hm)
  refine TLg.noted_newA (new := allBut h [L, Ll]) hfr hFs hx F N (fun p hp => (mem_allBut.mp hp).1) (fun h₁ frs₁ SU Fs₁ H => ?_) hk
  refine H.land fun h₂ H₂ => ?_
  have B₂ := hB h₂ (facts SU H₂.made).2
  refine wpAny_handleBy_builtin (X := "ValueError") (T := "ValueError") (b := true) PySem.F.isExc_ValueError PySem.F.notTuple_ValueError (by rw [isSubtype_type]; kernel_rfl) (wpAny_passesOwnAt PassesOwnAt.never (nmB B₂ hg PyProof.Rows.Boot.«ValueError» (by decide) ⟨rfl, H₂.isA, ?_⟩ rfl rfl hk hxk))
  rw [if_pos rfl]
  refine H₂.lands fun h₃ F₃ N₃ => wpAny_passesOwnAt PassesOwnAt.never ?_
  obtain ⟨⟨sl, h4⟩, h5⟩ := facts SU N₃
  exact k h₃ sl F₃.ns h4 h5
end
end Mine
-- R2
set_option Elab.async false
set_option maxRecDepth 100000
set_option pp.maxSteps 300
set_option linter.unusedVariables false
namespace Mine
open PySem PySem.W PySem.Spec PySem.Calls PyProof.Rows
section
variable {prog : Program} {w : World} {A : Around} {E : Value → Shared → Prop} {s : Shared} {h₀ : Heap} {m : Str → Option Value} {mu fr fr₀ : Led} {L : Addr} {env : Env}
theorem draw_walk {I : Addr} {fp wr : List Addr} {n : Nat} {P : Nat → Value → Prop} {St : Nat → Heap → Prop} (Wk : Walks prog w A I fp wr n P St) : ∀ (k i : Nat) (s : Shared) (Q : List Value → Shared → Prop), St i s.heap → i + k ≤ n →
    (∀ h' tk (vs : List Value), St (i + k) h' → vs.length = k → (∀ j v, vs[j]? = some v → P (i + j) v) → (∀ b o, b ∉ wr → s.heap.get? b = some o → h'.get? b = some o) → Q vs { s with heap := h', toks := tk }) → wpAny (model prog w) A (draw (.ref I) k) Q E s
  | 0, i, s, Q, st, _, hQ => by
    show wpAny _ _ (pure []) Q E s
    exact wpAny_pure (hQ s.heap s.toks [] st rfl (fun j v e => by simp at e) fun _ _ _ e => e)
  | k + 1, i, s, Q, st, hle, hQ => by
    show wpAny _ _ (pyNext (.ref I) >>= _) Q E s
    refine wpAny_bind (Wk.item i _ _ _ (by omega) st fun v h₁ tk₁ hP st₁ hk₁ => ?_)
    refine wpAny_bind (wpAny_holding (draw_walk Wk k (i + 1) _ _ st₁ (by omega) fun h₂ tk₂ vs st₂ hl hp hk₂ => wpAny_pure ?_))
    refine hQ h₂ tk₂ (v :: vs) (by rw [show i + (k + 1) = i + 1 + k by omega]; exact st₂) (by simp [hl]) (fun j u e => ?_) fun b o hb e => hk₂ b o hb (hk₁ b o hb e)
    cases j with
    | zero => simp at e; subst e; exact hP
    | succ j =>
      have := hp j u (by simpa using e)
      rwa [show i + 1 + j = i + (j + 1) by omega] at this

theorem unpackItems_list {l : Addr} {items : Array Value} {Q : List Value → Shared → Prop} (hh : A.handled = none) (ht : s.heap.IsList l items)
    (hQ : ∀ h' tk, Keep s.heap h' → Q items.toList { s with heap := h', toks := tk }) : wpAny (model prog w) A (unpackItems (.ref l) items.size none) Q E s := by
  unfold unpackItems
  refine wpAny_bind ?_
  unfold notIterableAtAll
  refine wpAny_bind (wpAny_specialOf ht.typeIs slot_list_iter.lookup ?_)
  refine wpAny_pure ?_
  simp only [Bool.false_eq_true, if_false]
  refine wpAny_bind (wpAny_holding (itv_list hh ht s _ _ rfl fun oI St hf Wk hob hst => ?_))
  refine wpAny_bind (wpAny_holding (draw_walk Wk items.size 0 _ _ hst (by omega) fun h₁ tk₁ vs st₁ hl hp hk₁ => ?_))
  have hvs : vs = items.toList := by
    apply List.ext_getElem?
    intro j
    cases e : vs[j]? with
    | some v =>
      have := hp j v e
      rw [Nat.zero_add] at this
      simpa using this.symm
    | none =>
      have : vs.length ≤ j := by simpa using e
      simp; omega
  subst hvs
  rw [if_neg (by simp)]
  rw [Nat.zero_add] at st₁
  refine wpAny_bind (wpAny_holding (Wk.done _ _ _ st₁ fun h₂ tk₂ hk₂ => ?_))
  simp only [Option.isSome_none, Bool.false_eq_true, if_false]
  refine wpAny_pure (hQ h₂ tk₂ fun b o e => ?_)
  have hb : b ∉ [s.heap.objs.size] := by
    simp only [List.mem_singleton]
    exact Nat.ne_of_lt (Heap.lt_size e)
  exact hk₂ b o hb (hk₁ b o hb (Heap.get?_push_of_some _ e))

theorem unpackL {elts : List Expr} {x1 : Nat} {pos : Pos} {l : Addr} {vs : List Value} {n : Nat} {Q : Unit → Shared → Prop} (hh : A.handled = none) (hW : W h₀ fr₀ L m mu fr s.heap) (hm : (l, listOf vs.toArray n) ∈ fr)
    (hn : (assignEach elts env).length = vs.length) (hstar : (assignEach elts env).findIdx? (·.1) = none)
    (h : ∀ h' tk, W h₀ fr₀ L m mu fr h' → wpAny (model prog w) A (assignInOrder ((assignEach elts env).map (·.2)) vs) Q E { s with heap := h', toks := tk }) :
    wpAny (model prog w) A (assign (.Tuple elts x1 pos) env (.ref l)) Q E s := by
  rw [assign_Tuple]
  refine wpAny_bind (wpAny_standAt ?_)
  unfold unpack
  rw [hn, hstar, show vs.length = vs.toArray.size by simp]
  refine wpAny_bind (wpAny_holding (unpackItems_list hh (isList_of hW.frs hm) fun h' tk k => ?_))
  simpa using h h' tk (hW.same k)
theorem unpackT {elts : List Expr} {x1 : Nat} {pos : Pos} {l : Addr} {vs : List Value} {n : Nat} {Q : Unit → Shared → Prop} (hh : A.handled = none) (hW : W h₀ fr₀ L m mu fr s.heap) (hm : (l, tupO vs n) ∈ fr)
    (hn : (assignEach elts env).length = vs.length) (hstar : (assignEach elts env).findIdx? (·.1) = none)
    (h : ∀ h', W h₀ fr₀ L m mu fr h' → wpAny (model prog w) A (assignInOrder ((assignEach elts env).map (·.2)) vs) Q E { s with heap := h' }) :
    wpAny (model prog w) A (assign (.Tuple elts x1 pos) env (.ref l)) Q E s := by
  refine assign_Tuple_tuple hh (isTup_of hW.frs hm) (by simpa using hn) hstar fun h' he => ?_
  simpa using h h' (hW.same fun b o e => he b o (Nat.ne_of_lt (Heap.lt_size e)) e)

theorem asg_cons {x : Str} {pos : Pos} {rest : List Expr} {v : Value} {vs : List Value} {M : Model} {Q : Unit → Shared → Prop}
    (h : wpAny M A (storeName env x v) (fun _ s₁ => wpAny M A (assignInOrder ((assignEach rest env).map (·.2)) vs) Q E s₁) E s)
    (he : assignEach (.Name x pos :: rest) env = (false, assign (.Name x pos) env) :: assignEach rest env := by rfl) : wpAny M A (assignInOrder ((assignEach (.Name x pos :: rest) env).map (·.2)) (v :: vs)) Q E s := by
  rw [he]
  exact assignInOrder_cons (wpAny_assign_Name h)
theorem asg_nil {M : Model} {Q : Unit → Shared → Prop} (h : Q () s) : wpAny M A (assignInOrder ((assignEach [] env).map (·.2)) []) Q E s := assignInOrder_nil h
theorem stC {x : Str} {c : Addr} {o : Obj} {v : Value} {v₀ : Option Value} {M : Model} {Q : Unit → Shared → Prop} (hW : W h₀ fr₀ L m ((c, o) :: mu) fr s.heap) (hd : o.data = .cell v₀)
    (h : ∀ h' o', o'.data = .cell (some v) → W h₀ fr₀ L m ((c, o') :: mu) fr h' → Q () { s with heap := h' })
    (hc : env.cells.lookup x = some c := by rfl) (hk : env.scope.kind = .function := by rfl) (hx : env.kindOf x = some .cell := by rfl) : wpAny M A (storeName env x v) Q E s :=
  wpAny_storeName_cell hk hx hc ⟨o, hW.mus _ (.head _), hd⟩ fun h' ⟨o', ho', hd'⟩ hs => h h' o' hd' (hW.turn ho' hs.extBut)

/-- the world of a frame with cells -/
theorem W.cells {s₁ : Shared} {cs : List (Str × Addr)} {cm : Str → Option Value} (x : InCallC s L m cs cm s₁) (hL : L = s.heap.objs.size) (hF : LedIn s.heap fr) (hnd : ∀ p ∈ cs, cs.lookup p.1 = some p.2) :
    ∃ mu : Led, mu.map (·.1) = cs.map (·.2) ∧ (∀ (i : Nat) (n : Str) (c : Addr), cs[i]? = some (n, c) → ∃ o : Obj, mu[i]? = some (c, o) ∧ o.data = .cell (cm n)) ∧ W s.heap fr L m mu fr s₁.heap := by
  have ex : ∀ l : List (Str × Addr), (∀ p ∈ l, p ∈ cs) → ∃ mu : Led, mu.map (·.1) = l.map (·.2) ∧ (∀ (i : Nat) (n : Str) (c : Addr), l[i]? = some (n, c) → ∃ o : Obj, mu[i]? = some (c, o) ∧ o.data = .cell (cm n)) ∧ LedIn s₁.heap mu := by
    intro l
    induction l with
    | nil => intro _; exact ⟨[], rfl, fun i n c e => by simp at e, fun _ hp => nomatch hp⟩
    | cons p r ih =>
      intro hs
      obtain ⟨mu, h1, h2, h3⟩ := ih fun q hq => hs q (.tail _ hq)
      obtain ⟨o, ho, hd⟩ := x.cell p.1 p.2 (hnd p (hs p (.head _)))
      refine ⟨(p.2, o) :: mu, by simp [h1], fun i n c e => ?_, fun q hq => ?_⟩
      · cases i with
        | zero => simp at e; subst e; exact ⟨o, rfl, hd⟩
        | succ i => exact h2 i n c (by simpa using e)
      · rcases List.mem_cons.mp hq with rfl | hq
        · exact ho
        · exact h3 q hq
  obtain ⟨mu, h1, h2, h3⟩ := ex cs fun _ hp => hp
  have above : ∀ p ∈ mu, L < p.1 := by
    intro p hp
    have : p.1 ∈ cs.map (·.2) := h1 ▸ List.mem_map_of_mem hp
    obtain ⟨⟨n, c⟩, hc, e⟩ := List.mem_map.mp this
    have := x.above n c hc
    simp only at e
    rw [← e]; exact this
  have none_of : ∀ a, L ≤ a → s.heap.get? a = none := fun a ha => by
    cases e : s.heap.get? a with
    | none => rfl
    | some o' => exact absurd (Heap.lt_size e) (Nat.not_lt.mpr (hL ▸ ha))
  refine ⟨mu, h1, h2, x.toInCall.ns, x.toInCall.keep, h3, hF.keep x.toInCall.keep, Grow.refl _ _, none_of _ (Nat.le_refl _), fun p hp => none_of _ (Nat.le_of_lt (above p hp)), fun p hp => Nat.ne_of_gt (above p hp), ?_, ?_, ?_⟩
  · rw [h1]
    exact (List.pairwise_map.mpr x.apart : (cs.map (·.2)).Pairwise (· ≠ ·))
  · intro p hp e
    exact absurd (Heap.lt_size (hF p hp)) (by rw [e, hL]; exact Nat.lt_irrefl _)
  · intro p hp q hq e
    have h1 := Heap.lt_size (hF p hp)
    have h2 := above q hq
    rw [e] at h1
    rw [hL] at h2
    exact absurd h1 (Nat.not_lt.mpr (Nat.le_of_lt h2))

/-- entering a def with cells -/
theorem enterC {f : Addr} {vals : List Value} {Q : Value → Shared → Prop} {name qual : Str} {params : Arguments} {body : List Stmt} {scope : Scope} {dV kV doc pm ct oc cc : Value} {an od cd' : Option Addr} {osl csl : Array (Option Value)}
    {n c : Nat} {cvs : Array Value} {ctk : Tok} (i : Nat) (bs : Bd)
    (hA : AOk A (n + 1)) (hB : Bs w s.heap) (hf : LedIn s.heap fr)
    (ho : (KF w)[i + 1]? = some (f, ⟨oc, od, .func (fnOf name qual params body scope dV kV doc pm an (.ref c) ct), osl⟩)) (hcd : (KF w)[i]? = some (c, ⟨cc, cd', .fields cvs, csl⟩)) (hcq : cvs[1]? = some (.str qual ctk))
    (hbind : bindArgs (fnOf name qual params body scope dV kV doc pm an (.ref c) ct) ⟨vals, []⟩ = pure bs)
    (hkind : ∀ L, ∀ x ∈ bs, scope.names.lookup x.1 = some .local ∨ (scope.names.lookup x.1 = some .cell ∧ ((cellsFrom (L + 1) scope.names []).lookup x.1).isSome = true))
    (hnd : ∀ L, ∀ p ∈ cellsFrom (L + 1) scope.names [], (cellsFrom (L + 1) scope.names []).lookup p.1 = some p.2)
    (h : ∀ L h₁ tk mu, mu.map (·.1) = (cellsFrom (L + 1) scope.names []).map (·.2) → (∀ (i : Nat) (n : Str) (c : Addr), (cellsFrom (L + 1) scope.names [])[i]? = some (n, c) → ∃ o : Obj, mu[i]? = some (c, o) ∧ o.data = .cell (bindC (envX qual scope L f (.ref c) (cellsFrom (L + 1) scope.names [])).kindOf bs (fun _ => none) n)) →
      W s.heap fr L (bindL (envX qual scope L f (.ref c) (cellsFrom (L + 1) scope.names [])).kindOf bs fun _ => none) mu fr h₁ → Bs w h₁ → AOk (A.deeper (envX qual scope L f (.ref c) (cellsFrom (L + 1) scope.names []))) n →
      wpAny (model prog w) (A.deeper (envX qual scope L f (.ref c) (cellsFrom (L + 1) scope.names []))) (execs body (envX qual scope L f (.ref c) (cellsFrom (L + 1) scope.names [])))
        (fun fl s' => Q (match fl with | .ret v => v | _ => .none) s') (fun _ _ => False) { s with heap := h₁, toks := tk })
    (hco : scope.isCoroutine = false := by rfl) (hgen : scope.isGenerator = false := by rfl) (hk : scope.kind = .function := by rfl) :
    wpAny (model prog w) A (call (.ref f) vals) Q E s := by
  refine wpAny_call (codeAny_call_cells (fd := fnOf name qual params body scope dV kV doc pm an (.ref c) ct) (body := body) (binds := bs) (by have := hA.dep; omega) (hB.at ho) rfl hB.nolimit ⟨_, _, _, _, rfl, hB.at hcd, rfl, hcq⟩ rfl hbind rfl (hkind _) (fun s₁ x => ?_) hco hgen hk)
  obtain ⟨mu, h1, h2, hW⟩ := W.cells x rfl hf (hnd _)
  obtain ⟨h₁, tk, rfl⟩ := x.toInCall.same
  refine wpAny_mono (h s.heap.objs.size h₁ tk mu h1 h2 hW (hB.keep hW.keep) hA.deeper) (fun _ _ x => x) fun _ _ x => x.elim
end

end Mine
-- R3
set_option Elab.async false
set_option maxRecDepth 100000
set_option pp.maxSteps 300
set_option linter.unusedVariables false
namespace Mine
open PySem PySem.W PySem.Spec PySem.Calls PyProof.Rows
section
variable {prog : Program} {w : World} {A : Around} {E : Value → Shared → Prop} {s : Shared} {env : Env}
/-- the turns of a list comprehension -/
def CTurn (prog : Program) (w : World) (A : Around) (env : Env) (elt : Expr) (ifs : List Expr) (scope : Scope) (cl : List (Str × Addr)) (x : Str) (n : Nat) (P : Nat → Value → Prop) (f : Nat → Option Dat) (fr : Led) (s : Shared) : Prop :=
  ∀ C i v fr₁ mu₁ h tk E', i < n → P i v → (∀ p ∈ fr, p ∈ fr₁) → W s.heap fr C (mp [(x, v)]) mu₁ fr₁ h →
      wpAny (model prog w) A (tests ifs (compEnvC scope cl C env))
        (fun ok s₃ => if ok = true then wpAny (model prog w) A (eval elt (compEnvC scope cl C env)) (fun y s₄ => ∃ h' tk' fr', s₄ = { s with heap := h', toks := tk' } ∧ (∀ p ∈ fr₁, p ∈ fr') ∧ W s.heap fr C (mp [(x, v)]) mu₁ fr' h' ∧ ∃ d, f i = some d ∧ DatIn fr' y d) E' s₃
          else ∃ h' tk' fr', s₃ = { s with heap := h', toks := tk' } ∧ (∀ p ∈ fr₁, p ∈ fr') ∧ W s.heap fr C (mp [(x, v)]) mu₁ fr' h' ∧ f i = none) E' { s with heap := h, toks := tk }
structure CompA (prog : Program) (w : World) (A : Around) (env : Env) (elt : Expr) (ifs : List Expr) (scope : Scope) (cl : List (Str × Addr)) (x y : Str) (Q : Flow → Shared → Prop) (xv : Value) (s : Shared) : Prop where
  mk' ::
  ex : ∃ (fpx : List Addr) (n : Nat) (P : Nat → Value → Prop) (fr fr₀ mu : Led) (h₀ : Heap) (bs : Bd) (f : Nat → Option Dat), ItV prog w A s.heap xv fpx n P ∧ (∀ b ∈ fpx, ∃ o, s.heap.get? b = some o) ∧ W h₀ fr₀ env.locals (mp bs) mu fr s.heap ∧ n ≤ sizeLine ∧
    CTurn prog w A env elt ifs scope cl x n P f fr s ∧ ∀ D h tk fr', W h₀ fr₀ env.locals (mp (setL bs y (.ref D))) mu fr' h → (∀ p ∈ fr, p ∈ fr') → DatIn fr' (.ref D) (.list ((List.range n).filterMap f)) → Q .next { s with heap := h, toks := tk }
structure CompE (prog : Program) (w : World) (A : Around) (env : Env) (elt : Expr) (ifs : List Expr) (scope : Scope) (cl : List (Str × Addr)) (x : Str) (Q : Value → Shared → Prop) (xv : Value) (s : Shared) : Prop where
  mk' ::
  ex : ∃ (fpx : List Addr) (n : Nat) (P : Nat → Value → Prop) (fr fr₀ mu : Led) (h₀ : Heap) (L : Addr) (m : Str → Option Value) (f : Nat → Option Dat), ItV prog w A s.heap xv fpx n P ∧ (∀ b ∈ fpx, ∃ o, s.heap.get? b = some o) ∧ W h₀ fr₀ L m mu fr s.heap ∧ n ≤ sizeLine ∧
    CTurn prog w A env elt ifs scope cl x n P f fr s ∧ ∀ D h tk fr', W h₀ fr₀ L m mu fr' h → (∀ p ∈ fr, p ∈ fr') → DatIn fr' (.ref D) (.list ((List.range n).filterMap f)) → Q (.ref D) { s with heap := h, toks := tk }

theorem CompA.mk {elt : Expr} {ifs : List Expr} {scope : Scope} {cl : List (Str × Addr)} {x y : Str} {Q : Flow → Shared → Prop} {xv : Value} {L : Addr} {fpx : List Addr} {n : Nat} {P : Nat → Value → Prop} {fr fr₀ mu : Led} {h₀ : Heap} {bs : Bd} (f : Nat → Option Dat)
    (hW : W h₀ fr₀ L (mp bs) mu fr s.heap) (It : ItV prog w A s.heap xv fpx n P) (hfp : ∀ b ∈ fpx, ∃ o, s.heap.get? b = some o) (hn : n ≤ sizeLine) (turn : CTurn prog w A env elt ifs scope cl x n P f fr s)
    (done : ∀ D h tk fr', W h₀ fr₀ L (mp (setL bs y (.ref D))) mu fr' h → (∀ p ∈ fr, p ∈ fr') → DatIn fr' (.ref D) (.list ((List.range n).filterMap f)) → Q .next { s with heap := h, toks := tk }) (hL : env.locals = L := by rfl) : CompA prog w A env elt ifs scope cl x y Q xv s := by
  subst hL
  exact ⟨fpx, n, P, fr, fr₀, mu, h₀, bs, f, It, hfp, hW, hn, turn, done⟩
theorem CompE.mk {elt : Expr} {ifs : List Expr} {scope : Scope} {cl : List (Str × Addr)} {x : Str} {Q : Value → Shared → Prop} {xv : Value} {L : Addr} {fpx : List Addr} {n : Nat} {P : Nat → Value → Prop} {fr fr₀ mu : Led} {h₀ : Heap} {m : Str → Option Value} (f : Nat → Option Dat)
    (hW : W h₀ fr₀ L m mu fr s.heap) (It : ItV prog w A s.heap xv fpx n P) (hfp : ∀ b ∈ fpx, ∃ o, s.heap.get? b = some o) (hn : n ≤ sizeLine) (turn : CTurn prog w A env elt ifs scope cl x n P f fr s)
    (done : ∀ D h tk fr', W h₀ fr₀ L m mu fr' h → (∀ p ∈ fr, p ∈ fr') → DatIn fr' (.ref D) (.list ((List.range n).filterMap f)) → Q (.ref D) { s with heap := h, toks := tk }) : CompE prog w A env elt ifs scope cl x Q xv s :=
  ⟨fpx, n, P, fr, fr₀, mu, h₀, L, m, f, It, hfp, hW, hn, turn, done⟩

/-- a name bound to a list comprehension -/
theorem lcA {elt iter : Expr} {x y : Str} {px py : Pos} {ifs : List Expr} {scope : Scope} (cl : List (Str × Addr)) {pos spos : Pos} {Q : Flow → Shared → Prop}
    (hclos : closureFor scope env = pure cl) (hsw : swapsWith (.ListComp elt [⟨.Name x px, iter, ifs, 0⟩] scope pos) (some (.Name y py)) spos.line env = pure true)
    (h : wpAny (model prog w) A (eval iter env) (fun xv s₁ => CompA prog w A env elt ifs scope cl x y Q xv s₁) E s)
    (hcell : ∀ y ∈ scope.names, y.2 ≠ .cell) (hkind : scope.kind = .function) (hx : scope.names.lookup x = some .local) (hnames : ∀ y ∈ scope.names, y.2 = .local → scope.names.lookup y.1 = some .local) (hs : ∀ x, foldedSetIterable iter env x = pure x)
    (hy : env.kindOf y = some .local) (hp : (env.scope.kind == .class || (env.scope.kind == .module && env.locals != env.globals)) = false) :
    wpAny (model prog w) A (exec (.Assign [.Name y py] (.ListComp elt [⟨.Name x px, iter, ifs, 0⟩] scope pos) spos) env) Q E s := by
  refine lc_assign cl hclos hsw (wpAny_mono h (fun xv s₁ hc => ?_) fun _ _ q => q) hkind hnames hs
  obtain ⟨fpx, n, P, fr, fr₀, mu, h₀, bs, f, It, hfp, hW, hn, turn, done⟩ := hc.ex
  exact lcA_W It hfp hW f hn turn done rfl hy hp hcell hkind hx
/-- a list comprehension's value -/
theorem lcE {elt iter : Expr} {x : Str} {px : Pos} {ifs : List Expr} {scope : Scope} (cl : List (Str × Addr)) {pos : Pos} {Q : Value → Shared → Prop}
    (hclos : closureFor scope env = pure cl)
    (h : wpAny (model prog w) A (eval iter env) (fun xv s₁ => CompE prog w A env elt ifs scope cl x Q xv s₁) E s)
    (hcell : ∀ y ∈ scope.names, y.2 ≠ .cell) (hkind : scope.kind = .function) (hx : scope.names.lookup x = some .local) (hnames : ∀ y ∈ scope.names, y.2 = .local → scope.names.lookup y.1 = some .local) (hs : ∀ x, foldedSetIterable iter env x = pure x) :
    wpAny (model prog w) A (eval (.ListComp elt [⟨.Name x px, iter, ifs, 0⟩] scope pos) env) Q E s := by
  refine lc_eval cl hclos (wpAny_mono h (fun xv s₁ hc => ?_) fun _ _ q => q) hkind hnames hs
  obtain ⟨fpx, n, P, fr, fr₀, mu, h₀, L, m, f, It, hfp, hW, hn, turn, done⟩ := hc.ex
  exact lc_W It hfp hW.frs f hn turn (fun D h tk fr' k l g d => done D h tk fr' (hW.call k l g) g.sub d) hcell hkind hx
theorem tests_nil {Q : Bool → Shared → Prop} {M : Model} (h : Q true s) : wpAny M A (tests [] env) Q E s := wpAny_pure h
theorem tests_one {c : Expr} {Q : Bool → Shared → Prop} {M : Model} (h : wpAny M A (isTrue c env (eval c env)) Q E s) : wpAny M A (tests [c] env) Q E s := by
  unfold tests
  rw [List.forIn_cons]
  refine wpAny_bind ?_
  rw [if_pos rfl]
  refine wpAny_bind (wpAny_mono h (fun ok s' q => wpAny_pure ?_) fun _ _ q => q)
  dsimp only
  rw [List.forIn_nil]
  exact wpAny_pure q
end

end Mine
-- R4
set_option Elab.async false
set_option maxRecDepth 100000
set_option pp.maxSteps 300
set_option linter.unusedVariables false
namespace Mine
open PySem PySem.W PySem.Spec PySem.Calls PyProof.Rows
def clipI (v : Int) (n : Nat) : Int := max 0 (min (if v < 0 then v + n else v) n)
theorem ix_ss (i j : Int) (n : Nat) : Builtin.Str.strSliceIndices (some i) (some j) 1 n = sliceRange (clipI i n) (clipI j n) 1 := rfl
theorem ix_ns (j : Int) (n : Nat) : Builtin.Str.strSliceIndices none (some j) 1 n = sliceRange ((0 : Nat) : Int) (clipI j n) 1 := rfl
theorem ix_sn (i : Int) (n : Nat) : Builtin.Str.strSliceIndices (some i) none 1 n = sliceRange (clipI i n) ((n : Nat) : Int) 1 := rfl
theorem slS {l : List Nat} {lo hi : Option Int} {a b : Nat} (e : Builtin.Str.strSliceIndices lo hi 1 l.length = sliceRange (a : Int) (b : Int) 1) (hb : b ≤ l.length) : Txt.slice (S l) lo hi = S ((l.drop a).take (b - a)) := by
  unfold Txt.slice
  rw [S_length, e, sliceRange_one]
  split
  · rename_i h
    simp only [List.length_map, List.length_range, Bool.and_eq_true, beq_iff_eq, true_and] at h
    by_cases h0 : a = 0
    · subst h0
      rw [Nat.sub_zero] at h ⊢
      rw [h, List.drop_zero, List.take_length]
    · have h2 : l.length = 0 := by omega
      have h3 : l = [] := List.length_eq_zero_iff.mp h2
      subst h3; simp [S]
  · rw [pick_run]
    simp [S]
theorem slS_to {l : List Nat} {j : Nat} (hj : j ≤ l.length) : Txt.slice (S l) none (some (j : Int)) = S (l.take j) := by
  have e : clipI (j : Int) l.length = ((j : Nat) : Int) := by unfold clipI; omega
  rw [slS (a := 0) (b := j) (by rw [ix_ns, e]) hj]; simp
theorem slS_from {l : List Nat} {i : Nat} (hi : i ≤ l.length) : Txt.slice (S l) (some (i : Int)) none = S (l.drop i) := by
  have e : clipI (i : Int) l.length = ((i : Nat) : Int) := by unfold clipI; omega
  rw [slS (a := i) (b := l.length) (by rw [ix_sn, e]) (Nat.le_refl _)]
  rw [List.take_of_length_le (by rw [List.length_drop]; omega)]
theorem slS_mid {l : List Nat} (hl : 2 ≤ l.length) : Txt.slice (S l) (some 1) (some (-1)) = S ((l.drop 1).take (l.length - 2)) := by
  have e1 : clipI 1 l.length = ((1 : Nat) : Int) := by unfold clipI; omega
  have e2 : clipI (-1) l.length = ((l.length - 1 : Nat) : Int) := by unfold clipI; omega
  rw [slS (a := 1) (b := l.length - 1) (by rw [ix_ss, e1, e2]) (by omega)]
  congr 2
theorem slS_last {l : List Nat} (hl : 1 ≤ l.length) : Txt.slice (S l) (some (-1)) none = S (l.drop (l.length - 1)) := by
  have e1 : clipI (-1) l.length = ((l.length - 1 : Nat) : Int) := by unfold clipI; omega
  rw [slS (a := l.length - 1) (b := l.length) (by rw [ix_sn, e1]) (Nat.le_refl _)]
  rw [List.take_of_length_le (by rw [List.length_drop]; omega)]
theorem pickL {vs : List Value} {lo hi : Option Int} {a b : Nat} (e : sliceBounds lo hi none vs.length = ((a : Int), (b : Int), 1)) : slicePick vs.toArray lo hi none = ((vs.drop a).take (b - a)).toArray := by
  unfold slicePick
  rw [List.size_toArray, e]
  simp only [sliceRange_one, pick_run]
theorem bd_ns (j : Int) (n : Nat) : sliceBounds none (some j) none n = (((0 : Nat) : Int), clipI j n, 1) := rfl
theorem pick_to {vs : List Value} (j : Nat) : slicePick vs.toArray none (some (j : Int)) none = (vs.take j).toArray := by
  have e : clipI (j : Int) vs.length = ((min j vs.length : Nat) : Int) := by unfold clipI; omega
  rw [pickL (a := 0) (b := min j vs.length) (by rw [bd_ns, e])]
  congr 1
  rw [List.drop_zero, Nat.sub_zero, List.take_eq_take_iff]
  omega
theorem pick_init {vs : List Value} : slicePick vs.toArray none (some (-1)) none = (vs.take (vs.length - 1)).toArray := by
  have e : clipI (-1) vs.length = ((vs.length - 1 : Nat) : Int) := by unfold clipI; omega
  rw [pickL (a := 0) (b := vs.length - 1) (by rw [bd_ns, e])]
  simp

theorem DatAll.takeD {fr : Led} {vs : List Value} {ds : List Dat} (h : DatAll fr vs ds) : ∀ n, DatAll fr (vs.take n) (ds.take n) := by
  induction vs generalizing ds with
  | nil => intro n; cases h; simp; exact .nil
  | cons v vs ih =>
    intro n
    cases h with
    | cons hd tl =>
      cases n with
      | zero => exact .nil
      | succ n => exact .cons hd (ih tl n)

section
variable {prog : Program} {w : World} {A : Around} {E : Value → Shared → Prop} {s : Shared} {h₀ : Heap} {m : Str → Option Value} {mu fr fr₀ : Led} {L : Addr} {env : Env}
theorem W.news (x : W h₀ fr₀ L m mu fr s.heap) : News { objs := #[] } L s.heap fr := fun p hp => ⟨x.frs p hp, x.offL p hp, empty_none _⟩
theorem sliceL_W {value slice : Expr} {g : Heap} {l : Addr} {vs : List Value} {n : Nat} {vl vu : Value} {lo hi : Option Int} {Q : Value → Shared → Prop} (hst : s.heap = g.push { cls := .type "slice", data := .fields #[vl, vu, .none] })
    (hW : W h₀ fr₀ L m mu fr g) (hm : (l, listOf vs.toArray n) ∈ fr) (pl : IsPart vl lo) (pu : IsPart vu hi) (hsz : vs.length ≤ sizeLine)
    (h : ∀ D h', W h₀ fr₀ L m mu ((D, listOf (slicePick vs.toArray lo hi none) 0) :: fr) h' → Q (.ref D) { s with heap := h' })
    (hs : subscripted slice false (.ref l) (.ref g.objs.size) = operate [.ref g.objs.size, .ref l] (getItem (.ref l) (.ref g.objs.size)) := by with_unfolding_all rfl) :
    wpAny (model prog w) A (subscriptTail value slice (.ref l) (.ref g.objs.size)) Q E s := by
  have hl : s.heap.IsList l vs.toArray := by rw [hst]; exact (isList_of hW.frs hm).push _
  refine kba_turn (value' := anyN) (fun _ => rfl) (subscriptTail_ops hl.typeIs list_getitem_lookup
    (wpAny_getItem_list_slice hl (by rw [hst]; exact Heap.IsSliceOf.new ..) pl pu .none (by simp) ?_ (by simpa using hsz)) hs (fun _ => rfl))
  refine h _ _ ?_
  have W1 : W h₀ fr₀ L m mu fr s.heap := by rw [hst]; exact hW.same (Keep.push _ _)
  exact W1.pushF _
theorem keptK (h : Heap) : KeptH (Keep h) := fun g ob k => k.trans (Keep.push g ob)
theorem sliceS_ns {value slice : Expr} {g : Heap} {x : Str} {t uj : Tok} {j : Int} {Q : Value → Shared → Prop} (hst : s.heap = g.push { cls := .type "slice", data := .fields #[.none, .int j uj, .none] }) (hW : W h₀ fr₀ L m mu fr g) (hsz : x.length ≤ sizeLine)
    (h : ∀ h' t' k, W h₀ fr₀ L m mu fr h' → Q (.str (Txt.slice x none (some j)) t') { s with heap := h', toks := k })
    (hs : subscripted slice false (.str x t) (.ref g.objs.size) = operate [.ref g.objs.size, .str x t] (getItem (.str x t) (.ref g.objs.size)) := by with_unfolding_all rfl) :
    wpAny (model prog w) A (subscriptTail value slice (.str x t) (.ref g.objs.size)) Q E s := by
  have e : s = { ({ s with heap := g } : Shared) with heap := g.push { cls := .type "slice", data := .fields #[.none, .int j uj, .none] } } := by rw [← hst]
  rw [e]
  exact kba_turn (value' := anyN) (fun _ => rfl) (tail_of_ItemOn (SBH.sliceItem_ns (s := { s with heap := g }) (keptK g) (Keep.refl g) (fun h' t' k kk => h h' t' k (hW.same kk)) hsz) hs (fun _ => rfl))
theorem sliceS_sn {value slice : Expr} {g : Heap} {x : Str} {t ui : Tok} {i : Int} {Q : Value → Shared → Prop} (hst : s.heap = g.push { cls := .type "slice", data := .fields #[.int i ui, .none, .none] }) (hW : W h₀ fr₀ L m mu fr g) (hsz : x.length ≤ sizeLine)
    (h : ∀ h' t' k, W h₀ fr₀ L m mu fr h' → Q (.str (Txt.slice x (some i) none) t') { s with heap := h', toks := k })
    (hs : subscripted slice false (.str x t) (.ref g.objs.size) = operate [.ref g.objs.size, .str x t] (getItem (.str x t) (.ref g.objs.size)) := by with_unfolding_all rfl) :
    wpAny (model prog w) A (subscriptTail value slice (.str x t) (.ref g.objs.size)) Q E s := by
  have e : s = { ({ s with heap := g } : Shared) with heap := g.push { cls := .type "slice", data := .fields #[.int i ui, .none, .none] } } := by rw [← hst]
  rw [e]
  exact kba_turn (value' := anyN) (fun _ => rfl) (tail_of_ItemOn (SBH.sliceItem_sn (s := { s with heap := g }) (keptK g) (Keep.refl g) (fun h' t' k kk => h h' t' k (hW.same kk)) hsz) hs (fun _ => rfl))
theorem sliceS_ss {value slice : Expr} {g : Heap} {x : Str} {t ui uj : Tok} {i j : Int} {Q : Value → Shared → Prop} (hst : s.heap = g.push { cls := .type "slice", data := .fields #[.int i ui, .int j uj, .none] }) (hW : W h₀ fr₀ L m mu fr g) (hsz : x.length ≤ sizeLine)
    (h : ∀ h' t' k, W h₀ fr₀ L m mu fr h' → Q (.str (Txt.slice x (some i) (some j)) t') { s with heap := h', toks := k })
    (hs : subscripted slice false (.str x t) (.ref g.objs.size) = operate [.ref g.objs.size, .str x t] (getItem (.str x t) (.ref g.objs.size)) := by with_unfolding_all rfl) :
    wpAny (model prog w) A (subscriptTail value slice (.str x t) (.ref g.objs.size)) Q E s := by
  have e : s = { ({ s with heap := g } : Shared) with heap := g.push { cls := .type "slice", data := .fields #[.int i ui, .int j uj, .none] } } := by rw [← hst]
  rw [e]
  exact kba_turn (value' := anyN) (fun _ => rfl) (tail_of_ItemOn (SBH.sliceItem_ss (s := { s with heap := g }) (keptK g) (Keep.refl g) (fun h' t' k kk => h h' t' k (hW.same kk)) hsz) hs (fun _ => rfl))

/-- data whose texts are of signs -/
def okL (l : List Nat) : Prop := ∀ c ∈ l, c < 1114112
theorem okD {l : List Nat} (h : okL l) (n : Nat) : kqdOk n (sd l) = true := by
  cases n <;> (show PyData.strOk (S l) = true; unfold PyData.strOk; unfold okL at h; simpa [S] using h)

theorem eqL_W {a b : Addr} {ds es : List Dat} {Q : Value → Shared → Prop} (hW : W h₀ fr₀ L m mu fr s.heap) (ha : DatIn fr (.ref a) (.list ds)) (hb : DatIn fr (.ref b) (.list es)) (oa : ∀ d ∈ ds, kqdOk 8 d = true) (ob : ∀ d ∈ es, kqdOk 8 d = true) (hu : A.units + 64 < cLine)
    (h : ∀ c : Bool, (c = true ↔ ds = es) → Q (.bool c) s) : wpAny (model prog w) A (compareOp .Eq (.ref a) (.ref b)) Q E s := by
  obtain ⟨_, xs, ka, e1, ma, Da⟩ := datList ha
  obtain ⟨_, ys, kb, e2, mb, Db⟩ := datList hb
  cases e1; cases e2
  exact kqd_eq hW.news ma rfl rfl Da (fun _ q => q) mb rfl rfl Db (fun _ q => q) oa ob hu (h _ (by classical exact decide_eq_true_iff))
theorem neL_W {a b : Addr} {ds es : List Dat} {Q : Value → Shared → Prop} (hW : W h₀ fr₀ L m mu fr s.heap) (ha : DatIn fr (.ref a) (.list ds)) (hb : DatIn fr (.ref b) (.list es)) (oa : ∀ d ∈ ds, kqdOk 8 d = true) (ob : ∀ d ∈ es, kqdOk 8 d = true) (hu : A.units + 64 < cLine)
    (h : ∀ c : Bool, (c = false ↔ ds = es) → Q (.bool c) s) : wpAny (model prog w) A (compareOp .NotEq (.ref a) (.ref b)) Q E s := by
  obtain ⟨_, xs, ka, e1, ma, Da⟩ := datList ha
  obtain ⟨_, ys, kb, e2, mb, Db⟩ := datList hb
  cases e1; cases e2
  exact kqd_ne hW.news ma rfl rfl Da (fun _ q => q) mb rfl rfl Db (fun _ q => q) oa ob hu (h _ (by simp))
theorem slice_ns {upper : Expr} {p : Pos} {M : Model} {Q : Value → Shared → Prop} (h : wpAny M A (eval upper env) (fun u s₂ => Q (.ref s₂.heap.objs.size) { s₂ with heap := s₂.heap.push { cls := .type "slice", data := .fields #[.none, u, .none] } }) E s) :
    wpAny M A (eval (.Slice none (some upper) none p) env) Q E s := wpAny_Slice (evalPart_none_step (evalPart_some_step (wpAny_mono h (fun _ _ q => evalPart_none_step q) fun _ _ q => q)))
theorem slice_sn {lower : Expr} {p : Pos} {M : Model} {Q : Value → Shared → Prop} (h : wpAny M A (eval lower env) (fun u s₂ => Q (.ref s₂.heap.objs.size) { s₂ with heap := s₂.heap.push { cls := .type "slice", data := .fields #[u, .none, .none] } }) E s) :
    wpAny M A (eval (.Slice (some lower) none none p) env) Q E s := wpAny_Slice (evalPart_some_step (wpAny_mono h (fun _ _ q => evalPart_none_step (evalPart_none_step q)) fun _ _ q => q))
theorem slice_ss {lower upper : Expr} {p : Pos} {M : Model} {Q : Value → Shared → Prop} (h : wpAny M A (eval lower env) (fun l s₁ => wpAny M A (eval upper env) (fun u s₂ => Q (.ref s₂.heap.objs.size) { s₂ with heap := s₂.heap.push { cls := .type "slice", data := .fields #[l, u, .none] } }) E s₁) E s) :
    wpAny M A (eval (.Slice (some lower) (some upper) none p) env) Q E s := wpAny_Slice (evalPart_some_step (wpAny_mono h (fun _ _ q => evalPart_some_step (wpAny_mono q (fun _ _ q => evalPart_none_step q) fun _ _ q => q)) fun _ _ q => q))
end

end Mine
namespace Mine
open PySem PySem.W PySem.Spec PySem.Calls PyProof.Rows
local macro_rules | `(tactic| walk_at "lk") => `(tactic| first | with_reducible assumption | with_reducible exact mp_eq _ _ _ | (with_reducible refine mp_ne (by decide) ?_; walk_at "lk") | rfl)
local macro_rules | `(tactic| walk_at "nm") => `(tactic| ((with_reducible show wpAny _ _ (eval (Expr.Name _ _) _) _ _ _); first | refine nmL (by assumption) (by walk_at "lk") ?_ | refine nmG (by assumption) (by assumption) (by rfl) ?_))
local macro_rules | `(tactic| walk_at "m") => `(tactic|
 ((first
  | with_reducible refine wpAny_execs_cons ?_
  | with_reducible refine wpAny_execs_nil ?_
  | with_reducible refine wpAny_Return_some ?_
  | ((with_reducible show wpAny _ _ (exec (Stmt.Assign [Expr.Name _ _] _ _) _) _ _ _); refine wpAny_Assign_Name ?_)
  | with_reducible refine wpAny_AugAssign_Name ?_
  | ((with_reducible show wpAny _ _ (exec (Stmt.Assign [Expr.Subscript _ _ _] _ _) _) _ _ _); refine wpAny_Assign_Subscript ?_)
  | ((with_reducible show wpAny _ _ (exec (Stmt.Assign [Expr.Tuple _ _ _] _ _) _) _ _ _); refine Assign_Tuple ?_)
  | ((with_reducible show wpAny _ _ (assignInOrder (List.map _ (assignEach (Expr.Name _ _ :: _) _)) _) _ _ _); refine asg_cons ?_)
  | with_reducible refine asg_nil ?_
  | with_reducible refine assignInOrder_nil ?_
  | with_reducible refine assignInOrder_cons ?_
  | ((with_reducible show wpAny _ _ (assign (Expr.Name _ _) _ _) _ _ _); refine wpAny_assign_Name ?_)
  | with_reducible refine wpAny_If ?_
  | ((with_reducible show wpAny _ _ (isTrue (Expr.Compare _ [_] [_] _) _ _) _ _ _); refine wpAny_isTrue_Compare1 ?_)
  | ((with_reducible show wpAny _ _ (eval (Expr.Compare _ [_] [_] _) _) _ _ _); refine wpAny_Compare1 ?_)
  | with_reducible refine wpAny_BinOp ?_
  | (with_reducible refine cI ?_; intro _ _)
  | (with_reducible refine cS ?_; intro _ _)
  | with_reducible refine Constant_none ?_
  | with_reducible refine Constant_bool ?_
  | with_reducible refine List_ ?_
  | with_reducible refine Tuple_ ?_
  | with_reducible refine Subscript_ ?_
  | with_reducible refine wpAny_items_nil ?_
  | ((with_reducible show wpAny _ _ (spliced (backTo _ (starEach (_ :: _) _))) _ _ _); refine wpAny_items_cons ?_)
  | with_reducible refine wpAny_truthy_bool ?_
  | (with_reducible refine gt_int ?_)
  | (with_reducible refine PyProof.Rows.add_int ?_)
  | (with_reducible refine eq_int ?_)
  | (with_reducible refine ne_int ?_)
  | (with_reducible refine PyProof.Rows.eq_str ?_)
  | (with_reducible refine PyProof.Rows.ne_str ?_)
  | with_reducible refine wpAny_Continue ?_
  | with_reducible refine ite_tt ?_
  | with_reducible refine ite_ff ?_
  | with_reducible refine IfExp_ ?_
  | with_reducible refine slice_ns ?_
  | with_reducible refine slice_sn ?_
  | with_reducible refine slice_ss ?_
  | with_reducible refine UnaryOp_ ?_
  | with_reducible refine BoolOp_and ?_
  | with_reducible refine BoolOp_or ?_
  | ((with_reducible show wpAny _ _ (eval (Expr.BoolOp _ [_] _) _) _ _ _); refine BoolOp_one ?_)
  | ((with_reducible show wpAny _ _ (unaryOp UnaryOp.USub (Value.int _ _)) _ _ _); refine PyProof.Rows.neg_int ?_)
  | with_reducible refine isTrue_and_nil ?_
  | with_reducible refine isTrue_or_nil ?_
  | with_reducible refine isTrue_and ?_
  | with_reducible refine isTrue_or ?_
  | ((with_reducible show wpAny _ _ (isTrue (Expr.Name _ _) _ _) _ _ _); refine isTrue_plain ?_)
  | ((with_reducible show wpAny _ _ (isTrue (Expr.Call _ _ _ _) _ _) _ _ _); refine isTrue_plain ?_)
  | ((with_reducible show wpAny _ _ (exec (Stmt.Expr (Expr.Call (Expr.Attribute _ _ _) _ [] _) _) _) _ _ _); refine wpAny_Expr (MethodCall_ ?_))
  | ((with_reducible show wpAny _ _ (eval (Expr.Call (Expr.Attribute _ _ _) _ [] _) _) _ _ _); refine MethodCall_ ?_)
  | ((with_reducible show wpAny _ _ (eval (Expr.Call (Expr.Name _ _) _ [] _) _) _ _ _); refine Call_ ?_)
  | walk_at "nm"
  | ((with_reducible show wpAny _ _ (loadName _ _) _ _ _); refine ldL (by assumption) (by walk_at "lk") ?_)
  | ((with_reducible show wpAny _ _ (storeName _ _ _) _ _ _); refine stL (by assumption) ?_; intro h' tk' hW')); try dsimp only))
local macro_rules | `(tactic| walk_at "mem") => `(tactic| first | with_reducible exact List.mem_cons_self | (with_reducible refine List.mem_cons_of_mem _ ?_; walk_at "mem") | with_reducible assumption)
local macro_rules | `(tactic| walk_at "di") => `(tactic| first | exact DatIn.str _ _ | exact DatIn.int _ _ | exact DatIn.none | with_reducible assumption)
local macro_rules | `(tactic| walk_at "da") => `(tactic| first | exact DatAll.nil | exact DatAll.cons (by walk_at "di") (by walk_at "da"))
local macro_rules | `(tactic| walk_at "nl") => `(tactic| refine newListF (by assumption) ?_ (Nat.le_of_ble_eq_true rfl))
local macro_rules | `(tactic| walk_at "ent") => `(tactic| ((case h1 => rfl); (case h2 => rfl); (case h3 => rfl); (case h4 => rfl); (case h5 => rfl); (case h7 => decide); (case h8 => rfl); (case h9 => rfl); (case h10 => rfl)))
local macro_rules | `(tactic| walk_at "lc") => `(tactic| ((case c1 => rfl); (case c2 => decide); (case c3 => rfl); (case c4 => rfl); (case c5 => decide); (case c6 => intro _; rfl)))
local macro_rules | `(tactic| walk_at "la") => `(tactic| ((case c1 => rfl); (case c0 => rfl); (case c2 => decide); (case c3 => rfl); (case c4 => rfl); (case c5 => decide); (case c6 => intro _; rfl); (case c7 => rfl); (case c8 => rfl)))
local macro_rules | `(tactic| walk_at "lk2") => `(tactic| ((case c1 => rfl); (case c0 => rfl); (case c2 => intro _ _; rfl); (case c22 => intro _; rfl); (case c3 => rfl); (case c4 => rfl); (case c5 => decide); (case c6 => intro _; rfl); (case c7 => rfl); (case c8 => rfl)))
section -- F1
def wordsS : List Str := [Str.ofString "", Str.ofString "dev", Str.ofString "alpha", Str.ofString "a", Str.ofString "beta", Str.ofString "b", Str.ofString "c", Str.ofString "RC", Str.ofString "rc", Str.ofString "pl", Str.ofString "p", Str.ofString "x", Str.ofString "Dev"]
def ranksI : List Int := [0, 10, 20, 20, 30, 30, 40, 50, 50, 200, 200, 0, 0]
def numsS : List Str := [Str.ofString "", Str.ofString "0", Str.ofString "00", Str.ofString "1", Str.ofString "01", Str.ofString "2", Str.ofString "9", Str.ofString "10", Str.ofString "010", Str.ofString "11"]
def worthI : List Int := [0, 0, 0, 1, 1, 2, 9, 10, 10, 11]
def thingsD (wd fg : Nat) : List Dat :=
  (if 0 < wd then [.int (ranksI.getD wd 0), .str (wordsS.getD wd Str.empty)] else []) ++ (if 0 < fg then [.int 100, .int (worthI.getD fg 0)] else [])

theorem half_len' : ∀ wd < 13, ∀ fg < 10, (wordsS.getD wd Str.empty).length + (numsS.getD fg Str.empty).length ≤ 16 := by
  decide +kernel
theorem half_len (wd fg : Nat) (hw : wd < 13) (hf : fg < 10) : (wordsS.getD wd Str.empty).length + (numsS.getD fg Str.empty).length ≤ sizeLine :=
  Nat.le_trans (half_len' wd hw fg hf) (by decide)

section
variable {prog : Program} {w : World}
set_option maxHeartbeats 1000000
theorem half_ok {fr : Led} (wd fg : Nat) (t u : Tok) (hw : wd < 13) (hf : fg < 10) :
    Ctr prog w 1 127 [.int wd t, .int fg u] fr (fun fr' v => DatIn fr' v (.tuple [.str (wordsS.getD wd Str.empty ++ numsS.getD fg Str.empty), .list (thingsD wd fg)])) := by
  intro A s Q E hA hB hF hQ
  refine' enter (n := 0) (fr := fr) 62 [(Str.ofString "word", .int wd t), (Str.ofString "figure", .int fg u)] hA hB hF ?h1 ?h2 ?h3 ?h4 ?h5 ?h6 ?h7 ?h8 ?h9 ?h10
  walk_at "ent"
  case h6 =>
    intro L h₁ tk hW hB1 hA1
    repeat walk_at "m"
    walk_at "nl"; intro D1 h1 W1
    repeat walk_at "m"
    walk_at "nl"; intro D2 h2 W2
    repeat walk_at "m"
    walk_at "nl"; intro D3 h3 W3
    repeat walk_at "m"
    walk_at "nl"; intro D4 h4 W4
    repeat walk_at "m"
    walk_at "nl"; intro D5 h5 W5
    repeat walk_at "m"
    refine iteD (fun hw0 => ?_) (fun hw0 => ?_)
    · repeat walk_at "m"
      refine sub_list (W.frs (by assumption)) (by walk_at "mem") (ds := ranksI.map Dat.int) (fr := []) (by walk_at "da") (by omega) (by omega) (getMap (d := 0) (by exact hw)) ?_
      intro v hv
      obtain ⟨t1, rfl⟩ := datInt hv
      repeat walk_at "m"
      refine sub_list (W.frs (by assumption)) (by walk_at "mem") (ds := wordsS.map Dat.str) (fr := []) (by walk_at "da") (by omega) (by omega) (getMap (d := Str.empty) (by exact hw)) ?_
      intro v hv
      obtain ⟨t2, rfl⟩ := datStr hv
      repeat walk_at "m"
      walk_at "nl"; intro D6 h6 W6
      repeat walk_at "m"
      refine add_W (by assumption) (W.frs (by assumption)) (by walk_at "mem") (by walk_at "mem") ?_ (Nat.le_of_ble_eq_true rfl); intro D7 h7 W7
      repeat walk_at "m"
      refine iteD (fun hf0 => ?_) (fun hf0 => ?_)
      · repeat walk_at "m"
        refine sub_list (W.frs (by assumption)) (by walk_at "mem") (ds := worthI.map Dat.int) (fr := []) (by walk_at "da") (by omega) (by omega) (getMap (d := 0) hf) ?_
        intro v hv; obtain ⟨t2, rfl⟩ := datInt hv
        repeat walk_at "m"
        walk_at "nl"; intro D8 h8 W8
        repeat walk_at "m"
        refine add_W (by assumption) (W.frs (by assumption)) (by walk_at "mem") (by walk_at "mem") ?_ (Nat.le_of_ble_eq_true rfl); intro D7 h7 W7
        repeat walk_at "m"
        refine sub_list (W.frs (by assumption)) (by walk_at "mem") (ds := wordsS.map Dat.str) (fr := []) (by walk_at "da") (by omega) (by omega) (getMap (d := Str.empty) hw) ?_
        intro v hv; obtain ⟨t3, rfl⟩ := datStr hv
        repeat walk_at "m"
        refine sub_list (W.frs (by assumption)) (by walk_at "mem") (ds := numsS.map Dat.str) (fr := []) (by walk_at "da") (by omega) (by omega) (getMap (d := Str.empty) hf) ?_
        intro v hv; obtain ⟨t4, rfl⟩ := datStr hv
        repeat walk_at "m"
        refine add_str ?_ (half_len _ _ hw hf)
        intro t5 k5
        repeat walk_at "m"
        refine newTupF (by assumption) ?_ (Nat.le_of_ble_eq_true rfl); intro D9 h9 W9
        refine hQ _ _ _ _ (W.keep (by assumption)) (W.frs (by assumption)) (W.gr (by assumption)) (DatIn.tuple (by walk_at "mem") (DatAll.cons (DatIn.str _ _) (DatAll.cons (DatIn.list (by walk_at "mem") ?_) DatAll.nil)))
        unfold thingsD
        rw [if_pos (by omega), if_pos (by omega)]
        walk_at "da"
      · repeat walk_at "m"
        refine sub_list (W.frs (by assumption)) (by walk_at "mem") (ds := wordsS.map Dat.str) (fr := []) (by walk_at "da") (by omega) (by omega) (getMap (d := Str.empty) hw) ?_
        intro v hv; obtain ⟨t3, rfl⟩ := datStr hv
        repeat walk_at "m"
        refine sub_list (W.frs (by assumption)) (by walk_at "mem") (ds := numsS.map Dat.str) (fr := []) (by walk_at "da") (by omega) (by omega) (getMap (d := Str.empty) hf) ?_
        intro v hv; obtain ⟨t4, rfl⟩ := datStr hv
        repeat walk_at "m"
        refine add_str ?_ (half_len _ _ hw hf)
        intro t5 k5
        repeat walk_at "m"
        refine newTupF (by assumption) ?_ (Nat.le_of_ble_eq_true rfl); intro D9 h9 W9
        refine hQ _ _ _ _ (W.keep (by assumption)) (W.frs (by assumption)) (W.gr (by assumption)) (DatIn.tuple (by walk_at "mem") (DatAll.cons (DatIn.str _ _) (DatAll.cons (DatIn.list (by walk_at "mem") ?_) DatAll.nil)))
        unfold thingsD
        rw [if_pos (by omega), if_neg (by omega)]
        walk_at "da"
    · repeat walk_at "m"
      refine iteD (fun hf0 => ?_) (fun hf0 => ?_)
      · repeat walk_at "m"
        refine sub_list (W.frs (by assumption)) (by walk_at "mem") (ds := worthI.map Dat.int) (fr := []) (by walk_at "da") (by omega) (by omega) (getMap (d := 0) hf) ?_
        intro v hv; obtain ⟨t2, rfl⟩ := datInt hv
        repeat walk_at "m"
        walk_at "nl"; intro D8 h8 W8
        repeat walk_at "m"
        refine add_W (by assumption) (W.frs (by assumption)) (by walk_at "mem") (by walk_at "mem") ?_ (Nat.le_of_ble_eq_true rfl); intro D7 h7 W7
        repeat walk_at "m"
        refine sub_list (W.frs (by assumption)) (by walk_at "mem") (ds := wordsS.map Dat.str) (fr := []) (by walk_at "da") (by omega) (by omega) (getMap (d := Str.empty) hw) ?_
        intro v hv; obtain ⟨t3, rfl⟩ := datStr hv
        repeat walk_at "m"
        refine sub_list (W.frs (by assumption)) (by walk_at "mem") (ds := numsS.map Dat.str) (fr := []) (by walk_at "da") (by omega) (by omega) (getMap (d := Str.empty) hf) ?_
        intro v hv; obtain ⟨t4, rfl⟩ := datStr hv
        repeat walk_at "m"
        refine add_str ?_ (half_len _ _ hw hf)
        intro t5 k5
        repeat walk_at "m"
        refine newTupF (by assumption) ?_ (Nat.le_of_ble_eq_true rfl); intro D9 h9 W9
        refine hQ _ _ _ _ (W.keep (by assumption)) (W.frs (by assumption)) (W.gr (by assumption)) (DatIn.tuple (by walk_at "mem") (DatAll.cons (DatIn.str _ _) (DatAll.cons (DatIn.list (by walk_at "mem") ?_) DatAll.nil)))
        unfold thingsD
        rw [if_neg (by omega), if_pos (by omega)]
        walk_at "da"
      · repeat walk_at "m"
        refine sub_list (W.frs (by assumption)) (by walk_at "mem") (ds := wordsS.map Dat.str) (fr := []) (by walk_at "da") (by omega) (by omega) (getMap (d := Str.empty) hw) ?_
        intro v hv; obtain ⟨t3, rfl⟩ := datStr hv
        repeat walk_at "m"
        refine sub_list (W.frs (by assumption)) (by walk_at "mem") (ds := numsS.map Dat.str) (fr := []) (by walk_at "da") (by omega) (by omega) (getMap (d := Str.empty) hf) ?_
        intro v hv; obtain ⟨t4, rfl⟩ := datStr hv
        repeat walk_at "m"
        refine add_str ?_ (half_len _ _ hw hf)
        intro t5 k5
        repeat walk_at "m"
        refine newTupF (by assumption) ?_ (Nat.le_of_ble_eq_true rfl); intro D9 h9 W9
        refine hQ _ _ _ _ (W.keep (by assumption)) (W.frs (by assumption)) (W.gr (by assumption)) (DatIn.tuple (by walk_at "mem") (DatAll.cons (DatIn.str _ _) (DatAll.cons (DatIn.list (by walk_at "mem") ?_) DatAll.nil)))
        unfold thingsD
        rw [if_neg (by omega), if_neg (by omega)]
        walk_at "da"
end
end
section -- C2
section
variable {h₀ h h₁ : Heap} {L L' : Addr} {m m' : Str → Option Value} {mu fr fr₀ : Led} {o : Obj}
theorem W.obj (x : W h₀ fr₀ L m mu fr h) : ∃ o, h.get? L = some o ∧ (∃ es ep, o.data = .dict es ep) ∧ ∀ (h' : Heap) sl, h'.get? L = some { o with slots := sl } → h'.Ns L m := by
  obtain ⟨o, es, ep, ho, hd, r⟩ := x.ns
  exact ⟨o, ho, ⟨es, ep, hd⟩, fun h' sl e => ⟨_, es, ep, e, hd, r⟩⟩
/-- a frame below another's -/
theorem W.under (x : W h₀ fr₀ L m mu fr h) (ho : h.get? L = some o) (k : Keep h h₁) (hn : h₁.Ns L' m') (hL' : h.get? L' = none) : W h₀ fr₀ L' m' ((L, o) :: mu) fr h₁ where
  ns := hn
  keep := x.keep.trans k
  mus := fun p hp => by
    rcases List.mem_cons.mp hp with rfl | hp
    · exact k _ _ ho
    · exact k _ _ (x.mus p hp)
  frs := x.frs.keep k
  gr := x.gr
  newL := x.keep.none hL'
  newM := fun p hp => by
    rcases List.mem_cons.mp hp with rfl | hp
    · exact x.newL
    · exact x.newM p hp
  ndL := fun p hp e => by
    rcases List.mem_cons.mp hp with rfl | hp
    · rw [← e, ho] at hL'; cases hL'
    · have := x.mus p hp
      rw [e, hL'] at this; cases this
  nd := List.nodup_cons.mpr ⟨fun hm => by
    obtain ⟨p, hp, e⟩ := List.mem_map.mp hm
    exact x.ndL p hp e, x.nd⟩
  offL := fun p hp e => by
    have := x.frs p hp
    rw [e, hL'] at this; cases this
  off := fun p hp q hq => by
    rcases List.mem_cons.mp hq with rfl | hq
    · exact x.offL p hp
    · exact x.off p hp q hq
theorem W.back (x : W h₀ fr₀ L' m' ((L, o) :: mu) fr h) (hn : h.Ns L m) : W h₀ fr₀ L m mu fr h where
  ns := hn
  keep := x.keep
  mus := fun p hp => x.mus p (.tail _ hp)
  frs := x.frs
  gr := x.gr
  newL := x.newM _ (.head _)
  newM := fun p hp => x.newM p (.tail _ hp)
  ndL := fun p hp e => (List.nodup_cons.mp x.nd).1 (List.mem_map.mpr ⟨p, hp, e⟩)
  nd := (List.nodup_cons.mp x.nd).2
  offL := fun p hp => x.off p hp _ (.head _)
  off := fun p hp q hq => x.off p hp q (.tail _ hq)
end

section
variable {prog : Program} {w : World} {A : Around} {E : Value → Shared → Prop} {s : Shared}
theorem enterOn {f : Addr} {vals : List Value} {Q : Value → Shared → Prop} {name qual : Str} {params : Arguments} {body : List Stmt} {scope : Scope} {dV kV doc pm ct oc cc : Value} {an od cd' : Option Addr} {osl csl : Array (Option Value)}
    {n c : Nat} {cvs : Array Value} {ctk : Tok} {h₀ : Heap} {L₁ : Addr} {m₁ : Str → Option Value} {mu fr fr₀ : Led} {o₁ : Obj} (i : Nat) (bs : Bd)
    (hA : AOk A (n + 1)) (hB : Bs w h₀) (hW : W h₀ fr₀ L₁ m₁ mu fr s.heap) (ho₁ : s.heap.get? L₁ = some o₁)
    (ho : (KF w)[i + 1]? = some (f, ⟨oc, od, .func (fnOf name qual params body scope dV kV doc pm an (.ref c) ct), osl⟩)) (hcd : (KF w)[i]? = some (c, ⟨cc, cd', .fields cvs, csl⟩)) (hcq : cvs[1]? = some (.str qual ctk))
    (hbind : bindArgs (fnOf name qual params body scope dV kV doc pm an (.ref c) ct) ⟨vals, []⟩ = pure bs)
    (hloc : (bs.all fun x => decide (scope.names.lookup x.1 = some .local)) = true)
    (h : ∀ L h₁ tk, W h₀ fr₀ L (mp bs.reverse) ((L₁, o₁) :: mu) fr h₁ → AOk (A.deeper (envX qual scope L f (.ref c) [])) n →
      wpOn (model prog w) (A.deeper (envX qual scope L f (.ref c) [])) (execs body (envX qual scope L f (.ref c) []))
        (fun fl s' => Q (match fl with | .ret v => v | _ => .none) s') (fun _ _ => False) { s with heap := h₁, toks := tk })
    (hcell : ∀ x ∈ scope.names, x.2 ≠ .cell) (hco : scope.isCoroutine = false := by rfl) (hgen : scope.isGenerator = false := by rfl) (hk : scope.kind = .function := by rfl) :
    wpOn (model prog w) A (call (.ref f) vals) Q E s := by
  have B := hB.keep hW.keep
  refine wpOn_call (codeOn_function (fd := fnOf name qual params body scope dV kV doc pm an (.ref c) ct) (body := body) (by have := hA.dep; omega) (B.at ho) rfl hco hgen rfl ⟨_, _, _, _, rfl, B.at hcd, rfl, hcq⟩ ((BindsTo.of_eq hbind) _ _ _ _ ?_))
  refine wpAny_newFunctionEnv hcell (locs hloc) (fun h₁ hns hsb => ?_) hk
  have k : Keep s.heap h₁ := fun b o e => hsb.extBut b o (Nat.ne_of_lt (Heap.lt_size e)) (Heap.get?_push_of_some _ e)
  refine ⟨B.nolimit.fresh _ hsb, codeOn_func ?_⟩
  exact h s.heap.objs.size h₁ _ (hW.under ho₁ k hns (size_none _)) hA.deeper
end
end
section -- C3
section
variable {prog : Program} {w : World} {A : Around}
/-- a for over what can be walked -/
theorem loopOn {x : Str} {px : Pos} {body : List Stmt} {env : Env} {R : Result → Shared → Prop} {s : Shared} {I : Addr} {fpx : List Addr} {n : Nat} {P : Nat → Value → Prop} {St : Nat → Heap → Prop}
    {h₀ : Heap} {bs : Bd} {mu fr fr₀ : Led} {oI : Obj} (Wk : Walks prog w A I (I :: fpx) [I] n P St) (hob : ∀ i g, St i g → ∃ o, g.get? I = some o)
    (hx : env.kindOf x = some .local) (hp : (env.scope.kind == .class || (env.scope.kind == .module && env.locals != env.globals)) = false)
    (hst : St 0 s.heap) (hW : W h₀ fr₀ env.locals (mp bs) ((I, oI) :: mu) fr s.heap) (hfp : ∀ b ∈ fpx, (∃ o, (b, o) ∈ fr) ∨ ∃ o, h₀.get? b = some o)
    (J : Nat → Bd → Led → Led → Prop) (hJ : J 0 bs mu fr)
    (turn : ∀ i v bs₁ mu₁ fr₁ oI₁ h tk, i < n → P i v → J i bs₁ mu₁ fr₁ → (∀ p ∈ fr, p ∈ fr₁) → W h₀ fr₀ env.locals (mp (setL bs₁ x v)) ((I, oI₁) :: mu₁) fr₁ h →
      wpOn (model prog w) A (execs body env) (fun f s' => match f with
        | .next | .cont => ∃ bs' mu' fr' h' tk', s' = { s with heap := h', toks := tk' } ∧ (∀ p ∈ fr₁, p ∈ fr') ∧ W h₀ fr₀ env.locals (mp bs') ((I, oI₁) :: mu') fr' h' ∧ J (i + 1) bs' mu' fr'
        | .brk => R (.ok .next) s'
        | .ret v => R (.ok (.ret v)) s') (notedBy (model prog w) A env fun e s' => R (.error e) s') { s with heap := h, toks := tk })
    (done : ∀ bs₁ mu₁ fr₁ h tk, J n bs₁ mu₁ fr₁ → (∀ p ∈ fr, p ∈ fr₁) → W h₀ fr₀ env.locals (mp bs₁) mu₁ fr₁ h → R (.ok .next) { s with heap := h, toks := tk }) :
    codeOn (model prog w) A (.forLoop (.Name x px) (.ref I) body [] env) R s := by
  refine codeOn_forLoop (fun k s' => ∃ i h tk bs₁ mu₁ fr₁ oI₁, s' = { s with heap := h, toks := tk } ∧ k = n - i ∧ i ≤ n ∧ St i h ∧ W h₀ fr₀ env.locals (mp bs₁) ((I, oI₁) :: mu₁) fr₁ h ∧ (∀ p ∈ fr, p ∈ fr₁) ∧ J i bs₁ mu₁ fr₁) ?_ n
    ⟨0, s.heap, s.toks, bs, mu, fr, oI, rfl, rfl, Nat.zero_le _, hst, hW, fun _ hp => hp, hJ⟩
  rintro k s' ⟨i, h, tk, bs₁, mu₁, fr₁, oI₁, rfl, rfl, hi, st, hW₁, hsub, hJ₁⟩
  have keepFp : ∀ {g g' : Heap} {m : Str → Option Value} {mu' fr' : Led} {o o' : Obj}, W h₀ fr₀ env.locals m ((I, o) :: mu') fr' g' → g.get? I = some o → (∀ p ∈ fr₁, p ∈ fr') → Keep h₀ g → LedIn g fr₁ → ∀ b ∈ I :: fpx, ∀ q, g.get? b = some q → g'.get? b = some q := by
    intro g g' m mu' fr' o o' w' hg hs' k₀ l₁ b hb q hq
    rcases List.mem_cons.mp hb with rfl | hb
    · rw [hg] at hq; cases hq; exact w'.mus _ (.head _)
    · rcases hfp b hb with ⟨o₂, h₂⟩ | ⟨o₂, h₂⟩
      · have e1 := l₁ _ (hsub _ h₂)
        rw [show (b, o₂).1 = b from rfl, hq] at e1
        cases e1
        exact w'.frs _ (hs' _ (hsub _ h₂))
      · have e1 := k₀ _ _ h₂
        rw [hq] at e1
        cases e1
        exact w'.keep _ _ h₂
  by_cases hlt : i < n
  · refine Wk.item i _ _ _ hlt st fun v h₁ tk₁ hPv st₁ hk₁ => ?_
    obtain ⟨o₁, ho₁⟩ := hob _ _ st₁
    have W₂ : W h₀ fr₀ env.locals (mp bs₁) ((I, o₁) :: mu₁) fr₁ h₁ := hW₁.turn ho₁ fun b o hb e => hk₁ b o (by simpa using hb) e
    refine wpAny_assign_Name (wpAny_storeName_local hx W₂.ns (fun h₂ hn₂ hs₂ => ?_) hp)
    have W₃ : W h₀ fr₀ env.locals (mp (setL bs₁ x v)) ((I, o₁) :: mu₁) fr₁ h₂ := W₂.store (by rw [← mp_setL]; exact hn₂) hs₂
    have st₃ : St (i + 1) h₂ := Wk.frame _ _ _ st₁ (keepFp (o' := o₁) W₃ ho₁ (fun _ q => q) W₂.keep W₂.frs)
    refine wpOn_mono (turn i v bs₁ mu₁ fr₁ o₁ h₂ _ hlt hPv hJ₁ hsub W₃) (fun f s₃ hf => ?_) fun _ _ e => e
    have fin : (∃ bs' mu' fr' h' tk', s₃ = { s with heap := h', toks := tk' } ∧ (∀ p ∈ fr₁, p ∈ fr') ∧ W h₀ fr₀ env.locals (mp bs') ((I, o₁) :: mu') fr' h' ∧ J (i + 1) bs' mu' fr') →
        ∃ m, m < n - i ∧ ∃ i h tk bs₁ mu₁ fr₁ oI₁, s₃ = { s with heap := h, toks := tk } ∧ m = n - i ∧ i ≤ n ∧ St i h ∧ W h₀ fr₀ env.locals (mp bs₁) ((I, oI₁) :: mu₁) fr₁ h ∧ (∀ p ∈ fr, p ∈ fr₁) ∧ J i bs₁ mu₁ fr₁ := by
      rintro ⟨bs', mu', fr', h', tk', rfl, hs', w', j'⟩
      refine ⟨n - (i + 1), by omega, i + 1, h', tk', bs', mu', fr', o₁, rfl, rfl, hlt, ?_, w', fun p hp => hs' p (hsub p hp), j'⟩
      exact Wk.frame _ _ _ st₃ (keepFp (o' := o₁) w' (W₃.mus _ (.head _)) hs' W₃.keep W₃.frs)
    cases f with
    | next => exact fin hf
    | cont => exact fin hf
    | brk => exact hf
    | ret v => exact hf
  · obtain rfl : i = n := by omega
    refine Wk.done _ _ _ st fun h' tk' hk' => ?_
    refine wpAny_execs_nil ?_
    exact done bs₁ mu₁ fr₁ h' tk' hJ₁ hsub (hW₁.gone fun b o hb e => hk' b o (by simpa using hb) e)

/-- the whole for: behind the evaluation of what is walked -/
theorem forOn {L : Addr} {x : Str} {px : Pos} {body : List Stmt} {env : Env} {s : Shared} {Q : Flow → Shared → Prop} {E : Value → Shared → Prop} {xv : Value} {fpx : List Addr} {n : Nat} {P : Nat → Value → Prop}
    {h₀ : Heap} {bs : Bd} {mu fr fr₀ : Led} (It : ItV prog w A s.heap xv fpx n P)
    (hW : W h₀ fr₀ L (mp bs) mu fr s.heap) (hfp : ∀ b ∈ fpx, (∃ o, (b, o) ∈ fr) ∨ ∃ o, h₀.get? b = some o)
    (J : Nat → Bd → Led → Led → Prop) (hJ : J 0 bs mu fr)
    (turn : ∀ i v bs₁ mu₁ fr₁ I oI h tk, i < n → P i v → J i bs₁ mu₁ fr₁ → (∀ p ∈ fr, p ∈ fr₁) → W h₀ fr₀ L (mp (setL bs₁ x v)) ((I, oI) :: mu₁) fr₁ h →
      wpOn (model prog w) A (execs body env) (fun f s' => match f with
        | .next | .cont => ∃ bs' mu' fr' h' tk', s' = { s with heap := h', toks := tk' } ∧ (∀ p ∈ fr₁, p ∈ fr') ∧ W h₀ fr₀ L (mp bs') ((I, oI) :: mu') fr' h' ∧ J (i + 1) bs' mu' fr'
        | .brk => Q .next s'
        | .ret v => Q (.ret v) s') (notedBy (model prog w) A env fun e s' => cameBackBy (model prog w) A env E e s') { s with heap := h, toks := tk })
    (done : ∀ bs₁ mu₁ fr₁ h tk, J n bs₁ mu₁ fr₁ → (∀ p ∈ fr, p ∈ fr₁) → W h₀ fr₀ L (mp bs₁) mu₁ fr₁ h → Q .next { s with heap := h, toks := tk })
    (hL : env.locals = L := by rfl) (hx : env.kindOf x = some .local := by rfl) (hp : (env.scope.kind == .class || (env.scope.kind == .module && env.locals != env.globals)) = false := by rfl) :
    wpAny (model prog w) A (pyIter xv) (fun it s₂ => codeOn (model prog w) A (.forLoop (.Name x px) it body [] env) (fun r s' => match r with | .ok f => Q f s' | .error e => cameBackBy (model prog w) A env E e s') s₂) E s := by
  subst hL
  refine It s _ _ rfl fun oI St hf Wk hob hst => ?_
  refine loopOn (h₀ := h₀) (bs := bs) (mu := mu) (fr := fr) (oI := oI) Wk hob hx hp hst (hW.pushM oI hf) hfp J hJ (fun i v bs₁ mu₁ fr₁ oI₁ h tk h1 h2 h3 h4 h5 => ?_) (fun bs₁ mu₁ fr₁ h tk h1 h2 h3 => ?_)
  · refine wpOn_mono (turn i v bs₁ mu₁ fr₁ _ oI₁ h tk h1 h2 h3 h4 h5) (fun f s' x => ?_) fun _ _ e => e
    cases f with
    | next => exact x
    | cont => exact x
    | brk => exact x
    | ret v => exact x
  · exact done bs₁ mu₁ fr₁ h tk h1 h2 h3

end
end
section -- C4
theorem pat_plain : PlainAttrs "re.Pattern" :=
  ⟨⟨"object.__getattribute__", by rw [typeLookup_type, builtinLookup_eq_fast]; kernel_rfl, by decide +kernel⟩, by rw [typeLookup_type, builtinLookup_eq_fast]; kernel_rfl⟩
theorem pat_slot : Slot "re.Pattern" "split" "re.Pattern.split" :=
  .of (owner := "re.Pattern") (n := "split") (by rw [typeLookup_type, builtinLookup_eq_fast]; kernel_rfl) (by decide +kernel) (by decide +kernel) (by decide +kernel) (.inr (by decide +kernel)) (by rw [isSubtype_type]; kernel_rfl)
theorem pat_type : typeOf (.builtin "re.Pattern.split") = pure (.type "method_descriptor") := by kernel_rfl
theorem pat_entry : entryFor table "re.Pattern.split" = some Builtin.«re.Pattern.split» := entryFor_of_tree (by kernel_rfl)
theorem pat_args (a b : Value) : argsOk "re.Pattern.split" ⟨[a, b], []⟩ := by kernel_rfl
theorem S_toList (x : Str) : S x.cps.toList = x := by cases x; simp [S]

section
variable {M : Model} {A : Around} {E : Value → Shared → Prop} {s : Shared}
theorem wpOn_callWith {P : Heap → Prop} {f : Value} {first : List Value} {pos : Pos} {args : List (Bool × Sem Value)} {Q : Value → Shared → Prop} (hplain : args.any (·.1) = false)
    (hk : ∀ h, P h → ∃ k, (k = Keeper.frame ∨ k = Keeper.machine) ∧ Looks M h (keeperOf f) k)
    (h : wpAny M A (evalArgs f true args []) (fun a s₁ => P s₁.heap ∧ wpOn M A (call f (first ++ a.pos) a.kw) Q E s₁) E s) : wpOn M A (callWith pos f first args []) Q E s := by
  unfold callWith
  refine wpOn_bind (wpOn_holding (on (wpAny_mono h (fun a s₁ h₁ => wpOn_bind (on (wpAny_standAt ?_))) fun _ _ x => x)))
  obtain ⟨k, hk', Lk⟩ := hk _ h₁.1
  simp only [hplain, List.any_nil, Bool.or_false]
  refine wpOn_bind (on (Lk.here ?_))
  have tail : ∀ {t : Sem Value}, wpOn M A t Q E s₁ → wpOn M A (t >>= fun r => holding [r] point >>= fun _ => pure r) Q E s₁ :=
    fun ht => wpOn_bind (wpOn_mono ht (fun r s₂ hr => wpOn_bind (wpOn_holding (on (wpAny_point (wpOn_pure hr))))) fun _ _ x => x)
  have marked (mk : Value) : wpOn M A (callMarked mk f (first ++ a.pos) a.kw) Q E s₁ := by
    unfold callMarked
    exact fun Γ p hΓ hC => by rw [Sem.wp_keep]; exact h₁.2 Γ p hΓ hC
  rcases hk' with rfl | rfl <;> dsimp only <;> first | exact tail h₁.2 | (split <;> first | exact tail h₁.2 | exact tail (marked _))
end

/-- what a piece of a version gives -/
def PieceOK (x : List Nat) (its : List Dat) : Prop :=
  (Txt.contains (Str.ofString "._+-") (S x) = true ∧ its = []) ∨
  (Txt.contains (Str.ofString "._+-") (S x) = false ∧ ∃ wd, 0 < wd ∧ wd < 13 ∧ S x = wordsS.getD wd Str.empty ∧ its = [.int (ranksI.getD wd 0), .str (S x)]) ∨
  (Txt.contains (Str.ofString "._+-") (S x) = false ∧ ∃ n, (S x).length ≤ 640 ∧ PySem.intText? (S x) = some n ∧ its = [.int 100, .int n])
end
section -- C45
section
variable {h₀ h h' : Heap} {L Ll : Addr} {m : Str → Option Value} {mu fr fr₀ : Led} {oL oL' : Obj}
/-- the frame's own object and one more thing turned, all else stands -/
theorem W.shift (x : W h₀ fr₀ L m ((Ll, oL) :: mu) fr h) (hn : h'.Ns L m) (hL : h'.get? Ll = some oL') (hk : ∀ b o, b ≠ L → b ≠ Ll → h.get? b = some o → h'.get? b = some o) : W h₀ fr₀ L m ((Ll, oL') :: mu) fr h' where
  ns := hn
  keep := fun b o e => hk b o (fun q => by rw [q, x.newL] at e; cases e) (fun q => by have := x.newM _ (.head _); rw [q] at e; rw [this] at e; cases e) (x.keep b o e)
  mus := fun p hp => by
    rcases List.mem_cons.mp hp with rfl | hq
    · exact hL
    · exact hk _ _ (x.ndL p (.tail _ hq)) (fun e => (List.nodup_cons.mp x.nd).1 (List.mem_map.mpr ⟨p, hq, e⟩)) (x.mus p (.tail _ hq))
  frs := fun p hp => hk _ _ (x.offL p hp) (x.off p hp _ (.head _)) (x.frs p hp)
  gr := x.gr
  newL := x.newL
  newM := fun p hp => by
    rcases List.mem_cons.mp hp with rfl | hq
    · exact x.newM (Ll, oL) (.head _)
    · exact x.newM p (.tail _ hq)
  ndL := fun p hp => by
    rcases List.mem_cons.mp hp with rfl | hq
    · exact x.ndL (Ll, oL) (.head _)
    · exact x.ndL p (.tail _ hq)
  nd := x.nd
  offL := x.offL
  off := fun p hp r hr => by
    rcases List.mem_cons.mp hr with rfl | hq
    · exact x.off p hp (Ll, oL) (.head _)
    · exact x.off p hp r (.tail _ hq)
end

theorem bad_words : ∀ wd < 13, 0 < wd → bad (wordsS.getD wd Str.empty) = true := by decide +kernel
section
variable {prog : Program} {w : World} {A : Around} {E : Value → Shared → Prop} {s : Shared} {env : Env}
theorem wpOn_callT {T : String} {e : Expr} {rest : List Expr} {pos : Pos} {Q : Value → Shared → Prop}
    (h : wpAny (model prog w) A (spliced (backTo pos (starEach (e :: rest) env))) (fun vs s₁ => wpOn (model prog w) A (call (.type T) vs) Q E s₁) E s)
    (he : starEach (e :: rest) env = (false, eval e env) :: starEach rest env := by rfl) (hplain : (backTo pos (starEach rest env)).any (·.1) = false := by rfl) :
    wpOn (model prog w) A (callWith pos (.type T) [] (backTo pos (starEach (e :: rest) env)) []) Q E s := by
  rw [he] at h ⊢
  refine wpOn_callWith (P := fun _ => True) (by show (false || (backTo pos (starEach rest env)).any (·.1)) = false; rw [hplain]; rfl) (fun h _ => ⟨.machine, .inr rfl, ?_⟩) (evalArgs_plain (wpAny_mono h (fun vs s₁ q => ⟨trivial, q⟩) fun _ _ q => q))
  exact .now

/-- the stages' table -/
theorem ver_map {h : Heap} (hB : Bs w h) : ∃ f, h.MapOf (strKind prog w) 44 f ∧ ∀ wd < 13, 0 < wd → ∀ t0, ∃ t, (f (wordsS.getD wd Str.empty)).getD (.int 0 t0) = .int (ranksI.getD wd 0) t := by
  have ho := hB.at (i := 9) (a := 44) rfl
  refine ⟨_, ⟨_, _, _, ho, ⟨rfl, rfl, rfl⟩, rfl, ?_, fun _ => rfl⟩, ?_⟩
  · intro e he
    simp only [List.mem_toArray, List.mem_cons, List.not_mem_nil, or_false] at he
    rcases he with rfl | rfl | rfl | rfl | rfl | rfl | rfl | rfl | rfl | rfl
    all_goals exact ⟨_, beq_self_eq_true _, rfl⟩
  · intro wd h1 h2 t0
    have : wd = 1 ∨ wd = 2 ∨ wd = 3 ∨ wd = 4 ∨ wd = 5 ∨ wd = 6 ∨ wd = 7 ∨ wd = 8 ∨ wd = 9 ∨ wd = 10 ∨ wd = 11 ∨ wd = 12 := by omega
    rcases this with rfl | rfl | rfl | rfl | rfl | rfl | rfl | rfl | rfl | rfl | rfl | rfl
    all_goals exact ⟨_, rfl⟩

theorem extend_tup {D b : Addr} {xs ys : List Value} {n k : Nat} {h₀ : Heap} {fr₀ mu fr : Led} {L : Addr} {m : Str → Option Value} {Q : Value → Shared → Prop} (hW : W h₀ fr₀ L m ((D, listOf xs.toArray n) :: mu) fr s.heap) (hb : (b, tupO ys k) ∈ fr) (hsz : xs.length + ys.length ≤ sizeLine)
    (h : ∀ c h', W h₀ fr₀ L m ((D, listOf (xs ++ ys).toArray c) :: mu) fr h' → Q .none { s with heap := h' }) : wpAny (model prog w) A (call (.builtin "list.extend") [.ref D, .ref b]) Q E s := by
  have hD := hW.mus _ (.head _)
  have hd := extend_door (a := xs.toArray) (b := ys.toArray) (by simpa using hsz)
  have hu : Heap.SameBut D s.heap (s.heap.update D (Obj.mapSeq fun x => x ++ ys.toArray)) := Heap.SameBut.update ..
  refine call_meets PySem.F.slot_list_extend ⟨_, hD, rfl⟩ PySem.F.entry_list_extend (PySem.F.args_list_extend_2 _ _) (PySem.AutoSeq1.list_extend_list_tuple_0 D xs.toArray n b ys.toArray k hd (by simp; omega) (by simp; omega)) ⟨hD, hW.frs _ hb, ?_⟩
  have q := PySem.IsL.update hD fun x => x ++ ys.toArray
  rw [List.append_toArray] at q
  exact (show Q .none _ from h _ _ (hW.turn q hu.extBut))
end
end
section -- C5
theorem take_flat {α : Type} (l : List (List α)) (i : Nat) (h : i < l.length) : (l.take (i + 1)).flatten = (l.take i).flatten ++ l[i] := by
  have e : l.take (i + 1) = l.take i ++ [l[i]] := by
    rw [List.take_add_one, List.getElem?_eq_getElem h]; rfl
  rw [e, List.flatten_append]
  simp

section
variable {prog : Program} {w : World} {A : Around} {E : Value → Shared → Prop} {s : Shared}
set_option maxHeartbeats 1000000
theorem cv_gen {h₀ : Heap} {L₁ Ll : Addr} {m₁ : Str → Option Value} {mu fr fr₀ : Led} {oL : Obj} {lenv : Env} {t : Tok} {l : List Nat} {ps : List (List Nat)} {itss : List (List Dat)} {Q : Value → Shared → Prop}
    (hA : AOk A 1) (hfr : A.frames = some [lenv]) (hk1 : lenv.scope.kind ≠ .module) (hk2 : lenv.frame = some Ll) (hod : ∃ es ep, oL.data = .dict es ep)
    (hB : Bs w h₀) (hW : W h₀ fr₀ L₁ m₁ ((Ll, oL) :: mu) fr s.heap) (hl : l.length ≤ sizeLine) (hpl : ps.length ≤ sizeLine) (hsp : Sp l ps) (hlen : itss.length = ps.length) (hfl : itss.flatten.length + 2 ≤ sizeLine) (hps : ∀ (i : Nat) x its, ps[i]? = some x → itss[i]? = some its → PieceOK x its)
    (hQ : ∀ v h' tk fr' sl, W h₀ fr₀ L₁ m₁ ((Ll, { oL with slots := sl }) :: mu) fr' h' → (∀ p ∈ fr, p ∈ fr') → DatIn fr' v (.list itss.flatten) → Q v { s with heap := h', toks := tk }) :
    wpOn (model prog w) A (call (.ref 51) [.str (S l) t]) Q E s := by
  obtain ⟨o₁, ho₁, _, hback⟩ := hW.obj
  refine' enterOn (n := 0) 13 [(Str.ofString "version", .str (S l) t)] hA hB hW ho₁ ?h1 ?h2 ?h3 ?h4 ?h5 ?h6 ?h7 ?h8 ?h9 ?h10
  walk_at "ent"
  case h6 =>
    intro L h₁ tk W1 hA1
    refine wpOn_execs (on ?_)
    repeat walk_at "m"
    refine wpOn_execs (on ?_)
    repeat walk_at "m"
    refine newListM (by assumption) ?_ (Nat.le_of_ble_eq_true rfl); intro R h2 W2
    repeat walk_at "m"
    refine wpOn_execs (wpOn_For ?_)
    try refine MethodCall_ ?_
    repeat walk_at "m"
    have hK := hB.keep (W.keep (by assumption : W h₀ fr₀ L _ _ fr _))
    have hP := hK.at (i := 8) (a := 43) rfl
    have hC := hK.at (i := 7) (a := 42) rfl
    refine getMethod_builtin ⟨_, hP, rfl⟩ pat_plain pat_slot pat_type (fun a e => by cases e; exact ⟨_, hP, rfl⟩) ?_
    dsimp only
    refine callWith_method1 ?_
    repeat walk_at "m"
    refine wpAny_call_entry pat_slot ⟨_, hP, rfl⟩ pat_entry (split_ok hP rfl rfl rfl rfl hC rfl ?_ hl hpl hsp ?_) (pat_args _ _)
    · decide +kernel
    intro vs tk3 hvs
    clear hK
    refine ⟨_, rfl, ?_⟩
    rename W h₀ fr₀ L _ ((R, _) :: _) fr _ => W3
    have W4 := W3.pushF (listOf vs.toArray 0)
    have hvl : vs.length = ps.length := by have := hvs.length; simpa using this
    refine forOn (itv_list hA1.hh ⟨_, Heap.get?_push_size _ rfl, rfl, _, rfl⟩) W4 (fun b hb => .inl ⟨listOf vs.toArray 0, by rw [List.mem_singleton.mp hb]; exact List.mem_cons_self⟩)
      (fun i bs mu' fr' => ∃ vs' c sl, mu' = (R, listOf (List.toArray vs') c) :: (L₁, o₁) :: (Ll, { oL with slots := sl }) :: mu ∧ DatAll [] vs' (itss.take i).flatten ∧ mp bs (Str.ofString "result") = some (.ref R))
      ⟨[], 0, oL.slots, rfl, DatAll.nil, mp_eq _ _ _⟩ ?_ ?_
    · rintro i v bs₁ mu₁ fr₁ I oI h tk4 hi hv ⟨vs', c, sl, rfl, hd, hres⟩ hsub W5
      refine wpOn_mono (E := fun _ _ => False) ?_ (fun _ _ q => q) (fun _ _ q => q.elim)
      rw [List.size_toArray, hvl] at hi
      obtain ⟨v', hv1, hv2⟩ := hvs.get (k := i) (by simpa using hi)
      have ev : v = v' := by
        have := hv
        simp only [List.getElem?_toArray] at this
        rw [hv1] at this
        exact (Option.some.inj this).symm
      subst ev
      simp only [List.getElem_map] at hv2
      obtain ⟨tv, rfl⟩ := datStr hv2
      have hpc := hps i ps[i] (itss[i]'(by omega)) (List.getElem?_eq_getElem hi) (List.getElem?_eq_getElem (by omega))
      have htake : (itss.take (i + 1)).flatten = (itss.take i).flatten ++ itss[i]'(by omega) := take_flat _ _ _
      refine wpOn_execs (wpOn_If ?_)
      repeat walk_at "m"
      refine SB.notContains ?_
      repeat walk_at "m"
      refine iteB (fun hc => ?_) (fun hc => ?_)
      · have hcase : (∃ wd, 0 < wd ∧ wd < 13 ∧ S ps[i] = wordsS.getD wd Str.empty ∧ itss[i]'(by omega) = [.int (ranksI.getD wd 0), .str (S ps[i])]) ∨ (∃ n, (S ps[i]).length ≤ 640 ∧ PySem.intText? (S ps[i]) = some n ∧ itss[i]'(by omega) = [.int 100, .int n]) := by
          rcases hpc with ⟨q, _⟩ | ⟨_, q⟩ | ⟨_, q⟩
          · rw [q] at hc; cases hc
          · exact .inl q
          · exact .inr q
        refine wpOn_execs (wpOn_mono (E := fun _ _ => False) (Q := fun f s' => f = .next ∧ ∃ a b da db bs₂ sl₂ h₂ tk₂, s' = { s with heap := h₂, toks := tk₂ } ∧ W h₀ fr₀ L (mp bs₂) ((I, oI) :: (R, listOf (List.toArray vs') c) :: (L₁, o₁) :: (Ll, { oL with slots := sl₂ }) :: mu) fr₁ h₂ ∧
          mp bs₂ (Str.ofString "t") = some a ∧ mp bs₂ (Str.ofString "v") = some b ∧ mp bs₂ (Str.ofString "result") = some (.ref R) ∧ DatIn [] a da ∧ DatIn [] b db ∧ itss[i]'(by omega) = [da, db]) ?_ (fun f s' hm => ?_) fun _ _ q => q)
        · refine wpOn_Try ?_
          refine wpOn_execs (wpOn_Assign (wpOn_Call ?_))
          refine nmU hB (by assumption) (by rfl) PyProof.Rows.Boot.«int» (by decide) ?_
          refine wpOn_callT ?_
          repeat walk_at "m"
          rcases hcase with ⟨wd, hw0, hw1, hwx, hit⟩ | ⟨n, hn0, hn1, hit⟩
          · refine int2_bad (hwx ▸ bad_words wd hw1 hw0) hA1.hh ?_
            intro h₅ tk₅ e he
            have W5p := W5.perm (mu' := (Ll, { oL with slots := sl }) :: (I, oI) :: (R, listOf vs'.toArray c) :: (L₁, o₁) :: mu) (((List.Perm.refl mu).cons _ |>.cons _ |>.cons _ |>.cons _).trans (by
              refine .trans (.swap ..) (.cons _ ?_); refine .trans (.swap ..) (.cons _ ?_); exact .swap ..))
            refine caught_W (name := Str.ofString "_comparable_version") (lenv := lenv) (Ll := Ll) (oL := { oL with slots := sl }) hfr ⟨hk1, hk2, hod, trivial⟩ he W5.ns (W5p.mus _ (.head _)) (W5p.ndL _ (.head _)) ?_ ?_ ?_ ?_ ?_
            · intro h' hh
              exact hB.keep fun b o e => hh b o (fun q => by rw [q, W5.newL] at e; cases e) (fun q => by have := W5p.newM _ (.head _); rw [q] at e; rw [this] at e; cases e) (W5.keep b o e)
            · intro h₆ sl₆ hn₆ hL₆ hk₆
              have W6p := W5p.shift hn₆ hL₆ hk₆
              have W6 := W6p.perm (mu' := (I, oI) :: (R, listOf vs'.toArray c) :: (L₁, o₁) :: (Ll, { oL with slots := sl₆ }) :: mu) (by
                refine .trans (.cons _ (.cons _ (.swap ..))) ?_; refine .trans (.cons _ (.swap ..)) ?_; exact .swap ..)
              clear W6p W5p
              repeat walk_at "m"
              try refine MethodCall_ ?_
              repeat walk_at "m"
              obtain ⟨f, hf1, hf2⟩ := ver_map (prog := prog) (hB.keep W6.keep)
              refine getMethod_builtin hf1.typeIs PySem.F.plainAttrs_dict PySem.F.slot_dict_get PySem.F.type_dict_get hf1.noDict ?_
              dsimp only
              refine callWith_method1 ?_
              repeat walk_at "m"
              refine call_meetsIn PySem.F.slot_dict_get hf1.typeIs PySem.F.entry_dict_get (PySem.F.args_dict_get_3 _ _ _) (meets_dict_get_default (strKind prog w) 44 (strKind_is prog w _ _) (by decide) _) ⟨f, hf1, ?_⟩
              rename_i t7 tk7
              obtain ⟨tz, hz⟩ := hf2 wd hw1 hw0 t7
              show wpAny _ _ (storeName _ _ ((f (S ps[i])).getD (.int 0 t7))) _ _ _
              rw [hwx, hz]
              repeat walk_at "m"
              refine ⟨rfl, _, .str (S ps[i]) tv, _, _, _, sl₆, _, _, rfl, by assumption, mp_eq _ _ _, ?_, ?_, .int _ _, .str _ _, hit⟩
              · exact mp_ne (by decide) (mp_eq _ (Str.ofString "v") _)
              · exact mp_ne (by decide) (mp_ne (by decide) hres)
            · rfl
            · rfl
            · rfl
          · refine on (int2_ok hn0 hn1 ?_)
            intro t₆ tk₆
            repeat walk_at "m"
            refine on ?_
            repeat walk_at "m"
            refine ⟨rfl, _, .int n t₆, _, _, _, sl, _, _, rfl, by assumption, mp_eq _ _ _, ?_, ?_, .int _ _, .int _ _, hit⟩
            · exact mp_ne (by decide) (mp_eq _ (Str.ofString "v") _)
            · exact mp_ne (by decide) (mp_ne (by decide) (mp_ne (by decide) hres))
        · obtain ⟨rfl, a, b, da, db, bs₂, sl₂, h₂, tk₂, rfl, W6, ht, hvv, hr, hda, hdb, hit⟩ := hm
          dsimp only
          refine on ?_
          repeat walk_at "m"
          try refine wpAny_Expr (MethodCall_ ?_)
          repeat walk_at "m"
          have hR := (W6.swap).mus _ (.head _)
          refine getMethod_builtin ⟨_, hR, rfl⟩ PySem.F.plainAttrs_list PySem.F.slot_list_extend PySem.F.type_list_extend (fun a e => by cases e; exact ⟨_, hR, rfl⟩) ?_
          dsimp only
          refine callWith_method1 ?_
          repeat walk_at "m"
          refine newTupF (by assumption) ?_ (Nat.le_of_ble_eq_true rfl); intro D9 h9 W9
          repeat walk_at "m"
          refine extend_tup W9.swap (.head _) ?_ ?_
          · have h1 := hd.length
            have h2 : itss.flatten.length = (itss.take i).flatten.length + (itss.drop i).flatten.length := by
              rw [← List.length_append, ← List.flatten_append, List.take_append_drop]
            rw [h1]
            show _ + 2 ≤ _
            omega
          intro c' h10 W10
          dsimp only
          repeat walk_at "m"
          refine on ?_
          repeat walk_at "m"
          refine ⟨_, _, _, _, _, rfl, fun _ q => .tail _ q, W10.swap, _, c', sl₂, rfl, ?_, hr⟩
          rw [htake, hit]
          exact hd.append (.cons hda (.cons hdb .nil))
      · refine on ?_
        repeat walk_at "m"
        refine on ?_
        repeat walk_at "m"
        have hit : itss[i]'(by omega) = [] := by
          rcases hpc with ⟨_, q⟩ | ⟨q, _⟩ | ⟨q, _⟩
          · exact q
          · rw [q] at hc; cases hc
          · rw [q] at hc; cases hc
        refine ⟨_, _, _, _, _, rfl, fun _ q => q, W5, vs', c, sl, rfl, ?_, ?_⟩
        · rw [htake, hit, List.append_nil]; exact hd
        · exact mp_ne (by decide) hres
    · rintro bs₁ mu₁ fr₁ h tk4 ⟨vs', c, sl, rfl, hd, hres⟩ hsub W5
      refine on ?_
      repeat walk_at "m"
      rw [List.size_toArray, hvl, ← hlen, List.take_length] at hd
      have W6 := W5.freeze
      refine hQ _ _ _ _ sl (W6.back (hback _ o₁.slots (W6.mus _ (.head _)))) (fun p hp => .tail _ (hsub p (.tail _ hp))) (DatIn.list (.head _) (hd.mono fun p hp => absurd hp List.not_mem_nil))
end
end
section -- F2
def pathL (ps : List (List Nat)) : List Nat := 47 :: joinL [47] ps
theorem lit_slash : Str.ofString "/" = S [47] := by rfl
theorem strsAre_of {fr : Led} {vs : List Value} : ∀ {ls : List (List Nat)}, DatAll fr vs (ls.map sd) → StrsAre vs (ls.map S) := by
  induction vs with
  | nil => intro ls h; cases ls with
    | nil => exact .nil
    | cons => cases h
  | cons v vs ih => intro ls h; cases ls with
    | nil => cases h
    | cons x ls =>
      cases h with
      | cons hd tl => cases hd with
        | str x t => exact .cons _ _ (ih tl)
theorem joinL_len (ps : List (List Nat)) : (joinL [47] ps).length ≤ (ps.map List.length).sum + ps.length := by
  match ps with
  | [] => simp [joinL]
  | [x] => simp [joinL]
  | x :: y :: r =>
    have := joinL_len (y :: r)
    simp only [joinL, List.length_append, List.map_cons, List.sum_cons, List.length_cons, List.length_nil] at this ⊢
    omega

section
variable {prog : Program} {w : World}
set_option maxHeartbeats 1000000
theorem path_ok {fr : Led} {v : Value} {ps : List (List Nat)} (hv : DatIn fr v (.list (ps.map sd))) (hw : (ps.map List.length).sum + ps.length ≤ 1000) :
    Ctr prog w 1 139 [v] fr (fun fr' r => DatIn fr' r (sd (pathL ps))) := by
  obtain ⟨a, vs, n, rfl, hm, hd⟩ := datList hv
  intro A s Q E hA hB hF hQ
  refine' enter (n := 0) (fr := fr) 70 [(Str.ofString "pieces", .ref a)] hA hB hF ?h1 ?h2 ?h3 ?h4 ?h5 ?h6 ?h7 ?h8 ?h9 ?h10
  walk_at "ent"
  case h6 =>
    intro L h₁ tk hW hB1 hA1
    repeat walk_at "m"
    refine GM.join ?_
    dsimp only
    refine callWith_method1 ?_
    repeat walk_at "m"
    have hsum : ((ps.map S).map (·.length)).sum = (ps.map List.length).sum := by
      rw [List.map_map]; exact congrArg List.sum (List.map_congr_left fun x _ => S_length x)
    refine join_listW (isList_of (W.frs (by assumption)) (by assumption)) (by simpa using strsAre_of hd) (by decide) (by rw [hsum, List.length_map]; omega) ?_
    intro t' k
    rw [lit_slash, glued_S]
    refine add_str ?_ ?_
    · intro t2 k2
      dsimp only
      rw [S_append]
      refine hQ _ _ _ _ (W.keep (by assumption)) (W.frs (by assumption)) (W.gr (by assumption)) (DatIn.str _ _)
    · have := joinL_len ps
      rw [S_length, S_length]
      have hline : 2000 ≤ sizeLine := Nat.le_of_ble_eq_true rfl
      show 1 + _ ≤ _
      omega
end
end
section -- F3
def escC (way c : Nat) : List Nat := if way = 1 ∨ c = 34 ∨ c = 92 then [92, c] else [c]
def escL (way : Nat) (l : List Nat) : List Nat := l.flatMap (escC way)
def writtenL (k v : List Nat) (way : Nat) : List Nat := if way = 2 then k ++ [61] ++ v else k ++ [61, 34] ++ escL way v ++ [34]
theorem escL_len (way : Nat) (l : List Nat) : (escL way l).length ≤ 2 * l.length := by
  induction l with
  | nil => simp [escL]
  | cons c r ih =>
    have : (escC way c).length ≤ 2 := by unfold escC; split <;> simp
    simp only [escL, List.flatMap_cons, List.length_append, List.length_cons] at ih ⊢
    omega
theorem lit_bs : Str.ofString "\\" = S [92] := by rfl
theorem lit_qt : Str.ofString "\"" = S [34] := by rfl
theorem lit_eq : Str.ofString "=" = S [61] := by rfl
theorem lit_eqqt : Str.ofString "=\"" = S [61, 34] := by rfl
theorem lit_nil : Str.ofString "" = S [] := by rfl
theorem S_beq (a b : List Nat) : (S a == S b) = decide (a = b) := by
  by_cases h : a = b
  · subst h; simp
  · rw [decide_eq_false h]; exact beq_eq_false_iff_ne.mpr fun e => h (S_inj e)
theorem take_snoc {l : List Nat} {i c : Nat} (h : l[i]? = some c) : l.take (i + 1) = l.take i ++ [c] := by
  rw [List.take_add_one, h]; rfl
theorem escL_snoc {way : Nat} {l : List Nat} {i c : Nat} (h : l[i]? = some c) : escL way (l.take (i + 1)) = escL way (l.take i) ++ escC way c := by
  rw [take_snoc h]; simp [escL]

section
variable {prog : Program} {w : World}
set_option maxHeartbeats 1000000
theorem written_ok {fr : Led} {k v : List Nat} {way : Nat} {t1 t2 t3 : Tok} (hl : k.length + 2 * v.length ≤ 1000) :
    Ctr prog w 1 146 [.str (S k) t1, .str (S v) t2, .int way t3] fr (fun fr' r => DatIn fr' r (sd (writtenL k v way))) := by
  intro A s Q E hA hB hF hQ
  have hline : 2000 ≤ sizeLine := Nat.le_of_ble_eq_true rfl
  refine' enter (n := 0) (fr := fr) 75 [(Str.ofString "key", .str (S k) t1), (Str.ofString "value", .str (S v) t2), (Str.ofString "way", .int way t3)] hA hB hF ?h1 ?h2 ?h3 ?h4 ?h5 ?h6 ?h7 ?h8 ?h9 ?h10
  walk_at "ent"
  case h6 =>
    intro L h₁ tk hW hB1 hA1
    repeat walk_at "m"
    refine iteB (fun hw => ?_) (fun hw => ?_)
    · have hw : way = 2 := by simp at hw; omega
      repeat walk_at "m"
      rw [lit_eq]
      refine add_str ?_ (by rw [S_length, S_length]; show _ + 1 ≤ _; omega)
      intro t4 k4
      repeat walk_at "m"
      rw [S_append]
      refine add_str ?_ (by rw [S_length, S_length, List.length_append]; show _ + 1 + _ ≤ _; omega)
      intro t5 k5
      repeat walk_at "m"
      rw [S_append]
      refine hQ _ _ _ _ (W.keep (by assumption)) (W.frs (by assumption)) (W.gr (by assumption)) ?_
      unfold writtenL
      rw [if_pos hw]
      exact DatIn.str _ _
    · have hw : way ≠ 2 := by simp at hw; omega
      repeat walk_at "m"
      refine wpAny_For ?_
      repeat walk_at "m"
      refine for_W (itv_str hA1.hh) (by assumption) (fun b hb => by cases hb) (fun i bs mu fr' => mu = [] ∧ fr' = fr ∧ mp bs (Str.ofString "way") = some (.int way t3) ∧ mp bs (Str.ofString "key") = some (.str (S k) t1) ∧ ∃ t, mp bs (Str.ofString "written") = some (.str (S (escL way (v.take i))) t))
        ⟨rfl, rfl, rfl, rfl, _, rfl⟩ ?_ ?_
      · rintro i x bs₁ mu₁ fr₁ I oI h tk5 hi ⟨c, u, hc, rfl⟩ ⟨rfl, rfl, f1, f2, tw, f3⟩ hsub W5
        have hc' : v[i]? = some c := by simpa [S] using hc
        have hv1 := escL_len way (v.take i)
        have hv2 : (v.take i).length ≤ v.length := by rw [List.length_take]; omega
        have hsn := escL_snoc (way := way) hc'
        have fin : ∀ h' bs' tk' t', W s.heap fr₁ L (mp bs') [(I, oI)] fr₁ h' → mp bs' (Str.ofString "way") = some (.int way t3) → mp bs' (Str.ofString "key") = some (.str (S k) t1) → mp bs' (Str.ofString "written") = some (.str (S (escL way (v.take i) ++ escC way c)) t') →
          ∃ bs'' mu'' fr'' h'' tk'', ({ s with heap := h', toks := tk' } : Shared) = { s with heap := h'', toks := tk'' } ∧ (∀ p ∈ fr₁, p ∈ fr'') ∧ W s.heap fr₁ L (mp bs'') ((I, oI) :: mu'') fr'' h'' ∧ mu'' = [] ∧ fr'' = fr₁ ∧ mp bs'' (Str.ofString "way") = some (.int way t3) ∧ mp bs'' (Str.ofString "key") = some (.str (S k) t1) ∧ ∃ t, mp bs'' (Str.ofString "written") = some (.str (S (escL way (v.take (i + 1)))) t) := by
          intro h' bs' tk' t' w' g1 g2 g3
          exact ⟨bs', [], fr₁, h', tk', rfl, fun _ q => q, w', rfl, rfl, g1, g2, t', by rw [hsn]; exact g3⟩
        have hS : (⟨#[c]⟩ : Str) = S [c] := rfl
        rw [hS] at W5
        have yes : (way = 1 ∨ c = 34 ∨ c = 92) → escC way c = [92] ++ [c] := fun q => if_pos q
        have no : ¬ (way = 1 ∨ c = 34 ∨ c = 92) → escC way c = [c] := fun q => if_neg q
        rw [lit_bs, lit_qt]
        repeat walk_at "m"
        refine iteB (fun hw1 => ?_) (fun hw1 => ?_)
        · have hw1 : way = 1 := by simp at hw1; omega
          repeat walk_at "m"
          refine PyProof.Rows.iadd_str ?_ (by rw [S_length, S_length]; show _ + 1 ≤ _; omega)
          intro t4 k4
          rw [S_append]
          repeat walk_at "m"
          refine PyProof.Rows.iadd_str ?_ (by rw [S_length, S_length, List.length_append]; show _ + 1 + 1 ≤ _; omega)
          intro t5 k5
          rw [S_append, List.append_assoc, ← yes (.inl hw1)]
          repeat walk_at "m"
          exact fin _ _ _ _ (by assumption) (by walk_at "lk") (by walk_at "lk") (mp_eq _ _ _)
        repeat walk_at "m"
        rw [S_beq]
        refine iteD (fun hw2 => ?_) (fun hw2 => ?_)
        · repeat walk_at "m"
          refine PyProof.Rows.iadd_str ?_ (by rw [S_length, S_length]; show _ + 1 ≤ _; omega)
          intro t4 k4
          rw [S_append]
          repeat walk_at "m"
          refine PyProof.Rows.iadd_str ?_ (by rw [S_length, S_length, List.length_append]; show _ + 1 + 1 ≤ _; omega)
          intro t5 k5
          rw [S_append, List.append_assoc, ← yes (.inr (.inl (by simpa using hw2)))]
          repeat walk_at "m"
          exact fin _ _ _ _ (by assumption) (by walk_at "lk") (by walk_at "lk") (mp_eq _ _ _)
        repeat walk_at "m"
        rw [S_beq]
        refine iteD (fun hw3 => ?_) (fun hw3 => ?_)
        · repeat walk_at "m"
          refine PyProof.Rows.iadd_str ?_ (by rw [S_length, S_length]; show _ + 1 ≤ _; omega)
          intro t4 k4
          rw [S_append]
          repeat walk_at "m"
          refine PyProof.Rows.iadd_str ?_ (by rw [S_length, S_length, List.length_append]; show _ + 1 + 1 ≤ _; omega)
          intro t5 k5
          rw [S_append, List.append_assoc, ← yes (.inr (.inr (by simpa using hw3)))]
          repeat walk_at "m"
          exact fin _ _ _ _ (by assumption) (by walk_at "lk") (by walk_at "lk") (mp_eq _ _ _)
        repeat walk_at "m"
        refine PyProof.Rows.iadd_str ?_ (by rw [S_length, S_length]; show _ + 1 ≤ _; omega)
        intro t5 k5
        rw [S_append, ← no (by simp at hw1 hw2 hw3; omega)]
        repeat walk_at "m"
        exact fin _ _ _ _ (by assumption) (by walk_at "lk") (by walk_at "lk") (mp_eq _ _ _)
      · rintro bs₁ mu₁ fr₁ h tk5 ⟨rfl, rfl, f1, f2, tw, f3⟩ hsub W5
        rw [show (S v).cps.size = v.length by simp [S], List.take_length] at f3
        have hv1 := escL_len way v
        repeat walk_at "m"
        rw [lit_eqqt]
        refine add_str ?_ (by rw [S_length, S_length]; show _ + 2 ≤ _; omega)
        intro t4 k4
        repeat walk_at "m"
        rw [S_append]
        refine add_str ?_ (by rw [S_length, S_length, List.length_append]; show _ + 2 + _ ≤ _; omega)
        intro t5 k5
        repeat walk_at "m"
        rw [S_append, lit_qt]
        refine add_str ?_ (by rw [S_length, S_length, List.length_append, List.length_append]; show _ + 2 + _ + 1 ≤ _; omega)
        intro t6 k6
        repeat walk_at "m"
        rw [S_append]
        refine hQ _ _ _ _ (W.keep (by assumption)) (W.frs (by assumption)) (W.gr (by assumption)) ?_
        unfold writtenL
        rw [if_neg hw]
        exact DatIn.str _ _
end
end
section -- R1
section
variable {prog : Program} {w : World} {A : Around} {E : Value → Shared → Prop} {s : Shared} {h₀ : Heap} {m : Str → Option Value} {mu fr fr₀ : Led} {L : Addr}
theorem getM_append {D : Addr} {xs : List Value} {n : Nat} {led : Led} {pl : Sem Bool} {Q : Value × List Value → Shared → Prop} (hl : LedIn s.heap led) (hm : (D, listOf xs.toArray n) ∈ led) (h : Q (.builtin "list.append", [.ref D]) s) :
    wpAny (model prog w) A (getMethod (.ref D) "append" pl) Q E s := Calls.getMethod_list_append (hl _ hm) rfl rfl h
theorem append_W {D : Addr} {xs : List Value} {n : Nat} {x : Value} {Q : Value → Shared → Prop} (hW : W h₀ fr₀ L m ((D, listOf xs.toArray n) :: mu) fr s.heap) (hsz : xs.length ≤ sizeLine)
    (h : ∀ h', W h₀ fr₀ L m ((D, listOf (xs ++ [x]).toArray (n + 1)) :: mu) fr h' → Q .none { s with heap := h' }) : wpAny (model prog w) A (call (.builtin "list.append") [.ref D, x]) Q E s := by
  refine append_at (hW.mus _ (.head _)) (fun h' hs ho' => h h' (hW.turn ?_ hs.extBut)) (by simpa using hsz)
  rw [ho']
  simp
theorem itemD {vs : List Value} {ds : List Dat} {i : Nat} {v : Value} (hd : DatAll fr vs ds) (hi : i < ds.length) (hv : vs.toArray[i]? = some v) : DatIn fr v ds[i] := by
  obtain ⟨v', hv1, hv2⟩ := hd.get hi
  have : v = v' := by
    rw [List.getElem?_toArray, hv1] at hv
    exact (Option.some.inj hv).symm
  rw [this]; exact hv2
end
theorem fp1 {h₀ : Heap} {fr : Led} {a : Addr} {o : Obj} (hm : (a, o) ∈ fr) : ∀ b ∈ [a], (∃ o, (b, o) ∈ fr) ∨ ∃ o, h₀.get? b = some o := by
  intro b hb
  rw [List.mem_singleton.mp hb]
  exact .inl ⟨o, hm⟩
/-- what an int is -/
abbrev di (n : Nat) : Dat := .int n
def prodL (l : List Nat) : Nat := l.foldl (· * ·) 1
theorem prodL_snoc {l : List Nat} {i : Nat} (h : i < l.length) : prodL (l.take (i + 1)) = prodL (l.take i) * l[i] := by
  unfold prodL
  rw [List.take_add_one, List.getElem?_eq_getElem h, List.foldl_append]
  rfl
def figAt (X : Nat) (sz : List Nat) (i : Nat) : Nat := X / prodL (sz.take i) % sz.getD i 1
def figsL (X : Nat) (sz : List Nat) : List Nat := (List.range sz.length).map (figAt X sz)
theorem prodL_pos {l : List Nat} (h : ∀ n ∈ l, 0 < n) : 0 < prodL l := by
  unfold prodL
  have : ∀ (l : List Nat) (a : Nat), (∀ n ∈ l, 0 < n) → 0 < a → 0 < l.foldl (· * ·) a := by
    intro l
    induction l with
    | nil => intro a _ ha; exact ha
    | cons x r ih => intro a h ha; exact ih _ (fun n hn => h n (.tail _ hn)) (Nat.mul_pos ha (h x (.head _)))
  exact this l 1 h (by decide)
def rowX (x : Int) (sz : List Nat) : Nat := (x.fmod (prodL sz : Int)).toNat

section
variable {prog : Program} {w : World}
set_option maxHeartbeats 1000000
theorem figures_ok {fr : Led} {x : Int} {t : Tok} {v : Value} {sz : List Nat} (hv : DatIn fr v (.list (sz.map di))) (hpos : ∀ n ∈ sz, 0 < n) (hbig : ∀ n ∈ sz, n < 1000) (hlen : sz.length ≤ 100) :
    Ctr prog w 1 120 [.int x t, v] fr (fun fr' r => DatIn fr' r (.list ((figsL (rowX x sz) sz).map di))) := by
  obtain ⟨a, vs, n, rfl, hm, hd⟩ := datList hv
  have hvl : vs.length = sz.length := by have := hd.length; simpa using this
  have hline : 2000 ≤ sizeLine := Nat.le_of_ble_eq_true rfl
  intro A s Q E hA hB hF hQ
  refine' enter (n := 0) (fr := fr) 57 [(Str.ofString "x", .int x t), (Str.ofString "sizes", .ref a)] hA hB hF ?h1 ?h2 ?h3 ?h4 ?h5 ?h6 ?h7 ?h8 ?h9 ?h10
  walk_at "ent"
  case h6 =>
    intro L h₁ tk hW hB1 hA1
    repeat walk_at "m"
    refine wpAny_For ?_
    repeat walk_at "m"
    refine for_W (itv_list hA1.hh (isList_of (W.frs (by assumption)) hm)) (by assumption) (fp1 hm)
      (fun i bs mu fr' => mu = [] ∧ fr' = fr ∧ mp bs (Str.ofString "x") = some (.int x t) ∧ mp bs (Str.ofString "sizes") = some (.ref a) ∧ ∃ t, mp bs (Str.ofString "whole") = some (.int (prodL (sz.take i) : Nat) t))
      ⟨rfl, rfl, rfl, rfl, _, rfl⟩ ?_ ?_
    · rintro i x' bs₁ mu₁ fr₁ I oI h tk5 hi hx ⟨rfl, rfl, f1, f2, tw, f3⟩ hsub W5
      rw [List.size_toArray, hvl] at hi
      have hx' := itemD hd (by simpa using hi) hx
      simp only [List.getElem_map] at hx'
      obtain ⟨tx, rfl⟩ := datInt hx'
      repeat walk_at "m"
      have hb := hbig _ (List.getElem_mem hi)
      refine PyProof.Rows.imul_int ?_ (IntMulOk.of_right (intBits_le_64 (by omega) (by omega)))
      rw [← Int.natCast_mul, ← prodL_snoc hi]
      repeat walk_at "m"
      refine ⟨_, _, _, _, _, rfl, fun _ q => q, by assumption, rfl, rfl, by walk_at "lk", by walk_at "lk", _, mp_eq _ _ _⟩
    · rintro bs₁ mu₁ fr₁ h tk5 ⟨rfl, rfl, f1, f2, tw, f3⟩ hsub W5
      rw [List.size_toArray, hvl, List.take_length] at f3
      have hpp := prodL_pos hpos
      repeat walk_at "m"
      refine PyProof.Rows.imod_int (by omega) ?_
      have hX : x.fmod (prodL sz : Int) = ((rowX x sz : Nat) : Int) := by
        unfold rowX
        rw [Int.toNat_of_nonneg]
        rw [Int.fmod_eq_emod_of_nonneg _ (by omega)]
        exact Int.emod_nonneg _ (by omega)
      rw [hX]
      generalize hXe : rowX x sz = X
      repeat walk_at "m"
      refine newListM (by assumption) ?_ (Nat.le_of_ble_eq_true rfl); intro R h2 W2
      repeat walk_at "m"
      refine wpAny_For ?_
      repeat walk_at "m"
      refine for_W (itv_list hA1.hh (isList_of (W.frs (by assumption)) hm)) (by assumption) (fp1 hm)
        (fun i bs mu fr' => ∃ vs' c, mu = [(R, listOf (List.toArray vs') c)] ∧ fr' = fr₁ ∧ DatAll [] vs' ((List.range i).map fun j => di (figAt X sz j)) ∧ mp bs (Str.ofString "figures") = some (.ref R) ∧ ∃ t, mp bs (Str.ofString "x") = some (.int ((X / prodL (sz.take i) : Nat) : Int) t))
        ⟨[], 0, rfl, rfl, DatAll.nil, mp_eq _ _ _, _, mp_ne (by decide) (by rw [show X / prodL (sz.take 0) = X from Nat.div_one X]; exact mp_eq _ _ _)⟩ ?_ ?_
      · rintro i x' bs₁ mu₁ fr₁ I oI h tk5 hi hx ⟨vs', c, rfl, rfl, g1, g2, tx0, g3⟩ hsub W5
        rw [List.size_toArray, hvl] at hi
        have hx' := itemD hd (by simpa using hi) hx
        simp only [List.getElem_map] at hx'
        obtain ⟨tx, rfl⟩ := datInt hx'
        have hb := hbig _ (List.getElem_mem hi)
        have hp0 := hpos _ (List.getElem_mem hi)
        have gl := g1.length
        simp only [List.length_map, List.length_range] at gl
        repeat walk_at "m"
        refine getM_append (W.mus (by assumption)) (.tail _ (.head _)) ?_
        dsimp only
        refine callWith_method1 ?_
        repeat walk_at "m"
        refine PyProof.Rows.mod_int' (by omega) ?_
        rw [Int.fmod_eq_emod_of_nonneg _ (by omega), ← Int.natCast_emod]
        repeat walk_at "m"
        rename W _ _ _ _ _ _ _ => W6
        refine append_W W6.swap (by omega) ?_
        intro h7 W7
        repeat walk_at "m"
        refine PyProof.Rows.ifloordiv_int (by omega) ?_ (.inl ?_)
        · rw [Int.fdiv_eq_ediv_of_nonneg _ (by omega), ← Int.natCast_ediv, Nat.div_div_eq_div_mul, ← prodL_snoc hi]
          have W8 := W7.swap
          clear W7 W6
          repeat walk_at "m"
          refine ⟨_, _, _, _, _, rfl, fun _ q => q, by assumption, _, _, rfl, rfl, ?_, by walk_at "lk", _, mp_eq _ _ _⟩
          rw [List.range_succ, List.map_append]
          refine g1.append (.cons ?_ .nil)
          have : figAt X sz i = X / prodL (sz.take i) % sz[i] := by unfold figAt; rw [List.getD_eq_getElem?_getD, List.getElem?_eq_getElem hi]; rfl
          show DatIn _ _ (di (figAt X sz i))
          rw [this]
          exact .int _ _
        · exact PyProof.noPylong_small (by omega)
      · rintro bs₁ mu₁ fr₁ h tk5 ⟨vs', c, rfl, rfl, g1, g2, tx0, g3⟩ hsub W5
        repeat walk_at "m"
        have W6 := W5.freeze
        rw [List.size_toArray, hvl] at g1
        refine hQ _ _ _ _ W6.keep W6.frs W6.gr (DatIn.list (.head _) ?_)
        unfold figsL
        rw [List.map_map, hXe]
        exact g1.mono fun p hp => absurd hp List.not_mem_nil
end
end
section -- F5
structure Row where
  host : Nat
  more : Nat
  path : Nat
  w1 : Nat
  f1 : Nat
  sg : Nat
  w2 : Nat
  f2 : Nat
  way : Nat
structure Row.ok (r : Row) : Prop where
  host : r.host < 2
  more : r.more < 3
  path : r.path < 27
  w1 : r.w1 < 13
  f1 : r.f1 < 10
  sg : r.sg < 4
  w2 : r.w2 < 13
  f2 : r.f2 < 10
  way : r.way < 3
def pieceL (j : Nat) : List Nat := [[], [97], [98]].getD j []
def wordL (wd : Nat) : List Nat := (wordsS.getD wd Str.empty).cps.toList
def numL (fg : Nat) : List Nat := (numsS.getD fg Str.empty).cps.toList
def Row.hostL (r : Row) : List Nat := [[104, 107].getD r.host 0]
def Row.pieces (r : Row) : List (List Nat) := (List.range (r.more + 1)).map fun k => pieceL (r.path / 3 ^ k % 3)
def Row.ver (r : Row) : List Nat := (wordL r.w1 ++ numL r.f1) ++ [[46, 45, 95, 43].getD r.sg 0] ++ (wordL r.w2 ++ numL r.f2)
def Row.things (r : Row) : List Dat := thingsD r.w1 r.f1 ++ thingsD r.w2 r.f2
def Row.dat (r : Row) : Dat := .tuple [sd r.hostL, .list (r.pieces.map sd), sd r.ver, .list r.things, di r.way]
def rowSz : List Nat := [2, 3, 27, 13, 10, 4, 13, 10, 3]
theorem S_half (wd fg : Nat) : wordsS.getD wd Str.empty ++ numsS.getD fg Str.empty = S (wordL wd ++ numL fg) := by
  rw [← S_append]
  unfold wordL numL
  cases wordsS.getD wd Str.empty; cases numsS.getD fg Str.empty
  simp [S]
theorem half_len2 (wd fg : Nat) (hw : wd < 13) (hf : fg < 10) : (wordL wd ++ numL fg).length ≤ 16 := by
  have := half_len' wd hw fg hf
  rw [List.length_append]
  simpa [wordL, numL, Str.length] using this
def rowN (X : Nat) : Row := ⟨figAt X rowSz 0, figAt X rowSz 1, figAt X rowSz 2, figAt X rowSz 3, figAt X rowSz 4, figAt X rowSz 5, figAt X rowSz 6, figAt X rowSz 7, figAt X rowSz 8⟩
theorem rowN_ok (X : Nat) : (rowN X).ok := by
  constructor <;> exact Nat.mod_lt _ (by decide)
theorem figs9 (X : Nat) : figsL X rowSz = [(rowN X).host, (rowN X).more, (rowN X).path, (rowN X).w1, (rowN X).f1, (rowN X).sg, (rowN X).w2, (rowN X).f2, (rowN X).way] := rfl
def rowOf (x : Int) : Row := rowN (rowX x rowSz)

theorem ledN {mu l : Led} (h1 : mu.map (·.1) = l.map (·.1)) (h2 : ∀ (i : Nat) (p : Addr × Obj), l[i]? = some p → mu[i]? = some p) : mu = l := by
  have hl : mu.length = l.length := by simpa using congrArg List.length h1
  apply List.ext_getElem?
  intro i
  cases e : l[i]? with
  | some p => exact h2 i p e
  | none =>
    rw [List.getElem?_eq_none_iff] at e ⊢
    omega
theorem led1 {mu : Led} {c : Addr} {o : Obj} (h1 : mu.map (·.1) = [c]) (h2 : mu[0]? = some (c, o)) : mu = [(c, o)] := by
  refine ledN h1 fun i p e => ?_
  cases i with
  | zero => rw [h2, ← e]; rfl
  | succ i => cases e
section
variable {prog : Program} {w : World} {A : Around} {E : Value → Shared → Prop} {s : Shared} {h₀ : Heap} {m : Str → Option Value} {mu fr fr₀ : Led} {L : Addr}
theorem ctrW {n : Nat} {f : Addr} {vals : List Value} {P : Led → Value → Prop} {Q : Value → Shared → Prop} (hW : W h₀ fr₀ L m mu fr s.heap) (hB : Bs w h₀) (hA : AOk A n) (C : Ctr prog w n f vals fr P)
    (h : ∀ v h' tk fr', W h₀ fr₀ L m mu fr' h' → (∀ p ∈ fr, p ∈ fr') → P fr' v → Q v { s with heap := h', toks := tk }) : wpAny (model prog w) A (call (.ref f) vals) Q E s :=
  (call_ctr C hA hB hW h).2
end
abbrev rangeO (n : Int) (t u v : Tok) : Obj := { cls := .type "range", data := .fields #[.int 0 t, .int n u, .int 1 v] }
section
variable {prog : Program} {w : World} {A : Around} {E : Value → Shared → Prop} {s : Shared} {h₀ : Heap} {m : Str → Option Value} {mu fr fr₀ : Led} {L : Addr}
theorem rangeF {n : Int} {t : Tok} {Q : Value → Shared → Prop} (hW : W h₀ fr₀ L m mu fr s.heap) (h : ∀ D t1 t2 h' tk, W h₀ fr₀ L m mu ((D, rangeO n t1 t t2) :: fr) h' → Q (.ref D) { s with heap := h', toks := tk }) :
    wpAny (model prog w) A (call (.type "range") [.int n t]) Q E s := call_range_1 (h _ _ _ _ _ (hW.pushF _))
end
section
variable {prog : Program} {w : World} {A : Around}
theorem itv_range {h : Heap} {r : Addr} {n : Nat} {t u v : Tok} (hh : A.handled = none) (hr : IsRange h r 0 n 1 t u v) (hn : n < 1000) : ItV prog w A h (.ref r) [] n (fun i v => ∃ t, v = .int i t) := by
  intro s Q E hs k
  subst hs
  have hsz : Builtin.Range.rangeSize 0 (n : Int) 1 = n := by unfold Builtin.Range.rangeSize; simp; omega
  refine wpAny_pyIter_range hr ?_ (k _ _ rfl (?_ : Walks prog w A _ _ _ n _ (fun i h' => IsRangeIter h' s.heap.objs.size (0 + (i : Nat) * 1) ((n : Int) - (i : Nat)) 1)) (fun i g st => ⟨_, st⟩) ?_)
  · have hall : ∀ n < 1000, Builtin.Range.small 0 ((n : Nat) : Int) 1 = true := by decide +kernel
    exact hall n hn
  · have := Walks.range (prog := prog) (w := w) hh s.heap.objs.size 0 1 n
    simpa using this
  · show IsRangeIter _ _ _ _ _
    rw [hsz]
    simpa using Heap.get?_push_size _ rfl
end

section
variable {prog : Program} {w : World} {A : Around} {E : Value → Shared → Prop} {s : Shared}
theorem pow3 {i : Nat} {t u : Tok} {Q : Value → Shared → Prop} (hi : i < 3) (h : ∀ t' tk, Q (.int ((3 ^ i : Nat) : Int) t') { s with toks := tk }) : wpAny (model prog w) A (binaryOp .Pow (.int 3 t) (.int (i : Int) u)) Q E s := by
  have : i = 0 ∨ i = 1 ∨ i = 2 := by omega
  rcases this with rfl | rfl | rfl
  · exact AutoIntOps.pow_0 (by decide) (by decide) (h _ _)
  · exact AutoIntOps.pow_4 (by decide) (by decide) (by decide) (by decide) (by decide +kernel) (h _ _)
  · exact AutoIntOps.pow_4 (by decide) (by decide) (by decide) (by decide) (by decide +kernel) (h _ _)
theorem item_W {value slice : Expr} {l : List Nat} {k : Nat} {t u : Tok} {Q : Value → Shared → Prop} (hk : k < l.length) (hs : k < 1000) (h : ∀ t' tk, Q (.str (S [l.getD k 0]) t') { s with toks := tk })
    (hs : subscripted slice false (.str (S l) t) (.int (k : Int) u) = operate [.str (S l) t, .int (k : Int) u] (getItem (.str (S l) t) (.int (k : Int) u)) := by with_unfolding_all rfl) :
    wpAny (model prog w) A (subscriptTail value slice (.str (S l) t) (.int (k : Int) u)) Q E s := by
  refine kba_turn (value' := anyN) (fun _ => rfl) (item_str (value := anyN) ?_ ?_ ?_ (fun _ => ?_) hs (fun _ => rfl))
  · unfold fitsSsize
    simp
    omega
  · rw [S_length]; omega
  · rw [S_length]; omega
  · have : Txt.item (S l) (k : Int) = S [l.getD k 0] := by
      unfold Txt.item Txt.charAt seqIndex?
      have e1 : ¬ (k : Int) < 0 := by omega
      have e2 : k < (Str.mk l.toArray).length := by simpa [Str.length] using hk
      simp [e1, S]
      rw [if_pos e2]
      rfl
    rw [this]; exact h _ _
end
section
variable {prog : Program} {w : World}
set_option maxHeartbeats 2000000
theorem half_ok' {fr : Led} (wd fg : Nat) (t u : Tok) (hw : wd < 13) (hf : fg < 10) :
    Ctr prog w 1 127 [.int wd t, .int fg u] fr (fun fr' v => DatIn fr' v (.tuple [sd (wordL wd ++ numL fg), .list (thingsD wd fg)])) := by
  have := half_ok (prog := prog) (w := w) (fr := fr) wd fg t u hw hf
  rw [S_half] at this
  exact this
theorem things_len (wd fg : Nat) : (thingsD wd fg).length ≤ 4 := by
  unfold thingsD
  split <;> split <;> simp
theorem row_ok {fr : Led} (x : Int) (t : Tok) : Ctr prog w 2 132 [.int x t] fr (fun fr' r => DatIn fr' r (rowOf x).dat) := by
  intro A s Q E hA hB hF hQ
  have hR := rowN_ok (rowX x rowSz)
  have hfig := figs9 (rowX x rowSz)
  unfold rowOf at hQ
  generalize rowN (rowX x rowSz) = R at *
  refine' enterC (n := 1) (fr := fr) 65 [(Str.ofString "x", .int x t)] hA hB hF ?h1 ?h2 ?h3 ?h4 ?h5 ?h55 ?h6 ?h8 ?h9 ?h10
  case h1 => rfl
  case h2 => rfl
  case h3 => rfl
  case h4 => rfl
  case h5 => intro L y hy; rw [List.mem_singleton.mp hy]; exact .inl rfl
  case h55 => intro L p hp; rw [show p = (Str.ofString "path", L + 1) from List.mem_singleton.mp hp]; rfl
  case h8 => rfl
  case h9 => rfl
  case h10 => rfl
  case h6 =>
    intro L h₁ tk mu hm1 hm2 hW hB1 hA1
    obtain ⟨o, hmu, hod⟩ := hm2 0 _ _ rfl
    have hmu' : mu = [(L + 1, o)] := led1 hm1 hmu
    clear hmu hm1 hm2 hB1
    subst hmu'
    have hW' : W s.heap fr L (mp [(Str.ofString "x", .int x t)]) [(L + 1, o)] fr h₁ := by
      have e : (fun y => if y = Str.ofString "x" then some (Value.int x t) else mp [] y) = mp [(Str.ofString "x", .int x t)] := mp_setL [] _ _
      rw [← e]; exact hW
    clear hW
    repeat walk_at "m"
    refine callD hB (i := 58) rfl rfl ?_
    repeat walk_at "m"
    walk_at "nl"; intro D1 h1 W1
    repeat walk_at "m"
    refine ⟨W1.keep, ctrW W1 hB (hA1.le (by decide)) (figures_ok (sz := rowSz) (DatIn.list (.head _) (by walk_at "da")) (by decide) (by decide) (by decide)) ?_⟩
    intro v h' tk' fr' W2 hsub2 hv
    rw [hfig] at hv
    obtain ⟨aF, vsF, nF, rfl, hmF, hdF⟩ := datList hv
    cases hdF with | cons q0 hdF =>
    cases hdF with | cons q1 hdF =>
    cases hdF with | cons q2 hdF =>
    cases hdF with | cons q3 hdF =>
    cases hdF with | cons q4 hdF =>
    cases hdF with | cons q5 hdF =>
    cases hdF with | cons q6 hdF =>
    cases hdF with | cons q7 hdF =>
    cases hdF with | cons q8 hdF =>
    cases hdF
    obtain ⟨z0, rfl⟩ := datInt q0
    obtain ⟨z1, rfl⟩ := datInt q1
    obtain ⟨z2, rfl⟩ := datInt q2
    obtain ⟨z3, rfl⟩ := datInt q3
    obtain ⟨z4, rfl⟩ := datInt q4
    obtain ⟨z5, rfl⟩ := datInt q5
    obtain ⟨z6, rfl⟩ := datInt q6
    obtain ⟨z7, rfl⟩ := datInt q7
    obtain ⟨z8, rfl⟩ := datInt q8
    refine unpackL hA1.hh W2 hmF rfl rfl ?_
    intro h3 tk3 W3
    clear W2 W1 hW'
    repeat walk_at "m"
    refine stC (by assumption) hod ?_
    intro h4 oP hoP W4
    repeat walk_at "m"
    refine' lcA [(Str.ofString "path", L + 1)] ?c1 ?c0 ?h ?c2 ?c3 ?c4 ?c5 ?c6 ?c7 ?c8
    walk_at "la"
    case h =>
    repeat walk_at "m"
    refine nmU hB (by assumption) (by rfl) PyProof.Rows.Boot.«range» (by decide) ?_
    refine PyProof.Rows.callWith_type1 ?_
    repeat walk_at "m"
    rw [show ((R.more : Int) + 1) = ((R.more + 1 : Nat) : Int) by omega]
    refine rangeF (by assumption) ?_
    intro DR tr1 tr2 h6 tk6 W6
    have hmore := hR.more
    have hline : 2000 ≤ sizeLine := Nat.le_of_ble_eq_true rfl
    refine CompA.mk (fun i => some (sd (pieceL (R.path / 3 ^ i % 3)))) W6 (itv_range (n := R.more + 1) hA1.hh (W6.frs _ (.head _)) (by omega)) (fun b hb => by cases hb) (by omega) ?_ ?_
    · rintro C i v fr₁ mu₁ h tk E' hi ⟨ti, rfl⟩ hsub W7
      refine tests_nil (ite_tt ?_)
      have hcell := W6.mus _ (.head _)
      have hi3 : i < 3 := by omega
      repeat walk_at "m"
      walk_at "nl"; intro D8 h8 W8
      repeat walk_at "m"
      refine nmC (c := L + 1) (o := oP) (by rfl) (W8.keep _ _ hcell) hoP ?_
      repeat walk_at "m"
      refine pow3 hi3 ?_
      intro t9 tk9
      have h3 : 0 < 3 ^ i := Nat.pow_pos (by decide)
      have h3' : 3 ^ i ≤ 9 := by
        have : 3 ^ i ≤ 3 ^ 2 := Nat.pow_le_pow_right (by decide) (by omega)
        exact this
      refine PyProof.Rows.floordiv_int (by omega) ?_ (.inl (PyProof.noPylong_small (by omega)))
      rw [Int.fdiv_eq_ediv_of_nonneg _ (by omega), ← Int.natCast_ediv]
      repeat walk_at "m"
      refine PyProof.Rows.mod_int' (by decide) ?_
      rw [Int.fmod_eq_emod_of_nonneg _ (by decide), show (3 : Int) = ((3 : Nat) : Int) from rfl, ← Int.natCast_emod]
      refine sub_list (W.frs W8) (by walk_at "mem") (ds := [[], [97], [98]].map sd) (fr := []) (by walk_at "da") (by omega) (by omega) (getMap (d := []) (Nat.mod_lt _ (by decide))) ?_
      intro v hv
      exact ⟨_, _, _, rfl, fun p hp => .tail _ hp, W8, _, rfl, hv.mono fun p hp => absurd hp List.not_mem_nil⟩
    · intro D h tk fr' W7 hsub7 hD
      dsimp only
      have hpc : DatIn fr' (.ref D) (.list (R.pieces.map sd)) := by
        have e : (List.range (R.more + 1)).filterMap (fun i => some (sd (pieceL (R.path / 3 ^ i % 3)))) = R.pieces.map sd := by
          unfold Row.pieces
          rw [List.filterMap_eq_map', List.map_map]
          rfl
        rw [← e]; exact hD
      clear hD W6 W4
      repeat walk_at "m"
      refine callD hB (i := 63) rfl rfl ?_
      repeat walk_at "m"
      refine ⟨W7.keep, ctrW W7 hB (hA1.le (by decide)) (half_ok' R.w1 R.f1 _ _ hR.w1 hR.f1) ?_⟩
      intro v h9 tk9 fr9 W9 hsub9 hv9
      obtain ⟨a9, vs9, n9, rfl, hm9, hd9⟩ := datTup hv9
      cases hd9 with | cons q0 hd9 =>
      cases hd9 with | cons q1 hd9 =>
      cases hd9
      obtain ⟨y0, rfl⟩ := datStr q0
      refine unpackT hA1.hh W9 hm9 rfl rfl ?_
      intro h10 W10
      clear W9 W7
      obtain ⟨aL, vsL, nL, rfl, hmL, hdL⟩ := datList q1
      repeat walk_at "m"
      refine callD hB (i := 63) rfl rfl ?_
      repeat walk_at "m"
      rename W s.heap _ L _ _ _ _ => W11
      refine ⟨W11.keep, ctrW W11 hB (hA1.le (by decide)) (half_ok' R.w2 R.f2 _ _ hR.w2 hR.f2) ?_⟩
      intro v h12 tk12 fr12 W12 hsub12 hv12
      obtain ⟨a12, vs12, n12, rfl, hm12, hd12⟩ := datTup hv12
      cases hd12 with | cons p0 hd12 =>
      cases hd12 with | cons p1 hd12 =>
      cases hd12
      obtain ⟨y1, rfl⟩ := datStr p0
      refine unpackT hA1.hh W12 hm12 rfl rfl ?_
      intro h13 W13
      clear W12 W11
      obtain ⟨aR, vsR, nR, rfl, hmR, hdR⟩ := datList p1
      have hl1 := half_len2 R.w1 R.f1 hR.w1 hR.f1
      have hl2 := half_len2 R.w2 R.f2 hR.w2 hR.f2
      repeat walk_at "m"
      rw [show Str.ofString "hk" = S [104, 107] from rfl]
      refine item_W hR.host (by have := hR.host; omega) ?_
      intro u1 k1
      repeat walk_at "m"
      rw [show Str.ofString ".-_+" = S [46, 45, 95, 43] from rfl]
      refine item_W hR.sg (by have := hR.sg; omega) ?_
      intro u2 k2
      refine add_str ?_ ?_
      rotate_left
      · rw [S_length, S_length]; show _ + 1 ≤ _; omega
      intro u3 k3
      rw [S_append]
      repeat walk_at "m"
      refine add_str ?_ ?_
      rotate_left
      · rw [S_length, S_length, List.length_append]; show _ + 1 + _ ≤ _; omega
      intro u4 k4
      rw [S_append]
      repeat walk_at "m"
      rename W s.heap _ L _ _ _ _ => W14
      have t1 := things_len R.w1 R.f1
      have t2 := things_len R.w2 R.f2
      have t3 := hdL.length
      have t4 := hdR.length
      refine add_W W14 W14.frs (hsub12 _ hmL) hmR ?_ (by omega)
      intro D15 h15 W15
      repeat walk_at "m"
      refine newTupF W15 ?_ (Nat.le_of_ble_eq_true rfl); intro D16 h16 W16
      repeat walk_at "m"
      refine hQ _ _ _ _ W16.keep W16.frs W16.gr (DatIn.tuple (.head _) (.cons (.str _ _) (.cons ?_ (.cons (.str _ _) (.cons (DatIn.list (.tail _ (.head _)) ?_) (.cons (.int _ _) .nil))))))
      · exact hpc.mono fun p hp => .tail _ (.tail _ (hsub12 _ (hsub9 _ hp)))
      · exact (hdL.mono fun p hp => .tail _ (.tail _ (hsub12 _ hp))).append (hdR.mono fun p hp => .tail _ (.tail _ hp))
end
end
section -- F6
def upperL (b : List (List Nat)) : List (List Nat) := if b.getLast? = some [] then b.take (b.length - 1) else b
def coversB (b t : List (List Nat)) : Bool := decide (b = t) || (decide ((upperL b).length < t.length) && decide (t.take (upperL b).length = upperL b))
theorem map_sd_inj {a b : List (List Nat)} (h : a.map sd = b.map sd) : a = b := by
  induction a generalizing b with
  | nil => cases b with
    | nil => rfl
    | cons => cases h
  | cons x r ih => cases b with
    | nil => cases h
    | cons y q =>
      simp only [List.map_cons, List.cons.injEq, sd, Dat.str.injEq] at h
      rw [S_inj h.1, ih h.2]
theorem okM {b : List (List Nat)} (h : ∀ x ∈ b, okL x) : ∀ d ∈ b.map sd, kqdOk 8 d = true := by
  intro d hd
  obtain ⟨x, hx, rfl⟩ := List.mem_map.mp hd
  exact okD (h x hx) 8

theorem AOk.room {A : Around} {n : Nat} (x : AOk A n) : A.units + 64 < cLine := by have := x.un; omega
def lastL (b : List (List Nat)) : List Nat := b.getLast?.getD []
theorem last_some {b : List (List Nat)} (hb : 0 < b.length) : b.getLast? = some (lastL b) := by
  unfold lastL
  cases e : b.getLast? with
  | some y => rfl
  | none => rw [List.getLast?_eq_none_iff] at e; rw [e] at hb; cases hb
theorem last_map {b : List (List Nat)} (hb : 0 < b.length) : (b.map sd)[(b.map sd).length - 1]? = some (sd (lastL b)) := by
  rw [List.length_map, List.getElem?_map, ← List.getLast?_eq_getElem?, last_some hb]
  rfl
section
variable {prog : Program} {w : World}
set_option maxHeartbeats 2000000
theorem covers_ok {fr : Led} {v1 v2 : Value} {b t : List (List Nat)} (h1 : DatIn fr v1 (.list (b.map sd))) (h2 : DatIn fr v2 (.list (t.map sd))) (hb : b ≠ []) (ob : ∀ x ∈ b, okL x) (ot : ∀ x ∈ t, okL x) (lb : b.length ≤ 100) (lt : t.length ≤ 100) :
    Ctr prog w 1 153 [v1, v2] fr (fun fr' r => r = .bool (coversB b t)) := by
  obtain ⟨a, vs, n, rfl, hm, hd⟩ := datList h1
  obtain ⟨a2, vs2, n2, rfl, hm2, hd2⟩ := datList h2
  have hl1 : vs.length = b.length := by have := hd.length; simpa using this
  have hl2 : vs2.length = t.length := by have := hd2.length; simpa using this
  have hline : 2000 ≤ sizeLine := Nat.le_of_ble_eq_true rfl
  have hpos : 0 < b.length := List.length_pos_iff.mpr hb
  intro A s Q E hA hB hF hQ
  refine' enter (n := 0) (fr := fr) 80 [(Str.ofString "base", .ref a), (Str.ofString "test", .ref a2)] hA hB hF ?h1 ?h2 ?h3 ?h4 ?h5 ?h6 ?h7 ?h8 ?h9 ?h10
  walk_at "ent"
  case h6 =>
    intro L h₁ tk hW hB1 hA1
    refine wpAny_execs_cons (wpAny_mono (E := fun _ _ => False) (Q := fun f s' => f = .next ∧ ∃ aU fr' bs h' tk', s' = { s with heap := h', toks := tk' } ∧ (∀ p ∈ fr, p ∈ fr') ∧ W s.heap fr L (mp bs) [] fr' h' ∧ DatIn fr' (.ref aU) (.list ((upperL b).map sd)) ∧ mp bs (Str.ofString "upper") = some (.ref aU) ∧ mp bs (Str.ofString "base") = some (.ref a) ∧ mp bs (Str.ofString "test") = some (.ref a2)) ?_ (fun f s' hm => ?_) fun _ _ q => q)
    · repeat walk_at "m"
      refine sub_last (W.frs (by assumption)) hm hd (last_map hpos) ?_
      intro v hv
      obtain ⟨tv, rfl⟩ := datStr hv
      repeat walk_at "m"
      rw [lit_nil, S_beq]
      refine iteD (fun hn => ?_) (fun hn => ?_)
      · have hup : upperL b = b.take (b.length - 1) := by
          unfold upperL
          rw [if_pos (by rw [last_some hpos, hn])]
        repeat walk_at "m"
        refine sliceL_W rfl (by assumption) hm .none (.int _ _) (by omega) ?_
        intro D3 h3 W3
        rw [pick_init] at W3
        repeat walk_at "m"
        refine ⟨rfl, D3, _, _, _, _, rfl, fun p hp => .tail _ hp, by assumption, ?_, mp_eq _ _ _, by walk_at "lk", by walk_at "lk"⟩
        rw [hup, List.map_take, hl1]
        exact DatIn.list (.head _) ((DatAll.takeD hd _).mono fun p hp => .tail _ hp)
      · have hup : upperL b = b := by
          unfold upperL
          rw [if_neg]
          intro e
          rw [last_some hpos] at e
          exact hn (Option.some.inj e)
        repeat walk_at "m"
        exact ⟨rfl, a, _, _, _, _, rfl, fun p hp => hp, by assumption, by rw [hup]; exact h1, mp_eq _ _ _, by walk_at "lk", by walk_at "lk"⟩
    · obtain ⟨rfl, aU, fr', bs, h', tk', rfl, hsub, W2, hU, f1, f2, f3⟩ := hm
      obtain ⟨_, vsU, nU, e, hmU, hdU⟩ := datList hU
      cases e
      have oU : ∀ x ∈ upperL b, okL x := by
        intro x hx
        unfold upperL at hx
        split at hx
        · exact ob x (List.mem_of_mem_take hx)
        · exact ob x hx
      have lU : (upperL b).length ≤ b.length := by
        unfold upperL
        split
        · rw [List.length_take]; omega
        · omega
      have hlU : vsU.length = (upperL b).length := by have := hdU.length; simpa using this
      dsimp only
      repeat walk_at "m"
      refine eqL_W W2 (h1.mono hsub) (h2.mono hsub) (okM ob) (okM ot) hA1.room ?_
      intro c hc
      have hc' : c = decide (b = t) := by
        rw [Bool.eq_iff_iff, hc, decide_eq_true_iff]
        exact ⟨map_sd_inj, fun e => by rw [e]⟩
      subst hc'
      repeat walk_at "m"
      refine iteD (fun hbt => ?_) (fun hbt => ?_)
      · repeat walk_at "m"
        refine hQ _ _ _ _ W2.keep W2.frs W2.gr ?_
        show _ = _
        unfold coversB
        rw [decide_eq_true hbt, Bool.true_or]
      · repeat walk_at "m"
        refine nmU hB W2 (by rfl) PyProof.Rows.Boot.«len» (by decide) ?_
        refine PyProof.Rows.callWith_builtin1 ?_
        repeat walk_at "m"
        refine len_list (isList_of W2.frs (hsub _ hm2)) (by rw [List.size_toArray]; omega) ?_
        repeat walk_at "m"
        refine nmU hB W2 (by rfl) PyProof.Rows.Boot.«len» (by decide) ?_
        refine PyProof.Rows.callWith_builtin1 ?_
        repeat walk_at "m"
        refine len_list (isList_of W2.frs hmU) (by rw [List.size_toArray]; omega) ?_
        repeat walk_at "m"
        refine iteD (fun hlen => ?_) (fun hlen => ?_)
        · rw [List.size_toArray, List.size_toArray, hl2, hlU] at hlen
          repeat walk_at "m"
          refine nmU hB W2 (by rfl) PyProof.Rows.Boot.«len» (by decide) ?_
          refine PyProof.Rows.callWith_builtin1 ?_
          repeat walk_at "m"
          refine len_list (isList_of W2.frs hmU) (by rw [List.size_toArray]; omega) ?_
          repeat walk_at "m"
          refine sliceL_W rfl (by assumption) (hsub _ hm2) .none (.int _ _) (by omega) ?_
          intro D3 h3 W3
          rw [List.size_toArray, hlU, pick_to] at W3
          repeat walk_at "m"
          have hD3 : DatIn ((D3, listOf (List.take (upperL b).length vs2).toArray 0) :: fr') (.ref D3) (.list ((t.take (upperL b).length).map sd)) := by
            rw [List.map_take]
            exact DatIn.list (.head _) ((DatAll.takeD hd2 _).mono fun p hp => .tail _ (hsub _ hp))
          refine eqL_W W3 hD3 (hU.mono fun p hp => .tail _ hp) (okM fun x hx => ot x (List.mem_of_mem_take hx)) (okM oU) hA1.room ?_
          intro c hc
          have hc' : c = decide (t.take (upperL b).length = upperL b) := by
            rw [Bool.eq_iff_iff, hc, decide_eq_true_iff]
            exact ⟨map_sd_inj, fun e => by rw [e]⟩
          subst hc'
          repeat walk_at "m"
          refine hQ _ _ _ _ W3.keep W3.frs W3.gr ?_
          show _ = _
          unfold coversB
          rw [decide_eq_false hbt, Bool.false_or, decide_eq_true (by omega : (upperL b).length < t.length), Bool.true_and]
        · rw [List.size_toArray, List.size_toArray, hl2, hlU] at hlen
          repeat walk_at "m"
          refine hQ _ _ _ _ W2.keep W2.frs W2.gr ?_
          show _ = _
          unfold coversB
          rw [decide_eq_false hbt, Bool.false_or, decide_eq_false (by omega : ¬ (upperL b).length < t.length), Bool.false_and]
          rw [List.size_toArray, List.size_toArray, hl2, hlU, decide_eq_false hlen]
end
end
section -- F7
structure PS where
  res : List (List Nat)
  part : List Nat
  esc : Bool
  quo : Bool
def stepP (p : PS) (c : Nat) : PS :=
  if p.esc then { p with part := p.part ++ [c], esc := false }
  else if p.quo then
    if c = 92 then { p with esc := true }
    else if c = 34 then { p with part := p.part ++ [c], quo := false }
    else { p with part := p.part ++ [c] }
  else if c = 44 then { p with res := p.res ++ [p.part], part := [] }
  else if c = 34 then { p with part := p.part ++ [c], quo := true }
  else { p with part := p.part ++ [c] }
def runP (l : List Nat) : PS := l.foldl stepP ⟨[], [], false, false⟩
def endP (p : PS) : List (List Nat) := if p.part = [] then p.res else p.res ++ [p.part]
theorem runP_snoc {l : List Nat} {i c : Nat} (h : l[i]? = some c) : runP (l.take (i + 1)) = stepP (runP (l.take i)) c := by
  unfold runP
  rw [take_snoc h, List.foldl_append]; rfl
theorem stepP_len (p : PS) (c : Nat) : (stepP p c).part.length ≤ p.part.length + 1 ∧ (stepP p c).res.length ≤ p.res.length + 1 := by
  unfold stepP
  repeat' split
  all_goals simp
theorem runP_len (l : List Nat) : (runP l).part.length ≤ l.length ∧ (runP l).res.length ≤ l.length := by
  have : ∀ (l : List Nat) (p : PS), (l.foldl stepP p).part.length ≤ p.part.length + l.length ∧ (l.foldl stepP p).res.length ≤ p.res.length + l.length := by
    intro l
    induction l with
    | nil => intro p; simp
    | cons c r ih =>
      intro p
      have h1 := ih (stepP p c)
      have h2 := stepP_len p c
      simp only [List.foldl_cons, List.length_cons]
      omega
  have := this l ⟨[], [], false, false⟩
  simpa [runP] using this

theorem runP_parts (l : List Nat) : ∀ x ∈ (runP l).res, x.length ≤ l.length := by
  have : ∀ (l : List Nat) (p : PS) (k : Nat), p.part.length ≤ k → (∀ x ∈ p.res, x.length ≤ k) → ∀ x ∈ (l.foldl stepP p).res, x.length ≤ k + l.length := by
    intro l
    induction l with
    | nil => intro p k h1 h2 x hx; exact h2 x hx
    | cons c r ih =>
      intro p k h1 h2 x hx
      have h3 := stepP_len p c
      have h4 : ∀ x ∈ (stepP p c).res, x.length ≤ k + 1 := by
        intro y hy
        unfold stepP at hy
        repeat' split at hy
        all_goals first
          | exact Nat.le_succ_of_le (h2 y hy)
          | (rcases List.mem_append.mp hy with hy | hy
             · exact Nat.le_succ_of_le (h2 y hy)
             · rw [List.mem_singleton.mp hy]; omega)
      have := ih (stepP p c) (k + 1) (by omega) h4 x hx
      rw [List.length_cons]; omega
  intro x hx
  have := this l ⟨[], [], false, false⟩ 0 (Nat.le_refl _) (fun _ h => by cases h) x hx
  omega
section
variable {prog : Program} {w : World}
set_option maxHeartbeats 2000000
theorem http_ok {fr : Led} {l : List Nat} {t : Tok} (hl : l.length ≤ 100000) :
    Ctr prog w 1 113 [.str (S l) t] fr (fun fr' r => DatIn fr' r (.list ((endP (runP l)).map fun x => .str (Txt.strip (S x))))) := by
  have hline : 200000 ≤ sizeLine := Nat.le_of_ble_eq_true rfl
  intro A s Q E hA hB hF hQ
  refine' enter (n := 0) (fr := fr) 52 [(Str.ofString "s", .str (S l) t)] hA hB hF ?h1 ?h2 ?h3 ?h4 ?h5 ?h6 ?h7 ?h8 ?h9 ?h10
  walk_at "ent"
  case h6 =>
    intro L h₁ tk hW hB1 hA1
    repeat walk_at "m"
    refine newListM (by assumption) ?_ (Nat.le_of_ble_eq_true rfl); intro R h2 W2
    repeat walk_at "m"
    refine wpAny_Assign_two ?_
    repeat walk_at "m"
    refine wpAny_For ?_
    repeat walk_at "m"
    refine for_W (itv_str hA1.hh) (by assumption) (fun b hb => by cases hb)
      (fun i bs mu fr' => ∃ vs' c, mu = [(R, listOf (List.toArray vs') c)] ∧ fr' = fr ∧ DatAll [] vs' ((runP (l.take i)).res.map sd) ∧ mp bs (Str.ofString "res") = some (.ref R) ∧
        (∃ t, mp bs (Str.ofString "part") = some (.str (S (runP (l.take i)).part) t)) ∧ mp bs (Str.ofString "escape") = some (.bool (runP (l.take i)).esc) ∧ mp bs (Str.ofString "quote") = some (.bool (runP (l.take i)).quo))
      ⟨[], 0, rfl, rfl, .nil, by walk_at "lk", ⟨_, mp_ne (by decide) (mp_ne (by decide) (mp_eq _ _ _))⟩, by walk_at "lk", by walk_at "lk"⟩ ?_ ?_
    · rintro i x bs₁ mu₁ fr₁ I oI h tk5 hi ⟨c, u, hc, rfl⟩ ⟨vs', c0, rfl, rfl, hd, f1, ⟨tp, f2⟩, f3, f4⟩ hsub W5
      have hc' : l[i]? = some c := by simpa [S] using hc
      have hsn := runP_snoc hc'
      have hln := runP_len (l.take i)
      have hln2 : (l.take i).length ≤ l.length := by rw [List.length_take]; omega
      generalize runP (l.take i) = p at *
      generalize runP (l.take (i + 1)) = p' at *
      subst hsn
      have hS : (⟨#[c]⟩ : Str) = S [c] := rfl
      rw [hS] at W5
      have hdl := hd.length
      rw [List.length_map] at hdl
      have fin : ∀ h' bs' tk' t' vs'' c'', W s.heap fr₁ L (mp bs') [(I, oI), (R, listOf (List.toArray vs'') c'')] fr₁ h' → DatAll [] vs'' ((stepP p c).res.map sd) → mp bs' (Str.ofString "res") = some (.ref R) → mp bs' (Str.ofString "part") = some (.str (S (stepP p c).part) t') → mp bs' (Str.ofString "escape") = some (.bool (stepP p c).esc) → mp bs' (Str.ofString "quote") = some (.bool (stepP p c).quo) →
          ∃ bs'' mu'' fr'' h'' tk'', ({ s with heap := h', toks := tk' } : Shared) = { s with heap := h'', toks := tk'' } ∧ (∀ p ∈ fr₁, p ∈ fr'') ∧ W s.heap fr₁ L (mp bs'') ((I, oI) :: mu'') fr'' h'' ∧ ∃ vs' c₁, mu'' = [(R, listOf (List.toArray vs') c₁)] ∧ fr'' = fr₁ ∧ DatAll [] vs' ((stepP p c).res.map sd) ∧ mp bs'' (Str.ofString "res") = some (.ref R) ∧
            (∃ t, mp bs'' (Str.ofString "part") = some (.str (S (stepP p c).part) t)) ∧ mp bs'' (Str.ofString "escape") = some (.bool (stepP p c).esc) ∧ mp bs'' (Str.ofString "quote") = some (.bool (stepP p c).quo) := by
        intro h' bs' tk' t' vs'' c'' w' g0 g1 g2 g3 g4
        exact ⟨bs', _, fr₁, h', tk', rfl, fun _ q => q, w', vs'', c'', rfl, rfl, g0, g1, ⟨t', g2⟩, g3, g4⟩
      have szp : (S p.part).length + (S [c]).length ≤ sizeLine := by rw [S_length, S_length]; show _ + 1 ≤ _; omega
      rw [lit_bs, lit_qt]
      repeat walk_at "m"
      refine iteB (fun he => ?_) (fun he => ?_)
      · have hst : stepP p c = { p with part := p.part ++ [c], esc := false } := by unfold stepP; rw [if_pos he]
        repeat walk_at "m"
        refine PyProof.Rows.iadd_str ?_ szp
        intro t4 k4
        rw [S_append]
        repeat walk_at "m"
        refine fin _ _ _ t4 _ _ (by assumption) (by rw [hst]; exact hd) (by walk_at "lk") (by rw [hst]; walk_at "lk") (by rw [hst]; walk_at "lk") (by rw [hst]; walk_at "lk")
      repeat walk_at "m"
      refine iteB (fun hq => ?_) (fun hq => ?_)
      · repeat walk_at "m"
        rw [S_beq]
        refine iteD (fun h92 => ?_) (fun h92 => ?_)
        · have h92 : c = 92 := by simpa using h92
          have hst : stepP p c = { p with esc := true } := by unfold stepP; rw [if_neg (by rw [he]; decide), if_pos hq, if_pos h92]
          repeat walk_at "m"
          refine fin _ _ _ tp _ _ (by assumption) (by rw [hst]; exact hd) (by walk_at "lk") (by rw [hst]; walk_at "lk") (by rw [hst]; walk_at "lk") (by rw [hst]; walk_at "lk")
        · have h92 : c ≠ 92 := by simpa using h92
          repeat walk_at "m"
          rw [S_beq]
          refine iteD (fun h34 => ?_) (fun h34 => ?_)
          · have h34 : c = 34 := by simpa using h34
            have hst : stepP p c = { p with part := p.part ++ [c], quo := false } := by unfold stepP; rw [if_neg (by rw [he]; decide), if_pos hq, if_neg h92, if_pos h34]
            repeat walk_at "m"
            refine PyProof.Rows.iadd_str ?_ szp
            intro t4 k4
            rw [S_append]
            repeat walk_at "m"
            refine fin _ _ _ t4 _ _ (by assumption) (by rw [hst]; exact hd) (by walk_at "lk") (by rw [hst]; walk_at "lk") (by rw [hst]; walk_at "lk") (by rw [hst]; walk_at "lk")
          · have h34 : c ≠ 34 := by simpa using h34
            have hst : stepP p c = { p with part := p.part ++ [c] } := by unfold stepP; rw [if_neg (by rw [he]; decide), if_pos hq, if_neg h92, if_neg h34]
            repeat walk_at "m"
            refine PyProof.Rows.iadd_str ?_ szp
            intro t4 k4
            rw [S_append]
            repeat walk_at "m"
            refine fin _ _ _ t4 _ _ (by assumption) (by rw [hst]; exact hd) (by walk_at "lk") (by rw [hst]; walk_at "lk") (by rw [hst]; walk_at "lk") (by rw [hst]; walk_at "lk")
      · have hq' : ¬ p.quo = true := by rw [hq]; decide
        repeat walk_at "m"
        rw [show Str.ofString "," = S [44] from rfl, S_beq]
        refine iteD (fun h44 => ?_) (fun h44 => ?_)
        · have h44 : c = 44 := by simpa using h44
          have hst : stepP p c = { p with res := p.res ++ [p.part], part := [] } := by unfold stepP; rw [if_neg (by rw [he]; decide), if_neg hq', if_pos h44]
          repeat walk_at "m"
          refine getM_append (W.mus (by assumption)) (.tail _ (.head _)) ?_
          dsimp only
          refine callWith_method1 ?_
          repeat walk_at "m"
          refine append_W W5.swap (by omega) ?_
          intro h7 W7
          have W8 := W7.swap
          clear W7 W5
          repeat walk_at "m"
          refine fin _ _ _ _ _ _ (by assumption) (by rw [hst, List.map_append]; exact hd.append (.cons (.str _ _) .nil)) (by walk_at "lk") (by rw [hst]; exact mp_eq _ _ _) (by rw [hst]; walk_at "lk") (by rw [hst]; walk_at "lk")
        · have h44 : c ≠ 44 := by simpa using h44
          repeat walk_at "m"
          rw [S_beq]
          refine iteD (fun h34 => ?_) (fun h34 => ?_)
          · have h34 : c = 34 := by simpa using h34
            have hst : stepP p c = { p with part := p.part ++ [c], quo := true } := by unfold stepP; rw [if_neg (by rw [he]; decide), if_neg hq', if_neg h44, if_pos h34]
            repeat walk_at "m"
            refine PyProof.Rows.iadd_str ?_ szp
            intro t4 k4
            rw [S_append]
            repeat walk_at "m"
            refine fin _ _ _ t4 _ _ (by assumption) (by rw [hst]; exact hd) (by walk_at "lk") (by rw [hst]; walk_at "lk") (by rw [hst]; walk_at "lk") (by rw [hst]; walk_at "lk")
          · have h34 : c ≠ 34 := by simpa using h34
            have hst : stepP p c = { p with part := p.part ++ [c] } := by unfold stepP; rw [if_neg (by rw [he]; decide), if_neg hq', if_neg h44, if_neg h34]
            repeat walk_at "m"
            refine PyProof.Rows.iadd_str ?_ szp
            intro t4 k4
            rw [S_append]
            repeat walk_at "m"
            refine fin _ _ _ t4 _ _ (by assumption) (by rw [hst]; exact hd) (by walk_at "lk") (by rw [hst]; walk_at "lk") (by rw [hst]; walk_at "lk") (by rw [hst]; walk_at "lk")
    · rintro bs₁ mu₁ fr₁ h tk5 ⟨vs', c0, rfl, rfl, hd, f1, ⟨tp, f2⟩, f3, f4⟩ hsub W5
      rw [show (S l).cps.size = l.length by simp [S], List.take_length] at *
      have hln := runP_len l
      have hpt := runP_parts l
      generalize runP l = p at *
      have hdl := hd.length
      rw [List.length_map] at hdl
      repeat walk_at "m"
      refine P.truthy_str (by rw [S_length]; omega) ?_
      have hne : (((S p.part).length : Int) != 0) = decide (p.part ≠ []) := by
        rw [S_length]
        cases p.part with
        | nil => rfl
        | cons a b => simp; omega
      rw [hne]
      have hsz : ∀ x ∈ endP p, x.length ≤ 100000 := by
        intro x hx
        unfold endP at hx
        split at hx
        · have := hpt x hx; omega
        · rcases List.mem_append.mp hx with hx | hx
          · have := hpt x hx; omega
          · rw [List.mem_singleton.mp hx]; omega
      have hel : (endP p).length ≤ p.res.length + 1 := by unfold endP; split <;> simp
      refine iteD (fun hp => ?_) (fun hp => ?_)
      · have hend : endP p = p.res ++ [p.part] := by unfold endP; rw [if_neg hp]
        repeat walk_at "m"
        refine getM_append (W.mus (by assumption)) (.head _) ?_
        dsimp only
        refine callWith_method1 ?_
        repeat walk_at "m"
        refine append_W W5 (by omega) ?_
        intro h7 W7
        have hd7 : DatAll [] (vs' ++ [.str (S p.part) tp]) ((endP p).map sd) := by rw [hend, List.map_append]; exact hd.append (.cons (.str _ _) .nil)
        clear W5
        repeat walk_at "m"
        have W9 := W7.freeze
        refine' lcE [] ?c1 ?h ?c2 ?c3 ?c4 ?c5 ?c6
        walk_at "lc"
        case h =>
        repeat walk_at "m"
        have he2 := hd7.length
        rw [List.length_map] at he2
        refine CompE.mk (fun i => some (.str (Txt.strip (S ((endP p).getD i []))))) W9 (itv_list hA1.hh (isList_of W9.frs (.head _))) (fun b hb => by rw [List.mem_singleton.mp hb]; exact ⟨_, W9.frs _ (.head _)⟩) (by rw [List.size_toArray]; omega) ?_ ?_
        · rintro C i v fr₁ mu₁ h tk E' hi hv hsub W10
          rw [List.size_toArray, he2] at hi
          have hv' := itemD hd7 (by simpa using hi) hv
          simp only [List.getElem_map] at hv'
          obtain ⟨tv, rfl⟩ := datStr hv'
          refine tests_nil (ite_tt ?_)
          repeat walk_at "m"
          refine GM.strip ?_
          dsimp only
          refine callWith_method0 ?_
          refine SC.strip ?_ (by rw [S_length]; have := hsz _ (List.getElem_mem hi); omega)
          intro t11 k11
          refine ⟨_, _, _, rfl, fun _ q => q, W10, _, rfl, ?_⟩
          rw [List.getD_eq_getElem?_getD, List.getElem?_eq_getElem hi]
          exact .str _ _
        · intro D h tk fr' W10 hsub10 hD
          dsimp only
          refine hQ _ _ _ _ W10.keep W10.frs W10.gr ?_
          have e : (List.range (List.toArray (vs' ++ [Value.str (S p.part) tp])).size).filterMap (fun i => some (Dat.str (Txt.strip (S ((endP p).getD i []))))) = (endP p).map fun x => Dat.str (Txt.strip (S x)) := by
            rw [List.size_toArray, he2, List.filterMap_eq_map']
            apply List.ext_getElem?
            intro j
            simp only [List.getElem?_map, List.getElem?_range]
            rcases Nat.lt_or_ge j (endP p).length with hj | hj
            · rw [List.getElem?_range hj, List.getElem?_eq_getElem hj]; simp [hj]
            · rw [List.getElem?_eq_none (by simpa using hj), List.getElem?_eq_none hj]; rfl
          rw [← e]
          exact hD
      · have hend : endP p = p.res := by unfold endP; rw [if_pos (by simpa using hp)]
        have hd7 : DatAll [] vs' ((endP p).map sd) := by rw [hend]; exact hd
        repeat walk_at "m"
        have W9 := W5.freeze
        refine' lcE [] ?c1 ?h ?c2 ?c3 ?c4 ?c5 ?c6
        walk_at "lc"
        case h =>
        repeat walk_at "m"
        have he2 := hd7.length
        rw [List.length_map] at he2
        refine CompE.mk (fun i => some (.str (Txt.strip (S ((endP p).getD i []))))) W9 (itv_list hA1.hh (isList_of W9.frs (.head _))) (fun b hb => by rw [List.mem_singleton.mp hb]; exact ⟨_, W9.frs _ (.head _)⟩) (by rw [List.size_toArray]; omega) ?_ ?_
        · rintro C i v fr₁ mu₁ h tk E' hi hv hsub W10
          rw [List.size_toArray, he2] at hi
          have hv' := itemD hd7 (by simpa using hi) hv
          simp only [List.getElem_map] at hv'
          obtain ⟨tv, rfl⟩ := datStr hv'
          refine tests_nil (ite_tt ?_)
          repeat walk_at "m"
          refine GM.strip ?_
          dsimp only
          refine callWith_method0 ?_
          refine SC.strip ?_ (by rw [S_length]; have := hsz _ (List.getElem_mem hi); omega)
          intro t11 k11
          refine ⟨_, _, _, rfl, fun _ q => q, W10, _, rfl, ?_⟩
          rw [List.getD_eq_getElem?_getD, List.getElem?_eq_getElem hi]
          exact .str _ _
        · intro D h tk fr' W10 hsub10 hD
          dsimp only
          refine hQ _ _ _ _ W10.keep W10.frs W10.gr ?_
          have e : (List.range (List.toArray vs').size).filterMap (fun i => some (Dat.str (Txt.strip (S ((endP p).getD i []))))) = (endP p).map fun x => Dat.str (Txt.strip (S x)) := by
            rw [List.size_toArray, he2, List.filterMap_eq_map']
            apply List.ext_getElem?
            intro j
            simp only [List.getElem?_map, List.getElem?_range]
            rcases Nat.lt_or_ge j (endP p).length with hj | hj
            · rw [List.getElem?_range hj, List.getElem?_eq_getElem hj]; simp [hj]
            · rw [List.getElem?_eq_none (by simpa using hj), List.getElem?_eq_none hj]; rfl
          rw [← e]
          exact hD
end
end
section -- D1
open PySem.StrLaws PySem.Builtin PySem.Builtin.Str in
theorem occ_done (s sub : Str) (hi : Nat) : ∀ (l : List Nat) (a free : Nat), (forIn l ((#[a] : Array Nat), free) (occBody s sub hi 1)).run.fst = #[a]
  | [], _, _ => rfl
  | x :: l, a, free => by
    rw [List.forIn_cons]
    unfold occBody
    rw [if_neg (fun h => absurd h.1.1.1 (by simp))]
    exact occ_done s sub hi l a free
open PySem.StrLaws PySem.Builtin PySem.Builtin.Str in
theorem occ_first (s sub : Str) (hi : Nat) : ∀ (a : List Nat) (j : Nat) (b : List Nat) (free : Nat), (∀ i ∈ a, free ≤ i) → free ≤ j → (∀ i ∈ a, subAt s sub i = false) → j + sub.length ≤ hi → subAt s sub j = true →
    (forIn (a ++ j :: b) ((#[] : Array Nat), free) (occBody s sub hi 1)).run.fst = #[j]
  | [], j, b, free, _, h1, _, h3, h4 => by
    rw [List.nil_append, List.forIn_cons]
    unfold occBody
    rw [if_pos ⟨⟨⟨by simp, h1⟩, h3⟩, h4⟩]
    exact occ_done s sub hi b j _
  | x :: a, j, b, free, h0, h1, h2, h3, h4 => by
    rw [List.cons_append, List.forIn_cons]
    unfold occBody
    rw [if_neg (fun h => by have := h2 x (.head _); rw [this] at h; exact absurd h.2 (by decide))]
    exact occ_first s sub hi a j b free (fun i hi => h0 i (.tail _ hi)) h1 (fun i hi => h2 i (.tail _ hi)) h3 h4
theorem subAt_S (l : List Nat) (c i : Nat) : Builtin.Str.subAt (S l) (S [c]) i = decide (l[i]? = some c) := by
  unfold Builtin.Str.subAt
  rw [S_length]
  have e : (S l).cps.extract i (i + [c].length) = ((l.drop i).take 1).toArray := by simp [S]
  rw [e]
  show (((l.drop i).take 1).toArray == [c].toArray) = _
  rw [Bool.eq_iff_iff, beq_iff_eq, decide_eq_true_iff]
  cases h : l[i]? with
  | none =>
    have : l.length ≤ i := by simpa using h
    rw [List.drop_of_length_le this]
    simp
  | some d =>
    have hlt : i < l.length := by
      rcases Nat.lt_or_ge i l.length with q | q
      · exact q
      · rw [List.getElem?_eq_none q] at h; cases h
    rw [List.getElem?_eq_getElem hlt] at h
    rw [List.drop_eq_getElem_cons hlt, Option.some.inj h]
    simp
theorem occ_at {k v : List Nat} {c : Nat} (hk : c ∉ k) : Builtin.Str.occurrences (S (k ++ c :: v)) (S [c]) 0 (S (k ++ c :: v)).length 1 = [k.length] := by
  rw [PySem.StrLaws.occ_eq]
  have e : List.range' 0 ((S (k ++ c :: v)).length + 1 - 0) = List.range' 0 k.length ++ k.length :: List.range' (k.length + 1) (v.length + 1) := by
    rw [S_length]
    simp only [List.length_append, List.length_cons]
    rw [show k.length + (v.length + 1) + 1 - 0 = k.length + (1 + (v.length + 1)) by omega, ← List.range'_append_1, ← List.range'_append_1]
    simp [List.range']
  rw [e, occ_first]
  · intro i hi; omega
  · omega
  · intro i hi
    rw [subAt_S, decide_eq_false_iff_not]
    intro h
    have hlt : i < k.length := by simp [List.mem_range'] at hi; omega
    rw [List.getElem?_append_left hlt] at h
    exact hk (List.mem_of_getElem? h)
  · rw [S_length, S_length]; simp
  · rw [subAt_S, decide_eq_true_iff]; simp
section
variable {prog : Program} {w : World} {A : Around} {E : Value → Shared → Prop} {s : Shared} {h₀ : Heap} {m : Str → Option Value} {mu fr fr₀ : Led} {L : Addr} {env : Env}
theorem split1_W {k v : List Nat} {c : Nat} {t u u2 : Tok} {Q : Value → Shared → Prop} (hk : c ∉ k) (hc : c < 256) (hsz : k.length + v.length + 3 ≤ sizeLine) (hW : W h₀ fr₀ L m mu fr s.heap)
    (h : ∀ D t1 t2 h' tk, W h₀ fr₀ L m mu ((D, listOf [Value.str (S k) t1, .str (S v) t2].toArray 0) :: fr) h' → Q (.ref D) { s with heap := h', toks := tk }) :
    wpAny (model prog w) A (call (.builtin "str.split") [.str (S (k ++ c :: v)) t, .str (S [c]) u, .int 1 u2]) Q E s := by
  have ho := occ_at (v := v) hk
  have hl : limitOf (S (k ++ c :: v)) 1 = 1 := rfl
  have hlen : (S (k ++ c :: v)).length = k.length + v.length + 1 := by rw [S_length]; simp; omega
  have hp : Builtin.Str.partsBetween (S (k ++ c :: v)) [k.length] (S [c]).length = [S k, S v] := by
    unfold Builtin.Str.partsBetween Builtin.Str.strSub
    rw [S_length [c], S_length (k ++ c :: v)]
    simp [S]
    exact List.take_of_length_le (by omega)
  refine call_meets PySem.F.slot_str_split (typeIs_str _ _ _) PySem.F.entry_str_split (PySem.F.args_str_split_3 _ _ _) (meets_str_split_sep_max (S (k ++ c :: v)) (S [c]) 1 t u u2 (by decide) ?_ ?_ ?_ (by rw [hlen]; omega) ?_) ?_
  · rw [hlen, S_length]
    have : Builtin.Str.strKind (S [c]) = 1 := by unfold Builtin.Str.strKind; simp [S, hc]
    rw [this]
    have h2 : 1 ≤ Builtin.Str.strKind (S (k ++ c :: v)) := by unfold Builtin.Str.strKind; split <;> (try split) <;> omega
    simp; omega
  · rw [S_length]; rfl
  · rw [hl, ho]; rfl
  · rw [hl, ho, hp]; simp; omega
  · show wants Q E _ _
    rw [hl, ho, hp]
    have W1 := hW.pushF (listOf [Value.str (S k) s.toks, .str (S v) (s.toks + 1)].toArray 0)
    exact h _ _ _ _ _ W1
end
end
section -- D2
def storeP {β : Type} (kvs : List (List Nat × β)) (k : List Nat) (v : β) : List (List Nat × β) :=
  if kvs.any (fun p => decide (p.1 = k)) then kvs.map (fun p => if p.1 = k then (p.1, v) else p) else kvs ++ [(k, v)]
def findP {β : Type} (kvs : List (List Nat × β)) (k : List Nat) : Option β := (kvs.find? fun p => decide (p.1 = k)).map (·.2)
/-- the pairs of a dict and their data -/
inductive DP (fr : Led) : List (Str × Value) → List (List Nat × Dat) → Prop
  | nil : DP fr [] []
  | cons {k : List Nat} {v : Value} {d : Dat} {r : List (Str × Value)} {q : List (List Nat × Dat)} : DatIn fr v d → DP fr r q → DP fr ((S k, v) :: r) ((k, d) :: q)
theorem S_eq_iff {a b : List Nat} : S a = S b ↔ a = b := ⟨S_inj, fun h => by rw [h]⟩
section
variable {fr fr' : Led} {kvs : List (Str × Value)} {kds : List (List Nat × Dat)}
theorem DP.mono (h : DP fr kvs kds) (hs : ∀ p ∈ fr, p ∈ fr') : DP fr' kvs kds := by
  induction h with
  | nil => exact .nil
  | cons hd _ ih => exact .cons (hd.mono hs) ih
theorem DP.length (h : DP fr kvs kds) : kvs.length = kds.length := by
  induction h with
  | nil => rfl
  | cons _ _ ih => simp [ih]
theorem DP.snoc (h : DP fr kvs kds) {k : List Nat} {v : Value} {d : Dat} (hd : DatIn fr v d) : DP fr (kvs ++ [(S k, v)]) (kds ++ [(k, d)]) := by
  induction h with
  | nil => exact .cons hd .nil
  | cons hx _ ih => exact .cons hx ih
theorem DP.any (h : DP fr kvs kds) (k : List Nat) : (kvs.any fun kv => decide (kv.1 = S k)) = kds.any fun p => decide (p.1 = k) := by
  induction h with
  | nil => rfl
  | cons _ _ ih => simp only [List.any_cons, ih, S_eq_iff]
theorem DP.mapStore (h : DP fr kvs kds) {k : List Nat} {v : Value} {d : Dat} (hd : DatIn fr v d) : DP fr (kvs.map fun kv => if kv.1 = S k then (kv.1, v) else kv) (kds.map fun p => if p.1 = k then (p.1, d) else p) := by
  induction h with
  | nil => exact .nil
  | @cons k' v' d' r q hx _ ih =>
    simp only [List.map_cons, S_eq_iff]
    by_cases e : k' = k
    · rw [if_pos e, if_pos e]; exact .cons hd ih
    · rw [if_neg e, if_neg e]; exact .cons hx ih
theorem DP.stored (h : DP fr kvs kds) {k : List Nat} {v : Value} {d : Dat} (hd : DatIn fr v d) : DP fr (PySem.stored kvs (S k) v) (storeP kds k d) := by
  unfold PySem.stored storeP
  rw [h.any k]
  split
  · exact h.mapStore hd
  · exact h.snoc hd
theorem DP.value (h : DP fr kvs kds) {k : List Nat} {d : Dat} (e : findP kds k = some d) : ∃ v, valueAt kvs (S k) = some v ∧ DatIn fr v d := by
  induction h with
  | nil => cases e
  | @cons k' v' d' r q hx _ ih =>
    unfold findP at e
    unfold valueAt
    rw [List.find?_cons] at e ⊢
    simp only [S_eq_iff]
    by_cases hk : k' = k
    · simp only [hk, decide_true] at e ⊢
      cases e
      exact ⟨v', rfl, hx⟩
    · simp only [hk, decide_false] at e ⊢
      exact ih e
theorem DP.get (h : DP fr kvs kds) {i : Nat} {k : Str} {v : Value} (e : kvs[i]? = some (k, v)) : ∃ k' d, k = S k' ∧ kds[i]? = some (k', d) ∧ DatIn fr v d := by
  induction h generalizing i with
  | nil => simp at e
  | @cons k' v' d' r q hx _ ih =>
    cases i with
    | zero => simp at e; obtain ⟨rfl, rfl⟩ := e; exact ⟨k', d', rfl, rfl, hx⟩
    | succ i => exact ih (by simpa using e)
end
/-- a dict of the ledger -/
def DicIn (prog : Program) (w : World) (fr : Led) (v : Value) (kds : List (List Nat × Dat)) : Prop :=
  ∃ a o kvs, v = .ref a ∧ (a, o) ∈ fr ∧ o.IsDictOf (PySem.strKind prog w) kvs ∧ DP fr kvs kds ∧ (a == sysModules) = false
section
variable {prog : Program} {w : World} {A : Around} {E : Value → Shared → Prop} {s : Shared} {h₀ : Heap} {m : Str → Option Value} {mu fr fr' fr₀ : Led} {L : Addr} {env : Env}
theorem DicIn.mono {v : Value} {kds : List (List Nat × Dat)} (h : DicIn prog w fr v kds) (hs : ∀ p ∈ fr, p ∈ fr') : DicIn prog w fr' v kds :=
  let ⟨a, o, kvs, h1, h2, h3, h4, h5⟩ := h; ⟨a, o, kvs, h1, hs _ h2, h3, h4.mono hs, h5⟩
theorem dictOf_at {h : Heap} {a : Addr} {o : Obj} {kvs : List (Str × Value)} (ho : h.get? a = some o) (hd : o.IsDictOf (PySem.strKind prog w) kvs) : h.DictOf (PySem.strKind prog w) a kvs := Heap.dictOf_iff.mpr ⟨o, ho, hd⟩
abbrev dict0 : Obj := { cls := .type "dict", data := .dict #[] }
theorem dict0_is : dict0.IsDictOf (PySem.strKind prog w) [] := by
  have := Heap.DictOf.new (knd := PySem.strKind prog w) { objs := #[] }
  obtain ⟨o, ho, hd⟩ := Heap.dictOf_iff.mp this
  rw [Heap.get?_push_size _ rfl] at ho
  cases ho
  exact hd
theorem newDictM {M : Model} {pos : Pos} {Q : Value → Shared → Prop} (hW : W h₀ fr₀ L m mu fr s.heap) (h : ∀ D h', D = s.heap.objs.size → W h₀ fr₀ L m ((D, dict0) :: mu) fr h' → Q (.ref D) { s with heap := h' }) : wpAny M A (eval (.Dict [] [] pos) env) Q E s :=
  wpAny_Dict_empty (h _ _ rfl (hW.pushM _))
theorem notSys {w : World} {g : Heap} {D : Addr} (hB : Bs w h₀) (k : Keep h₀ g) (hD : g.objs.size ≤ D) : (D == sysModules) = false := by
  have h2 := (hB.keep k).at (i := 0) (a := 2) rfl
  have h3 := Heap.lt_size h2
  rw [beq_eq_false_iff_ne]
  intro e
  rw [e] at hD
  exact absurd (Nat.lt_of_lt_of_le h3 hD) (by decide)
/-- a store into a dict that turns -/
theorem dictSet_W {d : Addr} {o : Obj} {kvs : List (Str × Value)} {kds : List (List Nat × Dat)} {k : List Nat} {t : Tok} {v : Value} {dv : Dat} {Q : Unit → Shared → Prop} (hW : W h₀ fr₀ L m ((d, o) :: mu) fr s.heap) (hd : o.IsDictOf (PySem.strKind prog w) kvs) (hp : DP fr kvs kds) (hv : DatIn fr v dv) (hsz : kds.length ≤ sizeLine)
    (h : ∀ h' tk o', W h₀ fr₀ L m ((d, o') :: mu) fr h' → o'.IsDictOf (PySem.strKind prog w) (stored kvs (S k) v) → DP fr (stored kvs (S k) v) (storeP kds k dv) → Q () { s with heap := h', toks := tk }) :
    wpAny (model prog w) A (dictSet d (.str (S k) t) v) Q E s := by
  refine wpAny_dictSet_pairs (knd := PySem.strKind prog w) (k := S k) (strKind_is prog w _ _) (dictOf_at (hW.mus _ (.head _)) hd) (fun h' hd' hs => ?_) (by rw [hp.length]; exact hsz)
  obtain ⟨o', ho', hd''⟩ := Heap.dictOf_iff.mp hd'
  exact h h' _ o' (hW.turn ho' hs.extBut) hd'' (hp.stored hv)
theorem setItem_W {d : Addr} {o : Obj} {kvs : List (Str × Value)} {kds : List (List Nat × Dat)} {k : List Nat} {t : Tok} {v : Value} {dv : Dat} {Q : Unit → Shared → Prop} (hW : W h₀ fr₀ L m ((d, o) :: mu) fr s.heap) (hd : o.IsDictOf (PySem.strKind prog w) kvs) (hp : DP fr kvs kds) (hv : DatIn fr v dv) (hsz : kds.length ≤ sizeLine)
    (h : ∀ h' tk o', W h₀ fr₀ L m ((d, o') :: mu) fr h' → o'.IsDictOf (PySem.strKind prog w) (stored kvs (S k) v) → DP fr (stored kvs (S k) v) (storeP kds k dv) → Q () { s with heap := h', toks := tk }) :
    wpAny (model prog w) A (setItem (.ref d) (.str (S k) t) v) Q E s := by
  refine wpAny_setItem_pairs (knd := PySem.strKind prog w) (k := S k) (strKind_is prog w _ _) (dictOf_at (hW.mus _ (.head _)) hd) (fun h' hd' hs => ?_) (by rw [hp.length]; exact hsz)
  obtain ⟨o', ho', hd''⟩ := Heap.dictOf_iff.mp hd'
  exact h h' _ o' (hW.turn ho' hs.extBut) hd'' (hp.stored hv)
/-- an item of a dict -/
theorem sub_dict {value slice : Expr} {d : Addr} {kds : List (List Nat × Dat)} {k : List Nat} {u : Tok} {dv : Dat} {led : Led} {Q : Value → Shared → Prop} (hl : LedIn s.heap led) (hd : DicIn prog w led (.ref d) kds) (hk : findP kds k = some dv)
    (h : ∀ v tk, DatIn led v dv → Q v { s with toks := tk })
    (hs : subscripted slice false (.ref d) (.str (S k) u) = operate [.ref d, .str (S k) u] (getItem (.ref d) (.str (S k) u)) := by with_unfolding_all rfl) :
    wpAny (model prog w) A (subscriptTail value slice (.ref d) (.str (S k) u)) Q E s := by
  obtain ⟨a, o, kvs, e, hm, ho, hp, hS⟩ := hd
  cases e
  have hd' := dictOf_at (hl _ hm) ho
  obtain ⟨v, hv, hdv⟩ := hp.value hk
  exact subT hd'.typeIs PySem.F.slot_dict_getitem.lookup (wpAny_getItem_of (knd := PySem.strKind prog w) (k := S k) (strKind_is prog w _ _) hd'.mapOf hv (h _ _ hdv)) hs
theorem itv_dic {d : Addr} {kds : List (List Nat × Dat)} {led : Led} (hh : A.handled = none) (hl : LedIn s.heap led) (hd : DicIn prog w led (.ref d) kds) :
    ItV prog w A s.heap (.ref d) [d] kds.length (fun i v => ∃ k x t, kds[i]? = some (k, x) ∧ v = .str (S k) t) := by
  obtain ⟨a, o, kvs, e, hm, ho, hp, hS⟩ := hd
  cases e
  have hd' := dictOf_at (hl _ hm) ho
  obtain ⟨ep, hat⟩ := hd'.dictAt
  have := itv_dict (A := A) hh hS hat
  rw [hp.length] at this
  intro s' Q E hs k
  refine this s' Q E hs fun oI St h1 Wk h2 h3 => k oI St h1 ?_ h2 h3
  refine { sub := Wk.sub, frame := Wk.frame, done := Wk.done, self := Wk.self, item := fun i s Q E hi st hQ => Wk.item i s Q E hi st fun v h' tk hP st' hk => hQ v h' tk ?_ st' hk }
  obtain ⟨k, x, hk1, hk2⟩ := hP
  obtain ⟨t, rfl⟩ := Value.isStrOf_shape hk2
  obtain ⟨k', d', rfl, h5, _⟩ := hp.get hk1
  exact ⟨k', d', t, h5, rfl⟩
end
end
section -- F8
/-- a pair as it is written: key, value, in quotes or not -/
abbrev KV := List Nat × List Nat × Bool
def rawOf (p : KV) : List Nat := p.1 ++ 61 :: (if p.2.2 then 34 :: (p.2.1 ++ [34]) else p.2.1)
structure KVok (p : KV) : Prop where
  key : 61 ∉ p.1
  bare : p.2.2 = false → p.2.1 ≠ [] ∧ p.2.1.head? ≠ some 34
  len : p.1.length + p.2.1.length ≤ 1000
def keqvL (ps : List KV) : List (List Nat × Dat) := ps.foldl (fun d p => storeP d p.1 (sd p.2.1)) []
theorem keqvL_snoc {ps : List KV} {i : Nat} {p : KV} (h : ps[i]? = some p) : keqvL (ps.take (i + 1)) = storeP (keqvL (ps.take i)) p.1 (sd p.2.1) := by
  unfold keqvL
  rw [List.take_add_one, h, List.foldl_append]
  rfl
theorem storeP_len {β : Type} (kvs : List (List Nat × β)) (k : List Nat) (v : β) : (storeP kvs k v).length ≤ kvs.length + 1 := by
  unfold storeP
  split <;> simp
theorem keqvL_len (ps : List KV) : (keqvL ps).length ≤ ps.length := by
  have : ∀ (ps : List KV) (d : List (List Nat × Dat)), (ps.foldl (fun d p => storeP d p.1 (sd p.2.1)) d).length ≤ d.length + ps.length := by
    intro ps
    induction ps with
    | nil => intro d; simp
    | cons p r ih =>
      intro d
      have h1 := ih (storeP d p.1 (sd p.2.1))
      have h2 := storeP_len d p.1 (sd p.2.1)
      simp only [List.foldl_cons, List.length_cons]
      omega
  simpa [keqvL] using this ps []
section
variable {prog : Program} {w : World} {A : Around} {E : Value → Shared → Prop} {s : Shared}
theorem item_last {value slice : Expr} {l : List Nat} {t u : Tok} {Q : Value → Shared → Prop} (hl : 0 < l.length) (h : ∀ t' tk, Q (.str (S [l.getD (l.length - 1) 0]) t') { s with toks := tk })
    (hs : subscripted slice false (.str (S l) t) (.int (-1) u) = operate [.str (S l) t, .int (-1) u] (getItem (.str (S l) t) (.int (-1) u)) := by with_unfolding_all rfl) :
    wpAny (model prog w) A (subscriptTail value slice (.str (S l) t) (.int (-1) u)) Q E s := by
  refine kba_turn (value' := anyN) (fun _ => rfl) (item_str (value := anyN) (by decide) (by rw [S_length]; omega) (by rw [S_length]; omega) (fun _ => ?_) hs (fun _ => rfl))
  have : Txt.item (S l) (-1) = S [l.getD (l.length - 1) 0] := by
    unfold Txt.item Txt.charAt seqIndex?
    rw [S_length]
    have e1 : (-1 : Int) < 0 := by decide
    have e2 : 0 ≤ (-1 : Int) + l.length := by omega
    have e3 : (-1 : Int) + l.length < l.length := by omega
    have e4 : ((-1 : Int) + l.length).toNat = l.length - 1 := by omega
    simp [e2, e3, e4, S]
  rw [this]; exact h _ _
end
section
variable {prog : Program} {w : World}
set_option maxHeartbeats 2000000
theorem keqv_ok {fr : Led} {v : Value} {ps : List KV} (hv : DatIn fr v (.list (ps.map fun p => sd (rawOf p)))) (hok : ∀ p ∈ ps, KVok p) (hn : ps.length ≤ 1000) :
    Ctr prog w 1 108 [v] fr (fun fr' r => DicIn prog w fr' r (keqvL ps)) := by
  obtain ⟨a, vs, n, rfl, hm, hd⟩ := datList hv
  have hvl : vs.length = ps.length := by have := hd.length; simpa using this
  have hline : 20000 ≤ sizeLine := Nat.le_of_ble_eq_true rfl
  intro A s Q E hA hB hF hQ
  refine' enter (n := 0) (fr := fr) 49 [(Str.ofString "l", .ref a)] hA hB hF ?h1 ?h2 ?h3 ?h4 ?h5 ?h6 ?h7 ?h8 ?h9 ?h10
  walk_at "ent"
  case h6 =>
    intro L h₁ tk hW hB1 hA1
    repeat walk_at "m"
    refine newDictM (by assumption) ?_; intro D h2 hDn W2
    have hDs := notSys hB1 (Keep.refl _) (Nat.le_of_eq hDn.symm)
    repeat walk_at "m"
    refine wpAny_For ?_
    repeat walk_at "m"
    refine for_W (itv_list hA1.hh (isList_of (W.frs (by assumption)) hm)) (by assumption) (fp1 hm)
      (fun i bs mu fr' => ∃ o kvs, mu = [(D, o)] ∧ o.IsDictOf (PySem.strKind prog w) kvs ∧ DP fr' kvs (keqvL (ps.take i)) ∧ mp bs (Str.ofString "parsed") = some (.ref D))
      ⟨dict0, [], rfl, dict0_is, .nil, mp_eq _ _ _⟩ ?_ ?_
    · rintro i x bs₁ mu₁ fr₁ I oI h tk5 hi hx ⟨o, kvs, rfl, ho, hdp, f1⟩ hsub W5
      rw [List.size_toArray, hvl] at hi
      have hx' := itemD hd (by simpa using hi) hx
      simp only [List.getElem_map] at hx'
      obtain ⟨tx, rfl⟩ := datStr hx'
      have hp := hok _ (List.getElem_mem hi)
      have hsn := keqvL_snoc (List.getElem?_eq_getElem hi)
      have hkl := keqvL_len (ps.take i)
      rw [List.length_take] at hkl
      generalize keqvL (ps.take i) = kds at *
      generalize keqvL (ps.take (i + 1)) = kds' at *
      generalize ps[i] = p at *
      obtain ⟨k, v, q⟩ := p
      subst hsn
      have hlen := hp.len
      dsimp only at hlen
      repeat walk_at "m"
      refine GM.split ?_
      dsimp only
      refine callWith_method1 ?_
      repeat walk_at "m"
      rw [lit_eq]
      refine split1_W (k := k) hp.key (by decide) ?_ (by assumption) ?_
      · cases q <;> simp <;> omega
      intro DL t1 t2 h6 tk6 W6
      dsimp only
      refine unpackL hA1.hh W6 (.head _) rfl rfl ?_
      intro h7 tk7 W7
      clear W5 W6
      repeat walk_at "m"
      -- what is left: the store
      have fin : ∀ (h' : Heap) (bs' : Bd) (tk' : Nat) (o' : Obj) (kvs' : List (Str × Value)) (fr' : Led), (∀ p ∈ fr₁, p ∈ fr') → W s.heap fr L (mp bs') [(D, o'), (I, oI)] fr' h' → o'.IsDictOf (PySem.strKind prog w) kvs' → DP fr' kvs' (storeP kds k (sd v)) → mp bs' (Str.ofString "parsed") = some (.ref D) →
          ∃ bs'' mu'' fr'' h'' tk'', ({ s with heap := h', toks := tk' } : Shared) = { s with heap := h'', toks := tk'' } ∧ (∀ p ∈ fr₁, p ∈ fr'') ∧ W s.heap fr L (mp bs'') ((I, oI) :: mu'') fr'' h'' ∧ ∃ o kvs, mu'' = [(D, o)] ∧ o.IsDictOf (PySem.strKind prog w) kvs ∧ DP fr'' kvs (storeP kds k (sd v)) ∧ mp bs'' (Str.ofString "parsed") = some (.ref D) := by
        intro h' bs' tk' o' kvs' fr' g0 w' g1 g2 g3
        exact ⟨bs', _, fr', h', tk', rfl, g0, w'.swap, o', kvs', rfl, g1, g2, g3⟩
      cases q with
      | true =>
        simp only [if_true] at *
        refine item_W (k := 0) (by simp) (by decide) ?_
        intro t8 tk8
        repeat walk_at "m"
        rw [lit_qt, S_beq, decide_eq_true (by rfl)]
        repeat walk_at "m"
        refine item_last (by simp) ?_
        intro t9 tk9
        have e9 : (34 :: (v ++ [34])).getD ((34 :: (v ++ [34])).length - 1) 0 = 34 := by simp
        rw [e9]
        repeat walk_at "m"
        rw [S_beq, decide_eq_true (by rfl)]
        repeat walk_at "m"
        refine sliceS_ss rfl (by assumption) (by rw [S_length]; simp; omega) ?_
        intro h10 t10 tk10 W10
        have e10 : Txt.slice (S (34 :: (v ++ [34]))) (some 1) (some (-1)) = S v := by
          rw [slS_mid (by simp)]
          congr 1
          simp
        rw [e10]
        repeat walk_at "m"
        rename W s.heap fr L _ _ _ _ => W11
        refine setItem_W W11.swap ho (hdp.mono fun p hp => .tail _ hp) (DatIn.str (S v) t10) (by omega) ?_
        intro h12 tk12 o12 W12 ho12 hdp12
        repeat walk_at "m"
        exact fin _ _ _ _ _ _ (fun p hp => .tail _ hp) W12 ho12 hdp12 (by walk_at "lk")
      | false =>
        obtain ⟨hb1, hb2⟩ := hp.bare rfl
        dsimp only at hb1 hb2
        simp only [Bool.false_eq_true, if_false] at *
        have hv0 : 0 < v.length := List.length_pos_iff.mpr hb1
        refine item_W (k := 0) hv0 (by decide) ?_
        intro t8 tk8
        repeat walk_at "m"
        rw [lit_qt, S_beq, decide_eq_false (by
          intro e
          apply hb2
          cases v with
          | nil => cases hv0
          | cons c r => simpa using e)]
        repeat walk_at "m"
        rename W s.heap fr L _ _ _ _ => W11
        refine setItem_W W11.swap ho (hdp.mono fun p hp => .tail _ hp) (DatIn.str (S v) t2) (by omega) ?_
        intro h12 tk12 o12 W12 ho12 hdp12
        repeat walk_at "m"
        exact fin _ _ _ _ _ _ (fun p hp => .tail _ hp) W12 ho12 hdp12 (by walk_at "lk")
    · rintro bs₁ mu₁ fr₁ h tk5 ⟨o, kvs, rfl, ho, hdp, f1⟩ hsub W5
      repeat walk_at "m"
      have W6 := W5.freeze
      rw [List.size_toArray, hvl, List.take_length] at hdp
      exact hQ _ _ _ _ W6.keep W6.frs W6.gr ⟨D, o, kvs, rfl, .head _, ho, hdp.mono fun p hp => .tail _ hp, hDs⟩
end
end
section -- G1
def itEq : Dat → Dat → Bool
  | .int a, .int b => a == b
  | .str a, .str b => decide (a = b)
  | _, _ => false
def itGt : Dat → Dat → Bool
  | .int a, .int b => decide (a > b)
  | .str a, .str b => decide (b.cps.toList < a.cps.toList)
  | _, _ => false
def sameKind : Dat → Dat → Prop
  | .int _, .int _ => True
  | .str _, .str _ => True
  | _, _ => False
def gtD : List Dat → List Dat → Bool
  | x :: xs, y :: ys => if itEq x y then gtD xs ys else itGt x y
  | _ :: _, [] => true
  | [], _ => false
def cmpOk : List Dat → List Dat → Prop
  | x :: xs, y :: ys => sameKind x y ∧ (itEq x y = true → cmpOk xs ys)
  | _, _ => True
section
variable {prog : Program} {w : World} {A : Around} {E : Value → Shared → Prop} {s : Shared} {fr : Led}
theorem item_eqB {x y : Value} {d e : Dat} {Q : Bool → Shared → Prop} (hx : DatIn fr x d) (hy : DatIn fr y e) (hk : sameKind d e) (h : Q (itEq d e) s) : wpAny (model prog w) A (eqBool x y) Q E s := by
  cases hx <;> cases hy <;> first | exact hk.elim | exact wpAny_eqBool_int h | exact wpAny_eqBool_str h
theorem item_gtR {x y : Value} {d e : Dat} {Q : Value → Shared → Prop} (hx : DatIn fr x d) (hy : DatIn fr y e) (hk : sameKind d e) (h : Q (.bool (itGt d e)) s) : wpAny (model prog w) A (richCompare .Gt x y) Q E s := by
  cases hx <;> cases hy <;> first | exact hk.elim | exact (PyProof.Rows.gt_int h : wpAny (model prog w) A (compareOp .Gt _ _) Q E s) | exact (PySem.P.gt_str h : wpAny (model prog w) A (compareOp .Gt _ _) Q E s)
end
theorem drop_nil_len {α : Type} {xs : List α} {i : Nat} (h : xs.drop i = []) (hi : i ≤ xs.length) : xs.length = i := by
  have := congrArg List.length h
  rw [List.length_drop, List.length_nil] at this
  omega
theorem drop_cons_at {α : Type} {xs r : List α} {i : Nat} {x : α} (h : xs.drop i = x :: r) : xs[i]? = some x ∧ xs.drop (i + 1) = r ∧ i < xs.length := by
  have hl := congrArg List.length h
  rw [List.length_drop, List.length_cons] at hl
  have hlt : i < xs.length := by omega
  rw [List.drop_eq_getElem_cons hlt] at h
  injection h with h1 h2
  exact ⟨by rw [List.getElem?_eq_getElem hlt, h1], h2, hlt⟩
open AutoSeq1 (wpAny_loadPart') in
open MeetsSeq MeetsSeq2 MeetsSeq3 in
theorem gt_loop (l b : Addr) (fr : Led) (xs ys : List Value) (n n2 : Nat) : ∀ (ds es : List Dat) (i : Nat), i ≤ xs.length → i ≤ ys.length → DatAll fr (xs.drop i) ds → DatAll fr (ys.drop i) es → cmpOk ds es →
    Meets (Builtin.«list.__eq__.loop» ⟨[.ref l, .ref b, rawInt i, rawInt 4], []⟩)
      (fun A R s => s.heap.get? l = some (listOf xs.toArray n) ∧ s.heap.get? b = some (listOf ys.toArray n2) ∧ R (.ok (.ret (.bool (gtD ds es)))) s) := by
  intro ds
  induction ds with
  | nil =>
    intro es i hi1 hi2 h1 h2 hc prog w A R s h
    obtain ⟨hp, g, d, tk, os⟩ := s; obtain ⟨hl, hb, h⟩ := h
    have hx : xs.drop i = [] := by generalize xs.drop i = q at h1; cases h1; rfl
    have hxl := drop_nil_len hx hi1
    wp_walk using wpAny_loadPart' hl, wpAny_loadPart' hb
    have e1 : xs.toArray[((i : Nat) : Int).toNat]? = none := by simp; omega
    rw [e1]
    dsimp only
    wp_walk using wpAny_loadPart' hl, wpAny_loadPart' hb
    show R (.ok (.ret (.bool (decide (xs.toArray.size > ys.toArray.size))))) _
    rw [decide_eq_false (by simp; omega)]
    exact h
  | cons dx ds ih =>
    intro es i hi1 hi2 h1 h2 hc prog w A R s h
    obtain ⟨hp, g, d, tk, os⟩ := s; obtain ⟨hl, hb, h⟩ := h
    obtain ⟨vx, rx, hx, hdx, hrx⟩ : ∃ vx rx, xs.drop i = vx :: rx ∧ DatIn fr vx dx ∧ DatAll fr rx ds := by
      generalize xs.drop i = q at h1; cases h1 with | cons a b => exact ⟨_, _, rfl, a, b⟩
    obtain ⟨ex, hx2, hxl⟩ := drop_cons_at hx
    wp_walk using wpAny_loadPart' hl, wpAny_loadPart' hb
    have e1 : xs.toArray[((i : Nat) : Int).toNat]? = some vx := by simpa using ex
    rw [e1]
    cases es with
    | nil =>
      have hy : ys.drop i = [] := by generalize ys.drop i = q at h2; cases h2; rfl
      have hyl := drop_nil_len hy hi2
      have e2 : ys.toArray[((i : Nat) : Int).toNat]? = none := by simp; omega
      rw [e2]
      dsimp only
      wp_walk using wpAny_loadPart' hl, wpAny_loadPart' hb
      show R (.ok (.ret (.bool (decide (xs.toArray.size > ys.toArray.size))))) _
      rw [decide_eq_true (by simp; omega)]
      exact h
    | cons dy es =>
      obtain ⟨vy, ry, hy, hdy, hry⟩ : ∃ vy ry, ys.drop i = vy :: ry ∧ DatIn fr vy dy ∧ DatAll fr ry es := by
        generalize ys.drop i = q at h2; cases h2 with | cons a b => exact ⟨_, _, rfl, a, b⟩
      obtain ⟨ey, hy2, hyl⟩ := drop_cons_at hy
      have e2 : ys.toArray[((i : Nat) : Int).toNat]? = some vy := by simpa using ey
      rw [e2]
      have hcc : ((i : Int) + 1) = ((i + 1 : Nat) : Int) := by omega
      refine wpAny_bind (item_eqB hdx hdy hc.1 ?_)
      cases hq : itEq dx dy with
      | true =>
        have hg : gtD (dx :: ds) (dy :: es) = gtD ds es := by simp [gtD, hq]
        rw [hg] at h
        wp_walk
        rw [hcc]
        exact ⟨plainId_quiet plain_eq_loop _, codeAny_builtin entry_eq_loop (by
          rw [Around.under_plainId plain_eq_loop _]
          exact ih es (i + 1) hxl hyl (by rw [hx2]; exact hrx) (by rw [hy2]; exact hry) (hc.2 hq) prog w A R _ ⟨hl, hb, h⟩)⟩
      | false =>
        have hg : gtD (dx :: ds) (dy :: es) = itGt dx dy := by simp [gtD, hq]
        rw [hg] at h
        wp_walk using wpAny_loadPart' hl, wpAny_loadPart' hb
        rw [e1, e2]
        dsimp only
        refine wpAny_bind (item_gtR hdx hdy hc.1 ?_)
        exact wpAny_pure h
open AutoSeq1 (wpAny_loadPart') in
open MeetsSeq MeetsSeq2 MeetsSeq3 in
theorem list_gt (l b : Addr) (fr : Led) (xs ys : List Value) (n n2 : Nat) (ds es : List Dat) (h1 : DatAll fr xs ds) (h2 : DatAll fr ys es) (hc : cmpOk ds es) :
    Meets (Builtin.«list.__gt__» ⟨[.ref l, .ref b], []⟩)
      (fun A R s => s.heap.get? l = some (listOf xs.toArray n) ∧ s.heap.get? b = some (listOf ys.toArray n2) ∧ R (.ok (.ret (.bool (gtD ds es)))) s) := by
  intro prog w A R s h
  obtain ⟨hp, g, d, tk, os⟩ := s; obtain ⟨hl, hb, h⟩ := h
  have f3 := AutoSeq1.sub_list_list
  wp_walk using wpAny_loadPart' hl, wpAny_loadPart' hb
  exact ⟨plainId_quiet plain_eq_loop _, codeAny_builtin entry_eq_loop (by
    rw [Around.under_plainId plain_eq_loop _]
    exact gt_loop l b fr xs ys n n2 ds es 0 (Nat.zero_le _) (Nat.zero_le _) h1 h2 hc prog w A R _ ⟨hl, hb, h⟩)⟩
section
variable {prog : Program} {w : World} {A : Around} {E : Value → Shared → Prop} {s : Shared} {h₀ : Heap} {m : Str → Option Value} {mu fr fr₀ : Led} {L : Addr}
theorem gtL_W {a b : Addr} {ds es : List Dat} {led : Led} {Q : Value → Shared → Prop} (hl : LedIn s.heap led) (ha : DatIn led (.ref a) (.list ds)) (hb : DatIn led (.ref b) (.list es)) (hc : cmpOk ds es) (hu : A.units < cLine)
    (h : Q (.bool (gtD ds es)) s) : wpAny (model prog w) A (compareOp .Gt (.ref a) (.ref b)) Q E s := by
  obtain ⟨_, xs, ka, e1, ma, Da⟩ := datList ha
  obtain ⟨_, ys, kb, e2, mb, Db⟩ := datList hb
  cases e1; cases e2
  refine richCompare_meets_room (op := .Gt) ⟨_, hl _ ma, rfl⟩ ⟨_, hl _ mb, rfl⟩ PySem.F.slot_list_gt PySem.F.entry_list_gt (PySem.F.args_list_gt_2 _ _) (list_gt a b led xs ys ka kb ds es Da Db hc) ⟨hl _ ma, hl _ mb, ?_⟩ hu
  exact (show _ ≠ _ ∧ _ from ⟨(by intro x; cases x), h⟩)
end
end
section -- H1
section
variable {prog : Program} {w : World} {A : Around} {E : Value → Shared → Prop} {s : Shared} {h₀ : Heap} {m : Str → Option Value} {mu fr fr₀ : Led} {L : Addr} {env : Env}
theorem AOk.make {n : Nat} (x : AOk A (n + 1)) : AOk (A.under (.builtin "type.__call__" ⟨[.ref 97], []⟩)) n where
  hh := x.hh
  dep := by have := x.dep; show A.depth + 1 + n < recursionLimit; omega
  un := by
    have := x.un
    have e : (A.under (.builtin "type.__call__" ⟨[.ref 97], []⟩)).units = A.units + Code.cUnits (.builtin "type.__call__" ⟨[.ref 97], []⟩) := rfl
    have e2 : Code.cUnits (.builtin "type.__call__" ⟨[.ref 97], []⟩) ≤ 3 := by decide +kernel
    rw [e]; omega
/-- entering a def under its caller's world -/
theorem enterU {f : Addr} {vals : List Value} {Q : Value → Shared → Prop} {name qual : Str} {params : Arguments} {body : List Stmt} {scope : Scope} {dV kV doc pm ct oc cc : Value} {an od cd' : Option Addr} {osl csl : Array (Option Value)}
    {n c : Nat} {cvs : Array Value} {ctk : Tok} {L₁ : Addr} {m₁ : Str → Option Value} {o₁ : Obj} (i : Nat) (bs : Bd)
    (hA : AOk A (n + 1)) (hB : Bs w h₀) (hW : W h₀ fr₀ L₁ m₁ mu fr s.heap) (ho₁ : s.heap.get? L₁ = some o₁)
    (ho : (KF w)[i + 1]? = some (f, ⟨oc, od, .func (fnOf name qual params body scope dV kV doc pm an (.ref c) ct), osl⟩)) (hcd : (KF w)[i]? = some (c, ⟨cc, cd', .fields cvs, csl⟩)) (hcq : cvs[1]? = some (.str qual ctk))
    (hbind : bindArgs (fnOf name qual params body scope dV kV doc pm an (.ref c) ct) ⟨vals, []⟩ = pure bs)
    (hloc : (bs.all fun x => decide (scope.names.lookup x.1 = some .local)) = true)
    (h : ∀ L h₁ tk, W h₀ fr₀ L (mp bs.reverse) ((L₁, o₁) :: mu) fr h₁ → AOk (A.deeper (envX qual scope L f (.ref c) [])) n →
      wpAny (model prog w) (A.deeper (envX qual scope L f (.ref c) [])) (execs body (envX qual scope L f (.ref c) []))
        (fun fl s' => Q (match fl with | .ret v => v | _ => .none) s') (fun _ _ => False) { s with heap := h₁, toks := tk })
    (hcell : ∀ x ∈ scope.names, x.2 ≠ .cell) (hco : scope.isCoroutine = false := by rfl) (hgen : scope.isGenerator = false := by rfl) (hk : scope.kind = .function := by rfl) :
    wpAny (model prog w) A (call (.ref f) vals) Q E s := by
  have B := hB.keep hW.keep
  refine wpAny_call (codeAny_call_def (fd := fnOf name qual params body scope dV kV doc pm an (.ref c) ct) (body := body) (binds := bs) (by have := hA.dep; omega) (B.at ho) rfl B.nolimit ⟨_, _, _, _, rfl, B.at hcd, rfl, hcq⟩ rfl (BindsTo.of_eq hbind) hcell (locs hloc) (fun h₁ hns hk₁ => ?_) hco hgen hk)
  exact wpAny_mono (h s.heap.objs.size h₁ _ (hW.under ho₁ hk₁ hns (size_none _)) hA.deeper) (fun _ _ x => x) fun _ _ x => x.elim

/-- a new thing that turns -/
theorem W.addM {h h' : Heap} {x : Addr} {o : Obj} (hW : W h₀ fr₀ L m mu fr h) (k : Keep h h') (hx : h.get? x = none) (ho : h'.get? x = some o) : W h₀ fr₀ L m ((x, o) :: mu) fr h' where
  ns := hW.ns.keeps k
  keep := hW.keep.trans k
  mus := fun p hp => by
    rcases List.mem_cons.mp hp with rfl | hp
    · exact ho
    · exact k _ _ (hW.mus p hp)
  frs := hW.frs.keep k
  gr := hW.gr
  newL := hW.newL
  newM := fun p hp => by
    rcases List.mem_cons.mp hp with rfl | hp
    · exact hW.keep.none hx
    · exact hW.newM p hp
  ndL := fun p hp e => by
    rcases List.mem_cons.mp hp with rfl | hp
    · obtain ⟨oL, _, _, hL, _⟩ := hW.ns
      rw [show x = L from e, hL] at hx; cases hx
    · exact hW.ndL p hp e
  nd := List.nodup_cons.mpr ⟨fun hm => by
    obtain ⟨p, hp, e⟩ := List.mem_map.mp hm
    have q := hW.mus p hp
    rw [show p.1 = x from e, hx] at q
    exact absurd q (by simp), hW.nd⟩
  offL := hW.offL
  off := fun p hp q hq e => by
    rcases List.mem_cons.mp hq with rfl | hq
    · have := hW.frs p hp
      rw [show p.1 = x from e, hx] at this; cases this
    · exact hW.off p hp q hq e
/-- the two parts of such an object turned -/
theorem W.turn2 {h h' : Heap} {a b : Addr} {oa oa' ob ob' : Obj} (x : W h₀ fr₀ L m ((a, oa) :: (b, ob) :: mu) fr h) (ha : h'.get? a = some oa') (hb : h'.get? b = some ob') (hk : ∀ c o, c ≠ a → c ≠ b → h.get? c = some o → h'.get? c = some o) : W h₀ fr₀ L m ((a, oa') :: (b, ob') :: mu) fr h' where
  ns := x.ns.at' fun o e => hk _ o (fun q => x.ndL _ (.head _) q.symm) (fun q => x.ndL _ (.tail _ (.head _)) q.symm) e
  keep := fun c o e => hk c o (fun q => by have := x.newM _ (.head _); rw [q] at e; rw [this] at e; cases e) (fun q => by have := x.newM _ (.tail _ (.head _)); rw [q] at e; rw [this] at e; cases e) (x.keep c o e)
  mus := fun p hp => by
    rcases List.mem_cons.mp hp with rfl | hp
    · exact ha
    rcases List.mem_cons.mp hp with rfl | hp
    · exact hb
    have n1 := List.nodup_cons.mp x.nd
    have n2 := List.nodup_cons.mp n1.2
    exact hk _ _ (fun e => n1.1 (.tail _ (List.mem_map.mpr ⟨p, hp, e⟩))) (fun e => n2.1 (List.mem_map.mpr ⟨p, hp, e⟩)) (x.mus p (.tail _ (.tail _ hp)))
  frs := fun p hp => hk _ _ (x.off p hp _ (.head _)) (x.off p hp _ (.tail _ (.head _))) (x.frs p hp)
  gr := x.gr
  newL := x.newL
  newM := fun p hp => by
    rcases List.mem_cons.mp hp with rfl | hp
    · exact x.newM (a, oa) (.head _)
    rcases List.mem_cons.mp hp with rfl | hp
    · exact x.newM (b, ob) (.tail _ (.head _))
    exact x.newM p (.tail _ (.tail _ hp))
  ndL := fun p hp => by
    rcases List.mem_cons.mp hp with rfl | hp
    · exact x.ndL (a, oa) (.head _)
    rcases List.mem_cons.mp hp with rfl | hp
    · exact x.ndL (b, ob) (.tail _ (.head _))
    exact x.ndL p (.tail _ (.tail _ hp))
  nd := x.nd
  offL := x.offL
  off := fun p hp r hr => by
    rcases List.mem_cons.mp hr with rfl | hr
    · exact x.off p hp (a, oa) (.head _)
    rcases List.mem_cons.mp hr with rfl | hr
    · exact x.off p hp (b, ob) (.tail _ (.head _))
    exact x.off p hp r (.tail _ (.tail _ hr))

theorem mgr_cls {h : Heap} (hB : Bs w h) : ∃ mN, ClsAt h 97 96 mN ∧ mN "__init__" = some (.ref 65) ∧ mN "is_suburi" = some (.ref 94) ∧ mN "__getattribute__" = none ∧ mN "__getattr__" = none ∧ mN "__setattr__" = none ∧ mN "passwd" = none := by
  have ho := hB.at (i := 42) (a := 96) rfl
  refine ⟨_, ⟨⟨_, _, _, _, _, _, _, _, _, _, _, _, hB.at (i := 43) (a := 97) rfl⟩, ⟨_, _, _, ho, rfl, ?_, fun _ => rfl⟩⟩, rfl, rfl, rfl, rfl, rfl, rfl⟩
  intro e he
  simp only [List.mem_toArray, List.mem_cons, List.not_mem_nil, or_false] at he
  rcases he with rfl | rfl | rfl | rfl | rfl | rfl | rfl | rfl | rfl | rfl | rfl
  all_goals exact ⟨_, _, rfl⟩
end
end
section -- H2
/-- an object of the managers' class, by its two objects -/
def InstO (x : Addr) (ox : Obj) (dx : Addr) (od : Obj) : Prop := ∃ mA : Str → Option Value, mA (Str.ofString "is_suburi") = none ∧ ∀ h : Heap, h.get? x = some ox → h.get? dx = some od → h.Inst x 97 mA
section
variable {prog : Program} {w : World} {A : Around} {E : Value → Shared → Prop} {s : Shared} {h₀ : Heap} {m : Str → Option Value} {mu fr fr₀ : Led} {L : Addr} {env : Env}
theorem inst_parts {h : Heap} {x dx : Addr} {ox od : Obj} {mA : Str → Option Value} (I : h.Inst x 97 mA) (hx : h.get? x = some ox) (hd : ox.dict = some dx) (hdx : h.get? dx = some od) (hm : mA (Str.ofString "is_suburi") = none) : InstO x ox dx od := by
  refine ⟨mA, hm, fun h' hx' hdx' => ?_⟩
  obtain ⟨o, e, c, nc, hI⟩ := I
  rw [hx] at e; cases e
  refine ⟨ox, hx', c, nc, ?_⟩
  rcases hI with ⟨hn, _⟩ | ⟨d, e1, e2, e3⟩
  · rw [hd] at hn; cases hn
  · rw [hd] at e1; cases e1
    refine .inr ⟨dx, hd, e2, e3.at fun o e => ?_⟩
    rw [hdx] at e; cases e; exact hdx'
set_option maxHeartbeats 2000000
theorem mgr_W {Q : Value → Shared → Prop} (hA : AOk A 2) (hB : Bs w h₀) (hW : W h₀ fr₀ L m mu fr s.heap)
    (h : ∀ x ox dx od h' tk, W h₀ fr₀ L m mu ((dx, od) :: (x, ox) :: fr) h' → InstO x ox dx od → Q (.ref x) { s with heap := h', toks := tk }) : wpAny (model prog w) A (call (.ref 97) []) Q E s := by
  obtain ⟨g, gg, gd, gt, gos⟩ := s
  have hK := hB.keep hW.keep
  obtain ⟨mN, X, n1, n2, n3, n4, n5, n6⟩ := mgr_cls hK
  obtain ⟨nm, q, bs, sn, sub, col, dd, k0, k1, k2, k3, k5, hC⟩ := X.obj
  refine wpAny_call_obj_init PySem.F.objNew hC X.ns n1 (hK.at (i := 19) (a := 65) rfl) rfl fun h1 x dx Mk => ?_
  obtain ⟨ox, hx, hcx, hncx, hdx⟩ := id Mk.inst
  have hxd := Mk.dict ox hx
  have hne : dx ≠ x := by
    rcases hdx with ⟨hn0, _⟩ | ⟨d', hd', hne', _⟩
    · rw [hn0] at hxd; cases hxd
    · obtain rfl := Option.some.inj (hd'.symm.trans hxd); exact hne'
  have hnsd : h1.Ns1 dx fun _ => none := by
    rcases hdx with ⟨hn0, _⟩ | ⟨d', hd', _, hns'⟩
    · rw [hn0] at hxd; cases hxd
    · obtain rfl := Option.some.inj (hd'.symm.trans hxd); exact hns'
  obtain ⟨od, _, _, hod, _⟩ := id hnsd
  have W1 : W h₀ fr₀ L m ((dx, od) :: mu) fr h1 := hW.addM Mk.keeps Mk.newD hod
  -- the object itself
  have W2 : W h₀ fr₀ L m ((x, ox) :: (dx, od) :: mu) fr h1 := by
    have Wx : W h₀ fr₀ L m ((x, ox) :: mu) fr h1 := hW.addM Mk.keeps Mk.newX hx
    refine { Wx with mus := ?_, newM := ?_, ndL := ?_, nd := ?_, off := ?_ }
    · intro p hp
      rcases List.mem_cons.mp hp with rfl | hp
      · exact hx
      · exact W1.mus p hp
    · intro p hp
      rcases List.mem_cons.mp hp with rfl | hp
      · exact Wx.newM _ (.head _)
      · exact W1.newM p hp
    · intro p hp
      rcases List.mem_cons.mp hp with rfl | hp
      · exact Wx.ndL _ (.head _)
      · exact W1.ndL p hp
    · refine List.nodup_cons.mpr ⟨fun hm => ?_, W1.nd⟩
      rcases List.mem_cons.mp hm with e | hm
      · exact hne (show dx = x from e.symm)
      · exact (List.nodup_cons.mp Wx.nd).1 hm
    · intro p hp r hr
      rcases List.mem_cons.mp hr with rfl | hr
      · exact Wx.off p hp _ (.head _)
      · exact W1.off p hp r hr
  clear W1
  obtain ⟨oL, hoL, _, hback⟩ := W2.obj
  refine' enterU (n := 0) (s := ⟨h1, gg, gd, gt, gos⟩) 18 [(Str.ofString "self", .ref x)] hA.make hB W2 hoL ?h1 ?h2 ?h3 ?h4 ?h5 ?h6 ?h7 ?h8 ?h9 ?h10
  walk_at "ent"
  case h6 =>
    intro L' h2 tk W3 hA1
    repeat walk_at "m"
    refine plainObj_wpAny_Assign_Attribute ?_
    refine newDictM W3 ?_
    intro D h3 hDn W4
    dsimp only
    repeat walk_at "m"
    have W5 := W4.perm (mu' := (x, ox) :: (dx, od) :: (D, dict0) :: (L, oL) :: mu) (List.Perm.append_right mu (List.perm_append_comm (l₁ := [(x, ox), (dx, od)]) (l₂ := [(D, dict0), (L, oL)])))
    have hK3 := hB.keep W5.keep
    obtain ⟨mN, X, n1, n2, n3, n4, n5, n6⟩ := mgr_cls hK3
    obtain ⟨nm, q, bs, sn, sub, col, dd, k0, k1, k2, k3, k5, hC⟩ := X.obj
    have hx3 : h3.get? x = some ox := W5.mus _ (.head _)
    have hd3 : h3.get? dx = some od := W5.mus _ (.tail _ (.head _))
    have Ix : h3.Inst x 97 fun _ => none := by
      refine ⟨ox, hx3, hcx, hncx, .inr ⟨dx, hxd, hne, hnsd.at fun o e => ?_⟩⟩
      rw [hod] at e; cases e; exact hd3
    have hxC : x ≠ 97 := by
      rintro rfl
      have := hK.at (i := 43) (a := 97) rfl
      rw [show g.get? 97 = none from Mk.newX] at this; cases this
    refine store_attr PySem.F.store_object hC X.ns n5 n6 (by rw [typeLookup_type, builtinLookup_eq_fast]; kernel_rfl) hxC Ix (fun h4 tk4 I4 hk4 hsame4 => ?_)
    obtain ⟨ox4, hx4, hc4, _, _, hd4⟩ := hsame4 ox hx3
    have hd4 := hd4 dx hxd
    obtain ⟨od4, hod4⟩ : ∃ od4, h4.get? dx = some od4 := by
      obtain ⟨o, e, _, _, hI⟩ := id I4
      rw [hx4] at e; cases e
      rcases hI with ⟨hn, _⟩ | ⟨d, e1, e2, e3⟩
      · rw [hd4] at hn; cases hn
      · rw [hd4] at e1; cases e1
        obtain ⟨o, _, _, ho, _⟩ := e3
        exact ⟨o, ho⟩
    have W6 : W h₀ fr₀ L' _ ((x, ox4) :: (dx, od4) :: (D, dict0) :: (L, oL) :: mu) fr h4 := W5.turn2 hx4 hod4 fun c o h1 h2 e => hk4 c o h1 (fun o₀ d' e₀ ed => by
      rw [hx3] at e₀; cases e₀; rw [hxd] at ed; cases ed; exact h2) e
    have W7 := W6.freeze.freeze.forget
    repeat walk_at "m"
    refine ⟨rfl, ?_⟩
    exact h x ox4 dx od4 h4 tk4 (W7.back (hback _ oL.slots (W7.mus _ (.head _)))) (inst_parts I4 hx4 hd4 hod4 (by rfl))
end
end
section -- F9
section
variable {prog : Program} {w : World} {A : Around} {E : Value → Shared → Prop} {s : Shared} {h₀ : Heap} {m : Str → Option Value} {mu fr fr₀ : Led} {L : Addr} {env : Env}
theorem eqD_W {v1 v2 : Value} {d1 d2 : Dat} {Q : Value → Shared → Prop} (hW : W h₀ fr₀ L m mu fr s.heap) (h1 : DatIn fr v1 d1) (h2 : DatIn fr v2 d2) (o1 : kqdOk 9 d1 = true) (o2 : kqdOk 9 d2 = true) (hu : A.units + 64 < cLine)
    (h : ∀ c : Bool, (c = true ↔ d1 = d2) → Q (.bool c) s) : wpAny (model prog w) A (compareOp .Eq v1 v2) Q E s := by
  obtain ⟨as, ra⟩ := kqd_in hW.news 9 h1 o1
  obtain ⟨bs, rb⟩ := kqd_in hW.news 9 h2 o2
  have la := kqd_lay 9 d1 o1
  have lb := kqd_lay 9 d2 o2
  refine eq_dataH ra rb ?_ ?_ hu (h _ (kqd_eqv 9 d1 d2 9 o1 o2))
  · unfold SeqAt.shaped; rw [la.1, Bool.true_and]; exact decide_eq_true (Nat.le_trans la.2 (by decide))
  · unfold SeqAt.shaped; rw [lb.1, Bool.true_and]; exact decide_eq_true (Nat.le_trans lb.2 (by decide))
theorem neD_W {v1 v2 : Value} {d1 d2 : Dat} {Q : Value → Shared → Prop} (hW : W h₀ fr₀ L m mu fr s.heap) (h1 : DatIn fr v1 d1) (h2 : DatIn fr v2 d2) (o1 : kqdOk 9 d1 = true) (o2 : kqdOk 9 d2 = true) (hu : A.units + 64 < cLine)
    (h : ∀ c : Bool, (c = false ↔ d1 = d2) → Q (.bool c) s) : wpAny (model prog w) A (compareOp .NotEq v1 v2) Q E s := by
  obtain ⟨as, ra⟩ := kqd_in hW.news 9 h1 o1
  obtain ⟨bs, rb⟩ := kqd_in hW.news 9 h2 o2
  have la := kqd_lay 9 d1 o1
  have lb := kqd_lay 9 d2 o2
  refine ne_dataH ra rb ?_ ?_ hu (h _ (by rw [Bool.not_eq_false']; exact kqd_eqv 9 d1 d2 9 o1 o2))
  · unfold SeqAt.shaped; rw [la.1, Bool.true_and]; exact decide_eq_true (Nat.le_trans la.2 (by decide))
  · unfold SeqAt.shaped; rw [lb.1, Bool.true_and]; exact decide_eq_true (Nat.le_trans lb.2 (by decide))
end
theorem starts_S (a b : List Nat) : Txt.startswith (S a) (S b) = decide (a.take b.length = b) := by
  unfold Txt.startswith Builtin.Str.subAt
  rw [S_length, S_length]
  have e : (S a).cps.extract 0 (0 + b.length) = (a.take b.length).toArray := by simp [S]
  rw [e]
  show (decide (0 + b.length ≤ a.length) && ((a.take b.length).toArray == b.toArray)) = _
  rw [Bool.eq_iff_iff, Bool.and_eq_true, beq_iff_eq, decide_eq_true_iff, decide_eq_true_iff]
  constructor
  · rintro ⟨_, h⟩; simpa using h
  · intro h
    refine ⟨?_, by rw [h]⟩
    have := congrArg List.length h
    rw [List.length_take] at this
    omega
def prefL (p : List Nat) : List Nat := if p.drop (p.length - 1) = [47] then p else p ++ [47]
def subB (h1 p1 h2 p2 : List Nat) : Bool := if h1 = h2 ∧ p1 = p2 then true else if h1 = h2 then decide (p2.take (prefL p1).length = prefL p1) else false
section
variable {prog : Program} {w : World}
set_option maxHeartbeats 2000000
theorem suburi_ok {fr : Led} {x v1 v2 : Value} {h1 p1 h2 p2 : List Nat} (d1 : DatIn fr v1 (.tuple [sd h1, sd p1])) (d2 : DatIn fr v2 (.tuple [sd h2, sd p2])) (o1 : okL h1) (o2 : okL p1) (o3 : okL h2) (o4 : okL p2) (l1 : 0 < p1.length) (l2 : p1.length ≤ 1000) :
    Ctr prog w 1 94 [x, v1, v2] fr (fun fr' r => r = .bool (subB h1 p1 h2 p2)) := by
  obtain ⟨a1, vs1, n1, rfl, hm1, hd1⟩ := datTup d1
  obtain ⟨a2, vs2, n2, rfl, hm2, hd2⟩ := datTup d2
  have hline : 2000 ≤ sizeLine := Nat.le_of_ble_eq_true rfl
  intro A s Q E hA hB hF hQ
  refine' enter (n := 0) (fr := fr) 39 [(Str.ofString "self", x), (Str.ofString "base", .ref a1), (Str.ofString "test", .ref a2)] hA hB hF ?h1 ?h2 ?h3 ?h4 ?h5 ?h6 ?h7 ?h8 ?h9 ?h10
  walk_at "ent"
  case h6 =>
    intro L h₁ tk hW hB1 hA1
    have ok2 : ∀ a b : List Nat, okL a → okL b → kqdOk 9 (.tuple [sd a, sd b]) = true := by
      intro a b ha hb
      show ([sd a, sd b].all (kqdOk 8)) = true
      simp only [List.all_cons, List.all_nil, Bool.and_true, Bool.and_eq_true]
      exact ⟨okD ha 8, okD hb 8⟩
    repeat walk_at "m"
    refine eqD_W (by assumption) d1 d2 (ok2 _ _ o1 o2) (ok2 _ _ o3 o4) hA1.room ?_
    intro c hc
    have hc' : c = decide (h1 = h2 ∧ p1 = p2) := by
      rw [Bool.eq_iff_iff, hc, decide_eq_true_iff]
      constructor
      · intro e
        injection e with e
        injection e with e1 e2
        injection e2 with e2 _
        injection e1 with e1
        injection e2 with e2
        exact ⟨S_inj e1, S_inj e2⟩
      · rintro ⟨rfl, rfl⟩; rfl
    subst hc'
    repeat walk_at "m"
    refine iteD (fun he => ?_) (fun he => ?_)
    · repeat walk_at "m"
      refine hQ _ _ _ _ (W.keep (by assumption)) (W.frs (by assumption)) (W.gr (by assumption)) ?_
      show _ = _
      unfold subB
      rw [if_pos he]
    · repeat walk_at "m"
      refine sub_tup (W.frs (by assumption)) hm1 hd1 (k := 0) (by decide) (by decide) rfl ?_
      intro v hv; obtain ⟨t1, rfl⟩ := datStr hv
      repeat walk_at "m"
      refine sub_tup (W.frs (by assumption)) hm2 hd2 (k := 0) (by decide) (by decide) rfl ?_
      intro v hv; obtain ⟨t2, rfl⟩ := datStr hv
      repeat walk_at "m"
      have hne : (S h1 != S h2) = !decide (h1 = h2) := by unfold bne; rw [S_beq]
      rw [hne]
      by_cases hh : h1 = h2
      · rw [decide_eq_true hh]
        rw [Bool.not_true]
        repeat walk_at "m"
        refine sub_tup (W.frs (by assumption)) hm1 hd1 (k := 1) (by decide) (by decide) rfl ?_
        intro v hv; obtain ⟨t3, rfl⟩ := datStr hv
        repeat walk_at "m"
        refine sliceS_sn rfl (by assumption) (by rw [S_length]; omega) ?_
        intro h4 t4 k4 W4
        rw [slS_last l1]
        repeat walk_at "m"
        have hne2 : (S (p1.drop (p1.length - 1)) != Str.ofString "/") = !decide (p1.drop (p1.length - 1) = [47]) := by unfold bne; rw [lit_slash, S_beq]
        rw [hne2]
        by_cases hs : p1.drop (p1.length - 1) = [47]
        · have hp : prefL p1 = p1 := if_pos hs
          rw [decide_eq_true hs]
          rw [Bool.not_true]
          repeat walk_at "m"
          refine sub_tup (W.frs (by assumption)) hm2 hd2 (k := 1) (by decide) (by decide) rfl ?_
          intro v hv; obtain ⟨t5, rfl⟩ := datStr hv
          refine GM.startswith ?_
          dsimp only
          refine callWith_method1 ?_
          repeat walk_at "m"
          refine SC.startswith ?_
          repeat walk_at "m"
          refine hQ _ _ _ _ (W.keep (by assumption)) (W.frs (by assumption)) (W.gr (by assumption)) ?_
          show _ = _
          unfold subB
          rw [if_neg he, if_pos hh, starts_S, hp]
        · have hp : prefL p1 = p1 ++ [47] := if_neg hs
          rw [decide_eq_false hs]
          rw [Bool.not_false]
          repeat walk_at "m"
          rw [lit_slash]
          refine PyProof.Rows.iadd_str ?_ (by rw [S_length, S_length]; show _ + 1 ≤ _; omega)
          intro t6 k6
          rw [S_append]
          repeat walk_at "m"
          refine sub_tup (W.frs (by assumption)) hm2 hd2 (k := 1) (by decide) (by decide) rfl ?_
          intro v hv; obtain ⟨t5, rfl⟩ := datStr hv
          refine GM.startswith ?_
          dsimp only
          refine callWith_method1 ?_
          repeat walk_at "m"
          refine SC.startswith ?_
          repeat walk_at "m"
          refine hQ _ _ _ _ (W.keep (by assumption)) (W.frs (by assumption)) (W.gr (by assumption)) ?_
          show _ = _
          unfold subB
          rw [if_neg he, if_pos hh, starts_S, hp]
      · rw [decide_eq_false hh]
        rw [Bool.not_false]
        repeat walk_at "m"
        refine hQ _ _ _ _ (W.keep (by assumption)) (W.frs (by assumption)) (W.gr (by assumption)) ?_
        show _ = _
        unfold subB
        rw [if_neg he, if_neg hh]
end
end
section -- F10
theorem slS_to1 {l : List Nat} (h : 1 ≤ l.length) : Txt.slice (S l) none (some 1) = S (l.take 1) := slS_to (j := 1) h
theorem slS_from1 {l : List Nat} (h : 1 ≤ l.length) : Txt.slice (S l) (some 1) none = S (l.drop 1) := slS_from (i := 1) h
abbrev KT := List Nat × List Dat
def stepF (host path : List Nat) (best : Option KT) (p : KT) : Option KT :=
  if subB (p.1.take 1) (p.1.drop 1) host path then (match best with | none => some p | some b => if gtD p.2 b.2 then some p else some b) else best
def foundL (kts : List KT) (host path : List Nat) : Option KT := kts.foldl (stepF host path) none
def optD : Option KT → Dat
  | none => .none
  | some b => sd b.1
theorem foundL_snoc {kts : List KT} {host path : List Nat} {i : Nat} {p : KT} (h : kts[i]? = some p) : foundL (kts.take (i + 1)) host path = stepF host path (foundL (kts.take i) host path) p := by
  unfold foundL
  rw [List.take_add_one, h, List.foldl_append]
  rfl
theorem foundL_mem {kts : List KT} {host path : List Nat} {b : KT} (h : foundL kts host path = some b) : b ∈ kts := by
  have : ∀ (l : List KT) (b0 : Option KT), (l.foldl (stepF host path) b0 = some b) → (b0 = some b ∨ b ∈ l) := by
    intro l
    induction l with
    | nil => intro b0 h; exact .inl h
    | cons p r ih =>
      intro b0 h
      rcases ih _ h with h1 | h1
      · unfold stepF at h1
        split at h1
        · split at h1
          · cases h1; exact .inr (.head _)
          · split at h1
            · cases h1; exact .inr (.head _)
            · cases h1; exact .inl rfl
        · exact .inl h1
      · exact .inr (.tail _ h1)
  rcases this kts none h with h1 | h1
  · cases h1
  · exact h1
abbrev ktD (kts : List KT) : List (List Nat × Dat) := kts.map fun p => (p.1, .list p.2)
theorem find_kt {kts : List KT} (hn : (kts.map (·.1)).Nodup) {p : KT} (hp : p ∈ kts) : findP (ktD kts) p.1 = some (.list p.2) := by
  induction kts with
  | nil => cases hp
  | cons q r ih =>
    unfold findP ktD
    rw [List.map_cons, List.find?_cons]
    rcases List.mem_cons.mp hp with rfl | hp
    · simp
    · have hne : q.1 ≠ p.1 := by
        intro e
        exact (List.nodup_cons.mp hn).1 (List.mem_map.mpr ⟨p, hp, e.symm⟩)
      simp only [hne, decide_false]
      exact ih (List.nodup_cons.mp hn).2 hp
structure KTok (p : KT) : Prop where
  two : 2 ≤ p.1.length
  ok : okL p.1
  len : p.1.length ≤ 1000
section
variable {prog : Program} {w : World} {A : Around} {E : Value → Shared → Prop} {s : Shared} {h₀ : Heap} {m : Str → Option Value} {mu fr fr₀ : Led} {L : Addr} {env : Env}
theorem getM_sub {x dx : Addr} {ox od : Obj} {pl : Sem Bool} {Q : Value × List Value → Shared → Prop} (hB : Bs w h₀) (hW : W h₀ fr₀ L m mu fr s.heap) (hx : (x, ox) ∈ fr) (hd : (dx, od) ∈ fr) (I : InstO x ox dx od) (h : Q (.ref 94, [.ref x]) s) :
    wpAny (model prog w) A (getMethod (.ref x) (Str.ofString "is_suburi") pl) Q E s := by
  have hK := hB.keep hW.keep
  obtain ⟨mN, X, n1, n2, n3, n4, n5, n6⟩ := mgr_cls hK
  obtain ⟨nm, q, bs, sn, sub, col, dd, k0, k1, k2, k3, k5, hC⟩ := X.obj
  obtain ⟨mA, hm, hI⟩ := I
  exact method_of (y := none) hC X.ns n3 n4 n2 (hK.at (i := 40) (a := 94) rfl) rfl (by rw [typeLookup_type, builtinLookup_eq_fast]; kernel_rfl) (hI _ (hW.frs _ hx) (hW.frs _ hd)) hm h
end
section
variable {prog : Program} {w : World}
set_option maxHeartbeats 2000000
theorem found_ok {fr : Led} {v : Value} {kts : List KT} {host path : List Nat} {t1 t2 : Tok} (hv : DicIn prog w fr v (ktD kts)) (hnd : (kts.map (·.1)).Nodup) (hok : ∀ p ∈ kts, KTok p) (hcmp : ∀ p ∈ kts, ∀ q ∈ kts, cmpOk p.2 q.2) (oh : okL host) (op : okL path) :
    Ctr prog w 3 160 [v, .str (S host) t1, .str (S path) t2] fr (fun fr' r => DatIn fr' r (optD (foundL kts host path))) := by
  obtain ⟨a, oD, kvs, rfl, hmD, hisD, hdp, hsys⟩ := id hv
  have hline : 2000 ≤ sizeLine := Nat.le_of_ble_eq_true rfl
  intro A s Q E hA hB hF hQ
  refine' enter (n := 2) (fr := fr) 85 [(Str.ofString "versions", .ref a), (Str.ofString "host", .str (S host) t1), (Str.ofString "path", .str (S path) t2)] hA hB hF ?h1 ?h2 ?h3 ?h4 ?h5 ?h6 ?h7 ?h8 ?h9 ?h10
  walk_at "ent"
  case h6 =>
    intro L h₁ tk hW hB1 hA1
    clear hB1
    repeat walk_at "m"
    obtain ⟨mN, X, _⟩ := mgr_cls (hB.keep hW.keep)
    refine callWith_cls0 X (Keep.refl _) ?_
    refine mgr_W hA1 hB hW ?_
    intro x ox dx od h2 tk2 W2 hI
    clear X
    repeat walk_at "m"
    refine wpAny_For ?_
    repeat walk_at "m"
    rename W s.heap fr L _ _ _ _ => W3
    have hv3 : DicIn prog w ((dx, od) :: (x, ox) :: fr) (.ref a) (ktD kts) := hv.mono fun p hp => .tail _ (.tail _ hp)
    refine for_W (itv_dic hA1.hh W3.frs hv3) W3 (fp1 (.tail _ (.tail _ hmD)))
      (fun i bs mu fr' => mu = [] ∧ (∃ bv, mp bs (Str.ofString "best") = some bv ∧ DatIn [] bv (optD (foundL (kts.take i) host path))) ∧ mp bs (Str.ofString "manager") = some (.ref x) ∧ mp bs (Str.ofString "versions") = some (.ref a) ∧ mp bs (Str.ofString "host") = some (.str (S host) t1) ∧ mp bs (Str.ofString "path") = some (.str (S path) t2))
      ⟨rfl, ⟨.none, mp_eq _ _ _, .none⟩, by walk_at "lk", by walk_at "lk", by walk_at "lk", by walk_at "lk"⟩ ?_ ?_
    · rintro i vk bs₁ mu₁ fr₁ I oI h tk5 hi ⟨k, dk, tk', hk, rfl⟩ ⟨rfl, ⟨bv, f1, hbv⟩, f2, f3, f4, f5⟩ hsub W5
      rw [List.length_map] at hi
      have hp := List.getElem_mem hi
      have hsn := foundL_snoc (host := host) (path := path) (List.getElem?_eq_getElem hi)
      have hbm : ∀ b, foundL (kts.take i) host path = some b → b ∈ kts := fun b e => List.mem_of_mem_take (foundL_mem e)
      have hk' : k = kts[i].1 := by
        rw [List.getElem?_map, List.getElem?_eq_getElem hi] at hk
        simp at hk
        exact hk.1.symm
      subst hk'
      generalize foundL (kts.take i) host path = best at *
      generalize foundL (kts.take (i + 1)) host path = best' at *
      generalize kts[i] = p at *
      subst hsn
      have hpo := hok p hp
      have hp2 := hpo.two
      have hp3 := hpo.len
      repeat walk_at "m"
      refine getM_sub hB W5 (hsub _ (.tail _ (.head _))) (hsub _ (.head _)) hI ?_
      dsimp only
      refine callWith_meth (h₀ := s.heap) rfl (hB.at (i := 40) (a := 94) rfl) ?_
      repeat walk_at "m"
      refine sliceS_ns rfl (by assumption) (by rw [S_length]; omega) ?_
      intro h6 t6 k6 W6
      rw [slS_to1 (by omega)]
      repeat walk_at "m"
      refine sliceS_sn rfl (by assumption) (by rw [S_length]; omega) ?_
      intro h7 t7 k7 W7
      rw [slS_from1 (by omega)]
      repeat walk_at "m"
      refine newTupF W7 ?_ (Nat.le_of_ble_eq_true rfl); intro D8 h8 W8
      repeat walk_at "m"
      refine newTupF W8 ?_ (Nat.le_of_ble_eq_true rfl); intro D9 h9 W9
      clear W5 W6 W7 W8
      repeat walk_at "m"
      have ok1 : okL (p.1.take 1) := fun c hc => hpo.ok c (List.mem_of_mem_take hc)
      have ok2 : okL (p.1.drop 1) := fun c hc => hpo.ok c (List.mem_of_mem_drop hc)
      refine ⟨W9.keep, ?_⟩
      refine ctrW W9 hB (hA1.le (by decide)) (suburi_ok (DatIn.tuple (.tail _ (.head _)) (.cons (.str _ _) (.cons (.str _ _) .nil))) (DatIn.tuple (.head _) (.cons (.str _ _) (.cons (.str _ _) .nil))) ok1 ok2 oh op (by rw [List.length_drop]; omega) (by rw [List.length_drop]; omega)) ?_
      rintro _ h10 tk10 fr10 W10 hsub10 rfl
      have hs10 : ∀ p ∈ fr₁, p ∈ fr10 := fun p hp => hsub10 _ (.tail _ (.tail _ hp))
      have hs11 : ∀ p ∈ fr, p ∈ fr10 := fun p hp => hs10 _ (hsub _ (.tail _ (.tail _ hp)))
      have hv10 := hv.mono hs11
      have fin : ∀ (h' : Heap) (bs' : Bd) (tk' : Nat) (bv' : Value), W s.heap fr L (mp bs') [(I, oI)] fr10 h' → mp bs' (Str.ofString "best") = some bv' → DatIn [] bv' (optD (stepF host path best p)) → mp bs' (Str.ofString "manager") = some (.ref x) → mp bs' (Str.ofString "versions") = some (.ref a) → mp bs' (Str.ofString "host") = some (.str (S host) t1) → mp bs' (Str.ofString "path") = some (.str (S path) t2) →
          ∃ bs'' mu'' fr'' h'' tk'', ({ s with heap := h', toks := tk' } : Shared) = { s with heap := h'', toks := tk'' } ∧ (∀ p ∈ fr₁, p ∈ fr'') ∧ W s.heap fr L (mp bs'') ((I, oI) :: mu'') fr'' h'' ∧ mu'' = [] ∧ (∃ bv, mp bs'' (Str.ofString "best") = some bv ∧ DatIn [] bv (optD (stepF host path best p))) ∧ mp bs'' (Str.ofString "manager") = some (.ref x) ∧ mp bs'' (Str.ofString "versions") = some (.ref a) ∧ mp bs'' (Str.ofString "host") = some (.str (S host) t1) ∧ mp bs'' (Str.ofString "path") = some (.str (S path) t2) := by
        intro h' bs' tk' bv' w' g1 g2 g3 g4 g5 g6
        exact ⟨bs', [], fr10, h', tk', rfl, hs10, w', rfl, ⟨bv', g1, g2⟩, g3, g4, g5, g6⟩
      repeat walk_at "m"
      refine iteB (fun hsb => ?_) (fun hsb => ?_)
      · cases best with
        | none =>
          have hst : stepF host path none p = some p := by unfold stepF; rw [if_pos hsb]
          cases hbv
          repeat walk_at "m"
          refine PyProof.Rows.is_none_none ?_
          repeat walk_at "m"
          exact fin _ _ _ _ (by assumption) (mp_eq _ _ _) (by rw [hst]; exact .str _ _) (by walk_at "lk") (by walk_at "lk") (by walk_at "lk") (by walk_at "lk")
        | some b =>
          have hbk := hbm b rfl
          obtain ⟨tb, rfl⟩ := datStr hbv
          repeat walk_at "m"
          refine PyProof.Rows.is_str_none ?_
          repeat walk_at "m"
          refine sub_dict W10.frs hv10 (find_kt hnd hp) ?_
          intro v1 k11 hv1
          obtain ⟨a1, _, _, rfl, _, _⟩ := datList hv1
          repeat walk_at "m"
          refine sub_dict W10.frs hv10 (find_kt hnd hbk) ?_
          intro v2 k12 hv2
          obtain ⟨a2, _, _, rfl, _, _⟩ := datList hv2
          repeat walk_at "m"
          refine gtL_W W10.frs hv1 hv2 (hcmp p hp b hbk) (by have := hA1.room; omega) ?_
          repeat walk_at "m"
          refine iteB (fun hg => ?_) (fun hg => ?_)
          · have hst : stepF host path (some b) p = some p := by unfold stepF; rw [if_pos hsb]; dsimp only; rw [if_pos hg]
            repeat walk_at "m"
            exact fin _ _ _ _ (by assumption) (mp_eq _ _ _) (by rw [hst]; exact .str _ _) (by walk_at "lk") (by walk_at "lk") (by walk_at "lk") (by walk_at "lk")
          · have hst : stepF host path (some b) p = some b := by unfold stepF; rw [if_pos hsb]; dsimp only; rw [if_neg (by rw [hg]; decide)]
            repeat walk_at "m"
            exact fin _ _ _ (.str (S b.1) tb) W10 (by walk_at "lk") (by rw [hst]; exact .str _ _) (by walk_at "lk") (by walk_at "lk") (by walk_at "lk") (by walk_at "lk")
      · have hst : stepF host path best p = best := by unfold stepF; rw [if_neg (by rw [hsb]; decide)]
        repeat walk_at "m"
        exact fin _ _ _ bv W10 (by walk_at "lk") (by rw [hst]; exact hbv) (by walk_at "lk") (by walk_at "lk") (by walk_at "lk") (by walk_at "lk")
    · rintro bs₁ mu₁ fr₁ h tk5 ⟨rfl, ⟨bv, f1, hbv⟩, f2, f3, f4, f5⟩ hsub W5
      repeat walk_at "m"
      rw [List.length_map, List.take_length] at hbv
      have hs2 : ∀ p ∈ fr, p ∈ fr₁ := fun p hp => hsub p (.tail _ (.tail _ hp))
      exact hQ _ _ _ _ W5.keep W5.frs W5.gr (hbv.mono fun p hp => absurd hp List.not_mem_nil)
end
end
section -- R5
abbrev cell0 : Obj := { cls := .type "cell", data := .cell none }
section
variable {prog : Program} {w : World} {A : Around} {E : Value → Shared → Prop} {s : Shared} {env : Env}
theorem newEnvK {M : Model} {scope : Scope} {cl : List (Str × Addr)} {x : Str} {g : Addr} {qual : Str} {Q : Env → Shared → Prop} (hcs : ∀ n acc, cellsFrom n scope.names acc = (x, n) :: acc) (hps : ∀ h, pushCells h scope.names = h.push cell0)
    (h : Q { scope, locals := s.heap.objs.size, globals := g, cells := (x, s.heap.objs.size + 1) :: cl, qual, func := none, code := env.code, frame := env.frame, builtins := env.builtins } { s with heap := (s.heap.push dict0).push cell0 }) :
    wpAny M A (newFunctionEnv scope g cl [] qual none .none (some env)) Q E s := by
  simp only [newFunctionEnv, Option.isSome_some, if_true]
  refine wpAny_bind (wpAny_alloc ?_)
  refine wpAny_bind (wpAny_layCells _ (fun name kind cells => by cases hkc : kind == NameKind.cell <;> simp [hkc]) _ _ _ _ ?_)
  rw [hcs, hps]
  rw [show ({ s with heap := s.heap.push dict0 } : Shared).heap.objs.size = s.heap.objs.size + 1 from Heap.size_push ..]
  rw [List.forIn_nil]
  exact wpAny_bind (wpAny_pure (wpAny_pure h))
/-- the turns of a list comprehension whose name lies in a cell -/
def CTurnK (prog : Program) (w : World) (A : Around) (env : Env) (elt : Expr) (ifs : List Expr) (scope : Scope) (cl : List (Str × Addr)) (x : Str) (n : Nat) (P : Nat → Value → Prop) (f : Nat → Option Dat) (fr : Led) (s : Shared) : Prop :=
  ∀ C cK o i v fr₁ mu₁ h tk E', i < n → P i v → (∀ p ∈ fr, p ∈ fr₁) → Obj.data o = .cell (some v) → W s.heap fr C (mp []) ((cK, o) :: mu₁) fr₁ h →
      wpAny (model prog w) A (tests ifs (compEnvC scope ((x, cK) :: cl) C env))
        (fun ok s₃ => if ok = true then wpAny (model prog w) A (eval elt (compEnvC scope ((x, cK) :: cl) C env)) (fun y s₄ => ∃ h' tk' fr', s₄ = { s with heap := h', toks := tk' } ∧ (∀ p ∈ fr₁, p ∈ fr') ∧ W s.heap fr C (mp []) ((cK, o) :: mu₁) fr' h' ∧ ∃ d, f i = some d ∧ DatIn fr' y d) E' s₃
          else ∃ h' tk' fr', s₃ = { s with heap := h', toks := tk' } ∧ (∀ p ∈ fr₁, p ∈ fr') ∧ W s.heap fr C (mp []) ((cK, o) :: mu₁) fr' h' ∧ f i = none) E' { s with heap := h, toks := tk }
theorem lcBlockK {elt iter : Expr} {x : Str} {px : Pos} {ifs : List Expr} {scope : Scope} {cl : List (Str × Addr)} {pos : Pos} {xv : Value} {fpx : List Addr} {n : Nat} {P : Nat → Value → Prop} {fr : Led}
    {RR : Value → Addr → Result → Shared → Prop} (It : ItV prog w A s.heap xv fpx n P) (hfp : ∀ b ∈ fpx, ∃ o, s.heap.get? b = some o) (hfr : LedIn s.heap fr)
    (f : Nat → Option Dat) (hn : n ≤ sizeLine) (hcs : ∀ n acc, cellsFrom n scope.names acc = (x, n) :: acc) (hps : ∀ h, pushCells h scope.names = h.push cell0) (hkind : scope.kind = .function) (hx : (relabel scope env).names.lookup x = some .cell)
    (turn : CTurnK prog w A env elt ifs scope cl x n P f fr s)
    (done : ∀ D C m mu₁ fr₁ ys k h tk, (∀ p ∈ fr, p ∈ fr₁) → W s.heap fr C m ((D, listOf (List.toArray ys) k) :: mu₁) fr₁ h → DatAll fr₁ ys ((List.range n).filterMap f) → RR (.ref D) C (.ok .next) { s with heap := h, toks := tk }) :
    wpAny (model prog w) A (pyIter xv) (fun it s₂ => wpAny (model prog w) A (newList []) (fun acc s₃ => wpAny (model prog w) A (newFunctionEnv scope env.globals cl [] env.qual none .none (some env)) (fun cenv s₄ =>
      codeAny (model prog w) A (.compStart (.ListComp elt [⟨.Name x px, iter, ifs, 0⟩] scope pos) 0 it acc { cenv with scope := relabel scope env }) (RR acc cenv.locals) s₄) E s₃) E s₂) E s := by
  refine It s _ _ rfl fun oI St hf Wk hob hst => ?_
  refine wpAny_newObj_type ?_
  refine newEnvK hcs hps ?_
  dsimp only
  generalize hH1 : s.heap.push oI = H1 at hst ⊢
  generalize hH2 : H1.push { cls := .type "list", dict := none, data := .seq ([] : List Value).toArray } = H2
  generalize hH3 : H2.push dict0 = H3
  generalize hH4 : H3.push cell0 = H4
  have s1 : H1.objs.size = s.heap.objs.size + 1 := by rw [← hH1, Heap.size_push]
  have s2 : H2.objs.size = s.heap.objs.size + 2 := by rw [← hH2, Heap.size_push, s1]
  have s3 : H3.objs.size = s.heap.objs.size + 3 := by rw [← hH3, Heap.size_push, s2]
  have k1 : Keep s.heap H1 := hH1 ▸ Keep.push _ _
  have k2 : Keep H1 H2 := hH2 ▸ Keep.push _ _
  have k3 : Keep H2 H3 := hH3 ▸ Keep.push _ _
  have k4 : Keep H3 H4 := hH4 ▸ Keep.push _ _
  have oI1 : H1.get? s.heap.objs.size = some oI := hH1 ▸ Heap.get?_push_size _ hf
  have oD2 : H2.get? H1.objs.size = some (listOf [].toArray 0) := hH2 ▸ Heap.get?_push_size _ rfl
  have oK4 : H4.get? H3.objs.size = some cell0 := hH4 ▸ Heap.get?_push_size _ rfl
  have ns3 : H3.Ns H2.objs.size (mp []) := hH3 ▸ Heap.Ns.new H2 (.type "dict")
  -- the world, thing by thing
  have W0 : W s.heap fr H2.objs.size (mp []) [] fr H3 := by
    refine ⟨ns3, (k1.trans k2).trans k3, (fun _ hp => nomatch hp), hfr.keep ((k1.trans k2).trans k3), Grow.refl _ _, ?_, (fun _ hp => nomatch hp), (fun _ hp => nomatch hp), List.nodup_nil, ?_, (fun _ _ _ hr => nomatch hr)⟩
    · cases e : s.heap.get? H2.objs.size with
      | none => rfl
      | some o' => exact absurd (Heap.lt_size e) (by rw [s2]; exact Nat.not_lt.mpr (Nat.le_add_right _ _))
    · intro p hp e
      exact absurd (Heap.lt_size (hfr p hp)) (by rw [e, s2]; exact Nat.not_lt.mpr (Nat.le_add_right _ _))
  have hW : W s.heap fr H2.objs.size (mp []) [(s.heap.objs.size, oI), (H1.objs.size, listOf [].toArray 0), (H3.objs.size, cell0)] fr H4 := by
    have none_of : ∀ a, s.heap.objs.size ≤ a → s.heap.get? a = none := fun a ha => by
      cases e : s.heap.get? a with
      | none => rfl
      | some o' => exact absurd (Heap.lt_size e) (Nat.not_lt.mpr ha)
    have Wk4 := W0.same k4
    have key : ∀ p ∈ [(s.heap.objs.size, oI), (H1.objs.size, listOf [].toArray 0), (H3.objs.size, cell0)], H4.get? p.1 = some p.2 ∧ s.heap.objs.size ≤ p.1 ∧ p.1 ≠ H2.objs.size := by
      intro p hp
      rcases List.mem_cons.mp hp with rfl | hp
      · exact ⟨k4 _ _ (k3 _ _ (k2 _ _ oI1)), Nat.le_refl _, by show s.heap.objs.size ≠ H2.objs.size; omega⟩
      rcases List.mem_cons.mp hp with rfl | hp
      · exact ⟨k4 _ _ (k3 _ _ oD2), by show _ ≤ H1.objs.size; omega, by show H1.objs.size ≠ H2.objs.size; omega⟩
      · rw [List.mem_singleton.mp hp]
        exact ⟨oK4, by show _ ≤ H3.objs.size; omega, by show H3.objs.size ≠ H2.objs.size; omega⟩
    refine { Wk4 with mus := fun p hp => (key p hp).1, newM := fun p hp => none_of _ (key p hp).2.1, ndL := fun p hp => (key p hp).2.2, nd := ?_, off := ?_ }
    · show [s.heap.objs.size, H1.objs.size, H3.objs.size].Nodup
      simp; omega
    · intro p hp q hq e
      exact absurd (Heap.lt_size (hfr p hp)) (by rw [e]; exact Nat.not_lt.mpr (key q hq).2.1)
  have hst₁ : St 0 H4 := Wk.frame _ _ _ hst fun b _ o e => k4 b o (k3 b o (k2 b o e))
  have loop : ∀ s₃ : Shared, s₃ = { s with heap := H4 } →
      codeAny (model prog w) A (.compLoop (.ListComp elt [⟨.Name x px, iter, ifs, 0⟩] scope pos) 0 (.ref s.heap.objs.size) (.ref H1.objs.size) (compEnvC scope ((x, H3.objs.size) :: cl) H2.objs.size env))
        (RR (.ref H1.objs.size) H2.objs.size) s₃ := by
    rintro s₃ rfl
    refine compLoop_W (cenv := compEnvC scope ((x, H3.objs.size) :: cl) H2.objs.size env) (h₀ := s.heap) (fr₀ := fr) (fr := fr) (mu := [(H3.objs.size, cell0)]) (m := mp []) (oI := oI) (k₀ := 0) Wk hob hst₁ hW hfp
      (fun m mu => m = mp [] ∧ ∃ o v₀, mu = [(H3.objs.size, o)] ∧ o.data = .cell v₀) ⟨rfl, cell0, none, rfl, rfl⟩ f hn ?_ ?_
    · rintro i v m₁ mu₁ fr₁ oI₁ ys k h tk E' hi hP ⟨rfl, o, v₀, rfl, ho⟩ hsub hW₁
      have hW₂ := hW₁.perm (mu' := [(H3.objs.size, o), (s.heap.objs.size, oI₁), (H1.objs.size, listOf ys.toArray k)]) (List.perm_append_comm (l₁ := [(H3.objs.size, o)]) (l₂ := [(s.heap.objs.size, oI₁), (H1.objs.size, listOf ys.toArray k)]))
      have back : ∀ {o' : Obj} {fr' : Led} {h' : Heap}, W s.heap fr H2.objs.size (mp []) [(H3.objs.size, o'), (s.heap.objs.size, oI₁), (H1.objs.size, listOf ys.toArray k)] fr' h' → W s.heap fr H2.objs.size (mp []) [(s.heap.objs.size, oI₁), (H1.objs.size, listOf ys.toArray k), (H3.objs.size, o')] fr' h' :=
        fun w' => w'.perm (List.perm_append_comm (l₁ := [(s.heap.objs.size, oI₁), (H1.objs.size, listOf ys.toArray k)]) (l₂ := [(H3.objs.size, _)]))
      refine wpAny_assign_Name (stC hW₂ ho (fun h₂ o₂ ho₂ W₂ => ?_) (by show List.lookup x ((x, _) :: cl) = _; simp) hkind hx)
      refine wpAny_mono (turn H2.objs.size H3.objs.size o₂ i v fr₁ _ h₂ _ E' hi hP hsub ho₂ W₂) (fun ok s₃ x₃ => ?_) fun _ _ e => e
      cases ok with
      | false =>
        simp only [Bool.false_eq_true, if_false] at x₃ ⊢
        obtain ⟨h', tk', fr', rfl, a, b, c⟩ := x₃
        exact ⟨h', tk', _, _, fr', rfl, a, back b, ⟨rfl, o₂, _, rfl, ho₂⟩, c⟩
      | true =>
        simp only [if_true] at x₃ ⊢
        refine wpAny_mono x₃ (fun y s₄ x₄ => ?_) fun _ _ e => e
        obtain ⟨h', tk', fr', rfl, a, b, c⟩ := x₄
        exact ⟨h', tk', _, _, fr', rfl, a, back b, ⟨rfl, o₂, _, rfl, ho₂⟩, c⟩
    · rintro m₁ mu₁ fr₁ ys k h tk ⟨rfl, _⟩ hsub hW₁ hD
      exact done _ _ _ _ fr₁ ys k h tk hsub hW₁ hD
  rw [show H2.objs.size + 1 = H3.objs.size by omega]
  exact codeAny_compStart_list (loop _ rfl) (Wk.self 0 _ _ _ hst₁ (loop _ rfl))

structure CompK (prog : Program) (w : World) (A : Around) (env : Env) (elt : Expr) (ifs : List Expr) (scope : Scope) (cl : List (Str × Addr)) (x y : Str) (Q : Flow → Shared → Prop) (xv : Value) (s : Shared) : Prop where
  mk' ::
  ex : ∃ (fpx : List Addr) (n : Nat) (P : Nat → Value → Prop) (fr fr₀ mu : Led) (h₀ : Heap) (bs : Bd) (f : Nat → Option Dat), ItV prog w A s.heap xv fpx n P ∧ (∀ b ∈ fpx, ∃ o, s.heap.get? b = some o) ∧ W h₀ fr₀ env.locals (mp bs) mu fr s.heap ∧ n ≤ sizeLine ∧
    CTurnK prog w A env elt ifs scope cl x n P f fr s ∧ ∀ D h tk fr', W h₀ fr₀ env.locals (mp (setL bs y (.ref D))) mu fr' h → (∀ p ∈ fr, p ∈ fr') → DatIn fr' (.ref D) (.list ((List.range n).filterMap f)) → Q .next { s with heap := h, toks := tk }
theorem CompK.mk {elt : Expr} {ifs : List Expr} {scope : Scope} {cl : List (Str × Addr)} {x y : Str} {Q : Flow → Shared → Prop} {xv : Value} {L : Addr} {fpx : List Addr} {n : Nat} {P : Nat → Value → Prop} {fr fr₀ mu : Led} {h₀ : Heap} {bs : Bd} (f : Nat → Option Dat)
    (hW : W h₀ fr₀ L (mp bs) mu fr s.heap) (It : ItV prog w A s.heap xv fpx n P) (hfp : ∀ b ∈ fpx, ∃ o, s.heap.get? b = some o) (hn : n ≤ sizeLine) (turn : CTurnK prog w A env elt ifs scope cl x n P f fr s)
    (done : ∀ D h tk fr', W h₀ fr₀ L (mp (setL bs y (.ref D))) mu fr' h → (∀ p ∈ fr, p ∈ fr') → DatIn fr' (.ref D) (.list ((List.range n).filterMap f)) → Q .next { s with heap := h, toks := tk }) (hL : env.locals = L := by rfl) : CompK prog w A env elt ifs scope cl x y Q xv s := by
  subst hL
  exact ⟨fpx, n, P, fr, fr₀, mu, h₀, bs, f, It, hfp, hW, hn, turn, done⟩
theorem lcK {elt iter : Expr} {x y : Str} {px py : Pos} {ifs : List Expr} {scope : Scope} (cl : List (Str × Addr)) {pos spos : Pos} {Q : Flow → Shared → Prop}
    (hclos : closureFor scope env = pure cl) (hsw : swapsWith (.ListComp elt [⟨.Name x px, iter, ifs, 0⟩] scope pos) (some (.Name y py)) spos.line env = pure true)
    (h : wpAny (model prog w) A (eval iter env) (fun xv s₁ => CompK prog w A env elt ifs scope cl x y Q xv s₁) E s)
    (hcs : ∀ n acc, cellsFrom n scope.names acc = (x, n) :: acc) (hps : ∀ h, pushCells h scope.names = h.push cell0) (hkind : scope.kind = .function) (hx : (relabel scope env).names.lookup x = some .cell) (hnames : ∀ y ∈ scope.names, y.2 = .local → scope.names.lookup y.1 = some .local) (hs : ∀ x, foldedSetIterable iter env x = pure x)
    (hy : env.kindOf y = some .local) (hp : (env.scope.kind == .class || (env.scope.kind == .module && env.locals != env.globals)) = false) :
    wpAny (model prog w) A (exec (.Assign [.Name y py] (.ListComp elt [⟨.Name x px, iter, ifs, 0⟩] scope pos) spos) env) Q E s := by
  refine lc_assign cl hclos hsw (wpAny_mono h (fun xv s₁ hc => ?_) fun _ _ q => q) hkind hnames hs
  obtain ⟨fpx, n, P, fr, fr₀, mu, h₀, bs, f, It, hfp, hW, hn, turn, done⟩ := hc.ex
  refine lcBlockK (RR := fun acc C => compPost (model prog w) A E (some (assign (.Name y py) env)) (fun _ s' => Q .next s') acc C) It hfp hW.frs f hn hcs hps hkind hx turn ?_
  intro D C m mu₁ fr₁ ys k h tk hsub hW₁ hD
  have W₂ := hW₁.freeze
  have hLC : env.locals ≠ C := by
    intro e
    have := W₂.newL
    rw [← e] at this
    obtain ⟨o, _, _, ho, _⟩ := hW.ns
    rw [this] at ho; cases ho
  have W₃ := hW.call W₂.keep W₂.frs W₂.gr
  show wpAny _ A (assign (.Name y py) env (.ref D)) _ _ _
  refine wpAny_assign_Name (wpAny_storeName_local hy W₃.ns (fun h₂ hn₂ hs₂ => ?_) hp)
  have W₄ : W h₀ fr₀ env.locals (mp (setL bs y (.ref D))) mu ((D, listOf ys.toArray k) :: fr₁) h₂ := W₃.store (by rw [← mp_setL]; exact hn₂) hs₂
  refine ⟨m, hW₁.ns.sameBut hs₂ (Ne.symm hLC), fun h₃ hs₃ => ?_⟩
  refine done D h₃ _ ((D, listOf ys.toArray k) :: fr₁) ?_ (fun p hp => .tail _ (hsub p hp)) (DatIn.list (.head _) (hD.mono fun p hp => .tail _ hp))
  refine ⟨W₄.ns.sameBut hs₃ hLC, fun b o e => (hs₃.2 b (fun q => ?_)).trans (W₄.keep b o e), fun p hp => (hs₃.2 p.1 (fun q => ?_)).trans (W₄.mus p hp), fun p hp => (hs₃.2 p.1 (W₂.offL p hp)).trans (W₄.frs p hp), W₄.gr, W₄.newL, W₄.newM, W₄.ndL, W₄.nd, W₄.offL, W₄.off⟩
  · have := hW.keep b o e
    rw [q, W₂.newL] at this; cases this
  · have := hW.mus p hp
    rw [q, W₂.newL] at this; cases this
end
end
section -- F11
abbrev RK := List Nat × Row
def aboveL (rks : List RK) (host : List Nat) (pieces : List (List Nat)) : List RK := rks.filter fun p => decide (p.2.hostL = host) && coversB p.2.pieces pieces
def aheadL (ab : List RK) : List RK := ab.filter fun p => (ab.filter fun q => gtD q.2.things p.2.things).isEmpty
def dueL (rks : List RK) (host : List Nat) (pieces : List (List Nat)) : Option RK := (aheadL (aboveL rks host pieces)).head?
def optR : Option RK → Dat
  | none => .none
  | some b => sd b.1
abbrev rkD (rks : List RK) : List (List Nat × Dat) := rks.map fun p => (p.1, p.2.dat)
theorem find_rk {rks : List RK} (hn : (rks.map (·.1)).Nodup) {p : RK} (hp : p ∈ rks) : findP (rkD rks) p.1 = some p.2.dat := by
  induction rks with
  | nil => cases hp
  | cons q r ih =>
    unfold findP rkD
    rw [List.map_cons, List.find?_cons]
    rcases List.mem_cons.mp hp with rfl | hp
    · simp
    · have hne : q.1 ≠ p.1 := by
        intro e
        exact (List.nodup_cons.mp hn).1 (List.mem_map.mpr ⟨p, hp, e.symm⟩)
      simp only [hne, decide_false]
      exact ih (List.nodup_cons.mp hn).2 hp
theorem range_fm {α β : Type} (g : α → Option β) (d : α) : ∀ l : List α, (List.range l.length).filterMap (fun i => g (l.getD i d)) = l.filterMap g
  | [] => rfl
  | x :: l => by
    rw [List.length_cons, List.range_succ_eq_map, List.filterMap_cons, List.filterMap_cons, List.filterMap_map]
    have := range_fm g d l
    have e : ((fun i => g ((x :: l).getD i d)) ∘ Nat.succ) = fun i => g (l.getD i d) := by funext i; simp
    rw [e, this]
    simp
theorem fm_filter {α β : Type} (p : α → Bool) (f : α → β) : ∀ l : List α, l.filterMap (fun x => if p x = true then some (f x) else none) = (l.filter p).map f
  | [] => rfl
  | x :: l => by
    rw [List.filterMap_cons, List.filter_cons, fm_filter p f l]
    cases p x <;> simp
structure RKok (p : RK) : Prop where
  row : p.2.ok
  ok : okL p.1
theorem pieceL_ok : ∀ j < 3, okL (pieceL j) := by
  intro j hj c hc
  have : j = 0 ∨ j = 1 ∨ j = 2 := by omega
  rcases this with rfl | rfl | rfl
  · cases hc
  · rw [List.mem_singleton.mp hc]; decide
  · rw [List.mem_singleton.mp hc]; decide
theorem Row.pieces_ok (r : Row) : ∀ x ∈ r.pieces, okL x := by
  intro x hx
  unfold Row.pieces at hx
  obtain ⟨k, _, rfl⟩ := List.mem_map.mp hx
  exact pieceL_ok _ (Nat.mod_lt _ (by decide))
theorem Row.pieces_len (r : Row) : r.pieces.length = r.more + 1 := by unfold Row.pieces; simp
theorem Row.pieces_ne (r : Row) : r.pieces ≠ [] := by
  intro e
  have := r.pieces_len
  rw [e] at this; cases this
theorem led4 {mu : Led} {c1 c2 c3 c4 : Addr} {o1 o2 o3 o4 : Obj} (h : mu.map (·.1) = [c1, c2, c3, c4]) (h1 : mu[0]? = some (c1, o1)) (h2 : mu[1]? = some (c2, o2)) (h3 : mu[2]? = some (c3, o3)) (h4 : mu[3]? = some (c4, o4)) : mu = [(c1, o1), (c2, o2), (c3, o3), (c4, o4)] := by
  refine ledN h fun i p e => ?_
  cases i with
  | zero => rw [h1, ← e]; rfl
  | succ i => cases i with
    | zero => rw [h2, ← e]; rfl
    | succ i => cases i with
      | zero => rw [h3, ← e]; rfl
      | succ i => cases i with
        | zero => rw [h4, ← e]; rfl
        | succ i => cases e
section
variable {prog : Program} {w : World}
set_option maxHeartbeats 2000000
theorem due_ok {fr : Led} {v v2 : Value} {rks : List RK} {host : List Nat} {pieces : List (List Nat)} {t1 : Tok} (hv : DicIn prog w fr v (rkD rks)) (hnd : (rks.map (·.1)).Nodup) (hok : ∀ p ∈ rks, RKok p) (hcmp : ∀ p ∈ rks, ∀ q ∈ rks, cmpOk p.2.things q.2.things)
    (h2 : DatIn fr v2 (.list (pieces.map sd))) (op : ∀ x ∈ pieces, okL x) (lp : pieces.length ≤ 100) (ln : rks.length ≤ 100) :
    Ctr prog w 2 165 [v, .str (S host) t1, v2] fr (fun fr' r => DatIn fr' r (optR (dueL rks host pieces))) := by
  have hline : 2000 ≤ sizeLine := Nat.le_of_ble_eq_true rfl
  obtain ⟨aT, oD, kvs, rfl, hmD, hisD, hdp, hsys⟩ := id hv
  obtain ⟨aP, vsP, nP, rfl, hmP, hdP⟩ := datList h2
  intro A s Q E hA hB hF hQ
  refine' enterC (n := 1) (fr := fr) 88 [(Str.ofString "told", .ref aT), (Str.ofString "host", .str (S host) t1), (Str.ofString "pieces", .ref aP)] hA hB hF ?h1 ?h2 ?h3 ?h4 ?h5 ?h55 ?h6 ?h8 ?h9 ?h10
  case h1 => rfl
  case h2 => rfl
  case h3 => rfl
  case h4 => rfl
  case h5 =>
    intro L y hy
    rcases List.mem_cons.mp hy with rfl | hy
    · exact .inr ⟨rfl, rfl⟩
    rcases List.mem_cons.mp hy with rfl | hy
    · exact .inr ⟨rfl, rfl⟩
    rw [List.mem_singleton.mp hy]
    exact .inr ⟨rfl, rfl⟩
  case h55 =>
    intro L p hp
    have hp' : p ∈ [(Str.ofString "above", L + 1 + 1 + 1 + 1), (Str.ofString "pieces", L + 1 + 1 + 1), (Str.ofString "host", L + 1 + 1), (Str.ofString "told", L + 1)] := hp
    rcases List.mem_cons.mp hp' with rfl | hp'
    · rfl
    rcases List.mem_cons.mp hp' with rfl | hp'
    · rfl
    rcases List.mem_cons.mp hp' with rfl | hp'
    · rfl
    rw [List.mem_singleton.mp hp']; rfl
  case h8 => rfl
  case h9 => rfl
  case h10 => rfl
  case h6 =>
    intro L h₁ tk mu hm1 hm2 hW hB1 hA1
    obtain ⟨oA, hmA, hoA⟩ := hm2 0 _ _ rfl
    obtain ⟨oP, hmP', hoP⟩ := hm2 1 _ _ rfl
    obtain ⟨oH, hmH, hoH⟩ := hm2 2 _ _ rfl
    obtain ⟨oT, hmT, hoT⟩ := hm2 3 _ _ rfl
    have hmu' : mu = [(L + 1 + 1 + 1 + 1, oA), (L + 1 + 1 + 1, oP), (L + 1 + 1, oH), (L + 1, oT)] := led4 hm1 hmA hmP' hmH hmT
    clear hmA hmP' hmH hmT hm1 hm2 hB1
    subst hmu'
    have hW' : W s.heap fr L (mp []) [(L + 1 + 1 + 1 + 1, oA), (L + 1 + 1 + 1, oP), (L + 1 + 1, oH), (L + 1, oT)] fr h₁ := hW
    have hoP' : oP.data = .cell (some (.ref aP)) := hoP
    have hoH' : oH.data = .cell (some (.str (S host) t1)) := hoH
    have hoT' : oT.data = .cell (some (.ref aT)) := hoT
    have hoA' : oA.data = .cell none := hoA
    clear hW hoP hoH hoT hoA
    repeat walk_at "m"
    refine' lcE [(Str.ofString "told", L + 1), (Str.ofString "pieces", L + 1 + 1 + 1), (Str.ofString "host", L + 1 + 1)] ?c1 ?h ?c2 ?c3 ?c4 ?c5 ?c6
    walk_at "lc"
    case h =>
    have cT := hW'.mus _ (.tail _ (.tail _ (.tail _ (.head _))))
    have cH := hW'.mus _ (.tail _ (.tail _ (.head _)))
    have cP := hW'.mus _ (.tail _ (.head _))
    refine nmC (c := L + 1) (o := oT) (by rfl) cT hoT' ?_
    have hB3 := hB.keep hW'.keep
    have hlen3 : (rkD rks).length = rks.length := by simp
    refine CompE.mk (fun i => (fun p : RK => if (decide (p.2.hostL = host) && coversB p.2.pieces pieces) = true then some (sd p.1) else none) (rks.getD i ([], ⟨0, 0, 0, 0, 0, 0, 0, 0, 0⟩))) hW' (itv_dic hA1.hh hW'.frs hv) (fun b hb => by rw [List.mem_singleton.mp hb]; exact ⟨_, hW'.frs _ hmD⟩) (by omega) ?_ ?_
    · rintro C i vk fr₁ mu₁ h tk4 E' hi ⟨k, dk, tk5, hk, rfl⟩ hsub W4
      rw [hlen3] at hi
      have hp := List.getElem_mem hi
      have hg : rks.getD i ([], ⟨0, 0, 0, 0, 0, 0, 0, 0, 0⟩) = rks[i] := by rw [List.getD_eq_getElem?_getD, List.getElem?_eq_getElem hi]; rfl
      have hk' : k = rks[i].1 := by
        rw [List.getElem?_map, List.getElem?_eq_getElem hi] at hk
        simp at hk
        exact hk.1.symm
      subst hk'
      dsimp only
      rw [hg]
      generalize rks[i] = p at *
      have hpo := hok p hp
      have hfind := find_rk hnd hp
      have hv4 := hv.mono hsub
      refine tests_one ?_
      repeat walk_at "m"
      refine nmC (c := L + 1) (o := oT) (by rfl) (W4.keep _ _ cT) hoT' ?_
      repeat walk_at "m"
      refine sub_dict W4.frs hv4 hfind ?_
      intro v5 k5 hv5
      obtain ⟨a5, vs5, n5, rfl, hm5, hd5⟩ := datTup hv5
      repeat walk_at "m"
      refine sub_tup W4.frs hm5 hd5 (k := 0) (by decide) (by decide) rfl ?_
      intro v6 hv6
      obtain ⟨t6, rfl⟩ := datStr hv6
      repeat walk_at "m"
      refine nmC (c := L + 1 + 1) (o := oH) (by rfl) (W4.keep _ _ cH) hoH' ?_
      repeat walk_at "m"
      rw [S_beq]
      refine iteD (fun hh => ?_) (fun hh => ?_)
      · repeat walk_at "m"
        refine callD hB3 (i := 81) rfl rfl ?_
        repeat walk_at "m"
        refine nmC (c := L + 1) (o := oT) (by rfl) (W4.keep _ _ cT) hoT' ?_
        repeat walk_at "m"
        refine sub_dict W4.frs hv4 hfind ?_
        intro v7 k7 hv7
        obtain ⟨a7, vs7, n7, rfl, hm7, hd7⟩ := datTup hv7
        repeat walk_at "m"
        refine sub_tup W4.frs hm7 hd7 (k := 1) (by decide) (by decide) rfl ?_
        intro v8 hv8
        repeat walk_at "m"
        refine nmC (c := L + 1 + 1 + 1) (o := oP) (by rfl) (W4.keep _ _ cP) hoP' ?_
        repeat walk_at "m"
        refine ⟨W4.keep, ctrW W4 hB3 (hA1.le (by decide)) (covers_ok hv8 (h2.mono hsub) p.2.pieces_ne p.2.pieces_ok op (by rw [p.2.pieces_len]; have := hpo.row.more; omega) lp) ?_⟩
        rintro _ h9 tk9 fr9 W9 hsub9 rfl
        repeat walk_at "m"
        have hc : (decide (p.2.hostL = host) && coversB p.2.pieces pieces) = coversB p.2.pieces pieces := by rw [decide_eq_true hh, Bool.true_and]
        rw [hc]
        refine iteB (fun hcv => ?_) (fun hcv => ?_)
        · repeat walk_at "m"
          exact ⟨_, _, _, rfl, hsub9, W9, _, if_pos hcv, .str _ _⟩
        · exact ⟨_, _, _, rfl, hsub9, W9, if_neg (by rw [hcv]; decide)⟩
      · have hc : (decide (p.2.hostL = host) && coversB p.2.pieces pieces) = false := by rw [decide_eq_false hh, Bool.false_and]
        rw [hc]
        repeat walk_at "m"
        exact ⟨_, _, _, rfl, fun _ q => q, W4, rfl⟩
    · intro D h tk4 fr4 W4 hsub4 hD
      have hD' : DatIn fr4 (.ref D) (.list ((aboveL rks host pieces).map fun p => sd p.1)) := by
        rw [hlen3, range_fm (fun p : RK => if (decide (p.2.hostL = host) && coversB p.2.pieces pieces) = true then some (sd p.1) else none), fm_filter] at hD
        exact hD
      clear hD
      dsimp only
      refine stC W4 hoA' ?_
      intro h5 oA5 hoA5 W5
      clear W4
      have hab : ∀ p ∈ aboveL rks host pieces, p ∈ rks := fun p hp => (List.mem_filter.mp hp).1
      have hal : (aboveL rks host pieces).length ≤ rks.length := List.length_filter_le _ _
      have hdue : dueL rks host pieces = (aheadL (aboveL rks host pieces)).head? := rfl
      generalize aboveL rks host pieces = ab at *
      obtain ⟨_, vsA, nA, e, hmA, hdA⟩ := datList hD'
      cases e
      have hvl : vsA.length = ab.length := by have := hdA.length; simpa using this
      have hv5 := hv.mono hsub4
      repeat walk_at "m"
      refine' lcK [(Str.ofString "told", L + 1), (Str.ofString "above", L + 1 + 1 + 1 + 1)] ?c1 ?c0 ?h ?c2 ?c22 ?c3 ?c4 ?c5 ?c6 ?c7 ?c8
      walk_at "lk2"
      case h =>
      have cA := W5.mus _ (.head _)
      have cT5 := W5.mus _ (.tail _ (.tail _ (.tail _ (.head _))))
      refine nmC (c := L + 1 + 1 + 1 + 1) (o := oA5) (by rfl) cA hoA5 ?_
      refine CompK.mk (fun i => (fun p : RK => if (ab.filter fun q => gtD q.2.things p.2.things).isEmpty = true then some (sd p.1) else none) (ab.getD i ([], ⟨0, 0, 0, 0, 0, 0, 0, 0, 0⟩))) W5 (itv_list hA1.hh (isList_of W5.frs hmA)) (fun b hb => by rw [List.mem_singleton.mp hb]; exact ⟨_, W5.frs _ hmA⟩) (by rw [List.size_toArray]; omega) ?_ ?_
      · rintro C cK oK i vk fr₁ mu₁ h tk6 E' hi hvk hsub hoK W6
        rw [List.size_toArray, hvl] at hi
        have hp := List.getElem_mem hi
        have hg : ab.getD i ([], ⟨0, 0, 0, 0, 0, 0, 0, 0, 0⟩) = ab[i] := by rw [List.getD_eq_getElem?_getD, List.getElem?_eq_getElem hi]; rfl
        have hvk' := itemD hdA (by simpa using hi) hvk
        simp only [List.getElem_map] at hvk'
        obtain ⟨tK, rfl⟩ := datStr hvk'
        dsimp only
        rw [hg]
        generalize ab[i] = p at *
        have hpr := hab p hp
        refine tests_one ?_
        repeat walk_at "m"
        refine' lcE [(Str.ofString "told", L + 1), (Str.ofString "key", cK)] ?c1 ?h ?c2 ?c3 ?c4 ?c5 ?c6
        walk_at "lc"
        case h =>
        refine nmC (c := L + 1 + 1 + 1 + 1) (o := oA5) (by rfl) (W6.keep _ _ cA) hoA5 ?_
        refine CompE.mk (fun j => (fun q : RK => if gtD q.2.things p.2.things = true then some (sd q.1) else none) (ab.getD j ([], ⟨0, 0, 0, 0, 0, 0, 0, 0, 0⟩))) W6 (itv_list hA1.hh (isList_of W6.frs (hsub _ hmA))) (fun b hb => by rw [List.mem_singleton.mp hb]; exact ⟨_, W6.frs _ (hsub _ hmA)⟩) (by rw [List.size_toArray]; omega) ?_ ?_
        · rintro C2 j vj fr₂ mu₂ h' tk7 E'' hj hvj hsub2 W7
          rw [List.size_toArray, hvl] at hj
          have hq := List.getElem_mem hj
          have hgj : ab.getD j ([], ⟨0, 0, 0, 0, 0, 0, 0, 0, 0⟩) = ab[j] := by rw [List.getD_eq_getElem?_getD, List.getElem?_eq_getElem hj]; rfl
          have hvj' := itemD hdA (by simpa using hj) hvj
          simp only [List.getElem_map] at hvj'
          obtain ⟨tj, rfl⟩ := datStr hvj'
          dsimp only
          rw [hgj]
          generalize ab[j] = q at *
          have hqr := hab q hq
          have hv7 := (hv5.mono hsub).mono hsub2
          refine tests_one ?_
          repeat walk_at "m"
          refine nmC (c := L + 1) (o := oT) (by rfl) (W7.keep _ _ (W6.keep _ _ cT5)) hoT' ?_
          repeat walk_at "m"
          refine sub_dict W7.frs hv7 (find_rk hnd hqr) ?_
          intro v8 k8 hv8
          obtain ⟨a8, vs8, n8, rfl, hm8, hd8⟩ := datTup hv8
          repeat walk_at "m"
          refine sub_tup W7.frs hm8 hd8 (k := 3) (by decide) (by decide) rfl ?_
          intro v9 hv9
          repeat walk_at "m"
          refine nmC (c := L + 1) (o := oT) (by rfl) (W7.keep _ _ (W6.keep _ _ cT5)) hoT' ?_
          repeat walk_at "m"
          refine nmC (c := cK) (o := oK) (by rfl) (W7.keep _ _ (W6.mus _ (.head _))) hoK ?_
          repeat walk_at "m"
          refine sub_dict W7.frs hv7 (find_rk hnd hpr) ?_
          intro v10 k10 hv10
          obtain ⟨a10, vs10, n10, rfl, hm10, hd10⟩ := datTup hv10
          repeat walk_at "m"
          refine sub_tup W7.frs hm10 hd10 (k := 3) (by decide) (by decide) rfl ?_
          intro v11 hv11
          obtain ⟨a9, _, _, rfl, _, _⟩ := datList hv9
          obtain ⟨a11, _, _, rfl, _, _⟩ := datList hv11
          refine gtL_W W7.frs hv9 hv11 (hcmp q hqr p hpr) (Nat.lt_of_le_of_lt (Nat.le_add_right _ 64) hA1.room) ?_
          repeat walk_at "m"
          refine iteB (fun hg1 => ?_) (fun hg1 => ?_)
          · repeat walk_at "m"
            exact ⟨_, _, _, rfl, fun _ q => q, W7, _, if_pos hg1, .str _ _⟩
          · exact ⟨_, _, _, rfl, fun _ q => q, W7, if_neg (by rw [hg1]; decide)⟩
        · intro D2 h' tk7 fr7 W7 hsub7 hD2
          have hD2' : DatIn fr7 (.ref D2) (.list ((ab.filter fun q => gtD q.2.things p.2.things).map fun q => sd q.1)) := by
            rw [List.size_toArray, hvl, range_fm (fun q : RK => if gtD q.2.things p.2.things = true then some (sd q.1) else none), fm_filter] at hD2
            exact hD2
          clear hD2
          repeat walk_at "m"
          refine newListF W7 ?_ (Nat.le_of_ble_eq_true rfl); intro D8 h8 W8
          repeat walk_at "m"
          refine eqL_W W8 (hD2'.mono fun p hp => .tail _ hp) (DatIn.list (.head _) .nil) ?_ (fun d hd => by cases hd) hA1.room ?_
          · intro d hd
            obtain ⟨q, hq, rfl⟩ := List.mem_map.mp hd
            exact okD (hok q (hab q (List.mem_filter.mp hq).1)).ok 8
          intro c hc
          have hc' : c = (ab.filter fun q => gtD q.2.things p.2.things).isEmpty := by
            rw [Bool.eq_iff_iff, hc, List.map_eq_nil_iff, List.isEmpty_iff]
          subst hc'
          repeat walk_at "m"
          refine iteB (fun hc1 => ?_) (fun hc1 => ?_)
          · refine nmC (c := cK) (o := oK) (by rfl) (W8.mus _ (.head _)) hoK ?_
            exact ⟨_, _, _, rfl, fun p hp => .tail _ (hsub7 _ hp), W8, _, if_pos hc1, .str _ _⟩
          · exact ⟨_, _, _, rfl, fun p hp => .tail _ (hsub7 _ hp), W8, if_neg (by rw [hc1]; decide)⟩
      · intro D2 h7 tk7 fr7 W7 hsub7 hD2
        have hD2' : DatIn fr7 (.ref D2) (.list ((aheadL ab).map fun q => sd q.1)) := by
          rw [List.size_toArray, hvl, range_fm (fun p : RK => if (ab.filter fun q => gtD q.2.things p.2.things).isEmpty = true then some (sd p.1) else none), fm_filter] at hD2
          exact hD2
        clear hD2
        have hah : ∀ p ∈ aheadL ab, p ∈ rks := fun p hp => hab p (List.mem_filter.mp hp).1
        generalize aheadL ab = ah at *
        dsimp only
        repeat walk_at "m"
        refine newListF W7 ?_ (Nat.le_of_ble_eq_true rfl); intro D8 h8 W8
        repeat walk_at "m"
        refine neL_W W8 (hD2'.mono fun p hp => .tail _ hp) (DatIn.list (.head _) .nil) ?_ (fun d hd => by cases hd) hA1.room ?_
        · intro d hd
          obtain ⟨q, hq, rfl⟩ := List.mem_map.mp hd
          exact okD (hok q (hah q hq)).ok 8
        intro c hc
        rw [List.map_eq_nil_iff] at hc
        repeat walk_at "m"
        refine iteB (fun hc1 => ?_) (fun hc1 => ?_)
        · cases ah with
          | nil => rw [hc.mpr rfl] at hc1; cases hc1
          | cons q r =>
            obtain ⟨_, vs9, n9, e, hm9, hd9⟩ := datList hD2'
            cases e
            repeat walk_at "m"
            refine sub_list W8.frs (.tail _ hm9) hd9 (k := 0) (by decide) (by decide) rfl ?_
            intro v10 hv10
            exact hQ _ _ _ _ W8.keep W8.frs W8.gr (by show DatIn _ _ (optR (dueL rks host pieces)); rw [hdue]; exact hv10.mono fun p hp => .tail _ hp)
        · have := hc.mp hc1
          subst this
          repeat walk_at "m"
          exact hQ _ _ _ _ W8.keep W8.frs W8.gr (by show DatIn _ _ (optR (dueL rks host pieces)); rw [hdue]; exact .none)
end
end
section -- D3
theorem W.backC {h₀ h h' : Heap} {C L : Addr} {m m' : Str → Option Value} {mu fr fr₀ : Led} {o : Obj} (x : W h₀ fr₀ C m' ((L, o) :: mu) fr h) (hs : Heap.SameBut C h h') (hn : h'.Ns L m) : W h₀ fr₀ L m mu fr h' where
  ns := hn
  keep := fun b c e => (hs.2 b (fun q => by rw [q, x.newL] at e; cases e)).trans (x.keep b c e)
  mus := fun p hp => (hs.2 p.1 (x.ndL p (.tail _ hp))).trans (x.mus p (.tail _ hp))
  frs := fun p hp => (hs.2 p.1 (x.offL p hp)).trans (x.frs p hp)
  gr := x.gr
  newL := x.newM _ (.head _)
  newM := fun p hp => x.newM p (.tail _ hp)
  ndL := fun p hp e => (List.nodup_cons.mp x.nd).1 (List.mem_map.mpr ⟨p, hp, e⟩)
  nd := (List.nodup_cons.mp x.nd).2
  offL := fun p hp => x.off p hp _ (.head _)
  off := fun p hp q hq => x.off p hp q (.tail _ hq)
abbrev Fls : Value → Shared → Prop := fun _ _ => False
section
variable {prog : Program} {w : World} {A : Around} {R : Result → Shared → Prop} {s : Shared} {env : Env}
theorem codeOn_compLoopD {kx vx target iter : Expr} {scope : Scope} {pos : Pos} {it : Value} {D : Addr} (I : Nat → Shared → Prop)
    (turn : ∀ n s, I n s → wpAny (model prog w) A (pyNext it) (fun r s₁ => match r with
      | none => R (.ok .next) s₁
      | some v => wpAny (model prog w) A (assign target env v) (fun _ s₂ => wpAny (model prog w) A (eval kx env) (fun kv s₄ => wpOn (model prog w) A (eval vx env) (fun vv s₅ =>
          wpAny (model prog w) A (dictSet D kv vv) (fun _ s₆ => ∃ m, m < n ∧ I m s₆) Fls s₅) Fls s₄) Fls s₂) Fls s₁) Fls s)
    (n : Nat) (h : I n s) (ht : ∀ v, letOwnedTupleGo target it v = pure () := by intro _; rfl) :
    codeOn (model prog w) A (.compLoop (.DictComp kx vx [⟨target, iter, [], 0⟩] scope pos) 0 it (.ref D) env) R s := by
  refine codeOn_loop rfl I (fun n s hI => ?_) n s h
  show wpOn _ A ((compTurn (.DictComp kx vx [⟨target, iter, [], 0⟩] scope pos) 0 it (.ref D) env).onRaise (fun x => do noteFrame x env; theTreesLotGoes x)) _ _ s
  refine wpOn_onRaise (wpOn_mono (E := Fls) ?_ (fun _ _ q => q) fun _ _ q => q.elim)
  rw [compTurn_dict]
  refine wpOn_bind (on (wpAny_standAt (wpOn_bind (on (wpAny_mono (turn n s hI) (fun r s₁ h₁ => ?_) fun _ _ h' => h')))))
  cases r with
  | none => exact wpOn_pure h₁
  | some v =>
    refine wpOn_bind (wpOn_eq (ht v) (wpOn_pure ?_))
    refine wpOn_bind (on (wpAny_mono h₁ (fun _ s₂ h₂ => ?_) fun _ _ h' => h'))
    refine wpOn_bind (wpOn_pure (a := true) ?_)
    dsimp only
    rw [if_pos rfl]
    refine wpOn_bind (wpOn_bind (on (wpAny_mono h₂ (fun kv s₄ h₄ => wpOn_bind (wpOn_holding (wpOn_mono h₄ (fun vv s₅ h₅ => wpOn_bind (on (wpAny_standAt ?_))) fun _ _ h' => h'))) fun _ _ h' => h')))
    exact wpOn_holding (on (wpAny_mono h₅ (fun _ s₆ h₆ => wpOn_pure (.inl ⟨rfl, h₆⟩)) fun _ _ h' => h'))
theorem codeOn_compStartD {kx vx target iter : Expr} {scope : Scope} {pos : Pos} {it acc : Value}
    (h0 : codeOn (model prog w) A (.compLoop (.DictComp kx vx [⟨target, iter, [], 0⟩] scope pos) 0 it acc env) R s)
    (h : wpAny (model prog w) A (pyIter it) (fun it' s' => codeOn (model prog w) A (.compLoop (.DictComp kx vx [⟨target, iter, [], 0⟩] scope pos) 0 it' acc env) R s') Fls s) :
    codeOn (model prog w) A (.compStart (.DictComp kx vx [⟨target, iter, [], 0⟩] scope pos) 0 it acc env) R s := by
  refine codeOn_tree ?_
  show wpOn _ A ((compStart (.DictComp kx vx [⟨target, iter, [], 0⟩] scope pos) 0 it acc env).onRaise (fun x => do noteFrame x env; standAt theWindowsPlace)) _ _ s
  refine wpOn_onRaise (wpOn_mono (E := Fls) ?_ (fun _ _ q => q) fun _ _ q => q.elim)
  unfold compStart
  show wpOn _ A (ask >>= _) _ _ s
  refine wpOn_bind (on (wpAny_askSetting ?_))
  split
  · first
      | exact wpOn_bind (wpOn_pure (wpOn_pure (And.intro rfl h0)))
      | exact wpOn_pure (And.intro rfl h0)
  · first
      | exact wpOn_bind (on (wpAny_rule (wpOn_bind (on (wpAny_standAt (wpOn_bind (on (wpAny_mono h (fun it' s' h' => wpOn_pure (And.intro rfl h')) fun _ _ x => x))))))))
      | (refine wpOn_bind (on (wpAny_rule ?_)); show wpOn _ _ (standAt iter.pos >>= _) _ _ s; exact wpOn_bind (on (wpAny_standAt (wpOn_bind (on (wpAny_mono h (fun it' s' h' => wpOn_pure (And.intro rfl h')) fun _ _ x => x))))))
theorem wpOn_comprehension {e : Expr} {scope : Scope} {pos : Pos} {newAcc first : Sem Value} {g : Comprehension} {gs : List Comprehension} {cl : List (Str × Addr)} {Q : Value → Shared → Prop}
    (hcl : clausesOf e = g :: gs) (hs : ∀ x, foldedSetIterable g.iter env x = pure x) (hclos : closureFor scope env = pure cl)
    (hkind : scope.kind = .function) (hnames : ∀ x ∈ scope.names, x.2 = .local → scope.names.lookup x.1 = some .local)
    (h : wpAny (model prog w) A first (fun x s₁ => wpAny (model prog w) A (pyIter x) (fun it s₂ => wpAny (model prog w) A newAcc (fun acc s₃ =>
      wpAny (model prog w) A (newFunctionEnv scope env.globals cl [] env.qual none .none (some env)) (fun cenv s₄ =>
        codeOn (model prog w) A (.compStart e 0 it acc { cenv with scope := relabel scope env }) (fun r s' => match r with
          | .ok _ => ∃ m, s'.heap.Ns cenv.locals m ∧ ∀ h', Heap.SameBut cenv.locals s'.heap h' → Q acc { s' with heap := h' }
          | .error _ => False) s₄) Fls s₃) Fls s₂) Fls s₁) Fls s) :
    wpOn (model prog w) A (comprehension e scope env pos newAcc false first none) Q Fls s := by
  unfold comprehension
  rw [hclos, hcl]
  refine wpOn_bind (on (wpAny_mono h (fun x s₁ h₁ => wpOn_bind (on (wpAny_standAt (wpOn_bind (wpOn_eq (hs x) (wpOn_pure (wpOn_bind (wpOn_holding (on (wpAny_mono h₁ (fun it s₂ h₂ => ?_) fun _ _ h' => h')))))))))) fun _ _ h' => h'))
  refine wpOn_bind (on (wpAny_mono h₂ (fun acc s₃ h₃ => wpOn_bind (wpOn_pure (wpOn_bind (on (wpAny_mono h₃ (fun cenv s₄ h₄ => ?_) fun _ _ h' => h'))))) fun _ _ h' => h'))
  dsimp only
  have hv : ∀ x ∈ (scope.names.filter fun x => (x.2 == .local || x.2 == .cell) && x.1 != (".0" : Str)).reverse, x.2 = .local →
      Env.kindOf { cenv with scope := relabel scope env } x.1 = some .local := fun x hx hl => lookup_relabel_local (hnames x (List.mem_filter.mp (List.mem_reverse.mp hx)).1 hl)
  refine wpOn_holding (wpOn_bind (wpOn_attempt (wpOn_holding (wpOn_run (h := none) (codeOn_mono h₄ fun r s' hr => ?_)))))
  cases r with
  | ok f =>
    obtain ⟨m, hn, hr⟩ := hr
    exact wpOn_bind (wpOn_holding (on (wpAny_comp_letGo (cenv := { cenv with scope := relabel scope env }) hkind _ s' m hv hn fun h' m' _ hs' => wpOn_pure (hr h' hs'))))
  | error x => exact hr.elim
end
end
section -- D4
def dicN (fK : Nat → List Nat) (fV : Nat → Dat) (n : Nat) : List (List Nat × Dat) := (List.range n).foldl (fun d j => storeP d (fK j) (fV j)) []
theorem dicN_succ (fK : Nat → List Nat) (fV : Nat → Dat) (n : Nat) : dicN fK fV (n + 1) = storeP (dicN fK fV n) (fK n) (fV n) := by
  unfold dicN
  rw [List.range_succ, List.foldl_append]
  rfl
theorem dicN_len (fK : Nat → List Nat) (fV : Nat → Dat) (n : Nat) : (dicN fK fV n).length ≤ n := by
  induction n with
  | zero => simp [dicN]
  | succ n ih =>
    rw [dicN_succ]
    have := storeP_len (dicN fK fV n) (fK n) (fV n)
    omega
section
variable {prog : Program} {w : World} {A : Around} {s : Shared} {env : Env}
/-- the turns of a dict comprehension below the frame L -/
def DTurn (prog : Program) (w : World) (A : Around) (env : Env) (kx vx : Expr) (scope : Scope) (cl : List (Str × Addr)) (x : Str) (n : Nat) (P : Nat → Value → Prop) (fK : Nat → List Nat) (fV : Nat → Dat)
    (h₀ : Heap) (fr₀ : Led) (L : Addr) (oL : Obj) (mu fr : Led) (s : Shared) : Prop :=
  ∀ C i v fr₁ D oD I oI sl h tk, i < n → P i v → (∀ p ∈ fr, p ∈ fr₁) → W h₀ fr₀ C (mp [(x, v)]) ((L, { oL with slots := sl }) :: (D, oD) :: (I, oI) :: mu) fr₁ h →
    wpAny (model prog w) A (eval kx (compEnvC scope cl C env)) (fun kv s₄ => ∃ t h' tk' fr', kv = .str (S (fK i)) t ∧ s₄ = { s with heap := h', toks := tk' } ∧ (∀ p ∈ fr₁, p ∈ fr') ∧ W h₀ fr₀ C (mp [(x, v)]) ((L, { oL with slots := sl }) :: (D, oD) :: (I, oI) :: mu) fr' h' ∧
      wpOn (model prog w) A (eval vx (compEnvC scope cl C env)) (fun vv s₅ => ∃ h'' tk'' fr'' sl', s₅ = { s with heap := h'', toks := tk'' } ∧ (∀ p ∈ fr', p ∈ fr'') ∧ W h₀ fr₀ C (mp [(x, v)]) ((L, { oL with slots := sl' }) :: (D, oD) :: (I, oI) :: mu) fr'' h'' ∧ DatIn fr'' vv (fV i)) Fls s₄) Fls { s with heap := h, toks := tk }

theorem dcBlock {kx vx iter : Expr} {x : Str} {px : Pos} {scope : Scope} {cl : List (Str × Addr)} {pos : Pos} {xv : Value} {fpx : List Addr} {n : Nat} {P : Nat → Value → Prop} {h₀ : Heap} {fr₀ fr mu : Led} {L : Addr} {m : Str → Option Value} {oL : Obj} {Q : Value → Shared → Prop}
    (hB : Bs w h₀) (It : ItV prog w A s.heap xv fpx n P) (hW : W h₀ fr₀ L m mu fr s.heap) (hoL : s.heap.get? L = some oL) (hback : ∀ (h' : Heap) sl, h'.get? L = some { oL with slots := sl } → h'.Ns L m)
    (hfp : ∀ b ∈ fpx, (∃ o, (b, o) ∈ fr) ∨ ∃ o, h₀.get? b = some o) (fK : Nat → List Nat) (fV : Nat → Dat) (hn : n ≤ sizeLine)
    (hcell : ∀ y ∈ scope.names, y.2 ≠ .cell) (hkind : scope.kind = .function) (hx : scope.names.lookup x = some .local)
    (turn : DTurn prog w A env kx vx scope cl x n P fK fV h₀ fr₀ L oL mu fr s)
    (done : ∀ D h tk fr', W h₀ fr₀ L m mu fr' h → (∀ p ∈ fr, p ∈ fr') → DicIn prog w fr' (.ref D) (dicN fK fV n) → Q (.ref D) { s with heap := h, toks := tk }) :
    wpAny (model prog w) A (pyIter xv) (fun it s₂ => wpAny (model prog w) A newDict (fun acc s₃ => wpAny (model prog w) A (newFunctionEnv scope env.globals cl [] env.qual none .none (some env)) (fun cenv s₄ =>
      codeOn (model prog w) A (.compStart (.DictComp kx vx [⟨.Name x px, iter, [], 0⟩] scope pos) 0 it acc { cenv with scope := relabel scope env }) (fun r s' => match r with
          | .ok _ => ∃ m, s'.heap.Ns cenv.locals m ∧ ∀ h', Heap.SameBut cenv.locals s'.heap h' → Q acc { s' with heap := h' }
          | .error _ => False) s₄) Fls s₃) Fls s₂) Fls s := by
  refine It s _ _ rfl fun oI St hf Wk hob hst => ?_
  refine wpAny_newObj_type ?_
  have W1 := (hW.pushM oI hf).pushM dict0
  refine wpAny_newFunctionEnv hcell (by intro y hy; simp at hy) (fun h₁ hns₁ hsb₁ => ?_) hkind
  dsimp only at hns₁ hsb₁ ⊢
  generalize hI : s.heap.objs.size = I at *
  generalize hH1 : s.heap.push oI = H1 at *
  generalize hD : H1.objs.size = D at *
  generalize hH2 : H1.push { cls := .type "dict", dict := none, data := .dict #[] } = H2 at *
  have W1 : W h₀ fr₀ L m ((D, dict0) :: (I, oI) :: mu) fr H2 := W1
  have k1 : Keep s.heap H1 := hH1 ▸ Keep.push _ _
  have k2 : Keep H1 H2 := hH2 ▸ Keep.push _ _
  have k3 : Keep H2 h₁ := fun b o e => hsb₁.extBut b o (Nat.ne_of_lt (Heap.lt_size e)) (Heap.get?_push_of_some _ e)
  have oL2 : H2.get? L = some oL := k2 _ _ (k1 _ _ hoL)
  have W2 : W h₀ fr₀ H2.objs.size (mp []) ((L, oL) :: (D, dict0) :: (I, oI) :: mu) fr h₁ := W1.under oL2 k3 hns₁ (size_none _)
  have hst₁ : St 0 h₁ := Wk.frame _ _ _ hst fun b _ o e => k3 b o (k2 b o e)
  have hDs : (D == sysModules) = false := notSys hB (hW.keep.trans k1) (Nat.le_of_eq hD)
  have loop : ∀ s₃ : Shared, s₃ = { s with heap := h₁, toks := s.toks + ([] : List (Str × Value)).length } →
      codeOn (model prog w) A (.compLoop (.DictComp kx vx [⟨.Name x px, iter, [], 0⟩] scope pos) 0 (.ref I) (.ref D) (compEnvC scope cl H2.objs.size env))
        (fun r s' => match r with
          | .ok _ => ∃ m, s'.heap.Ns H2.objs.size m ∧ ∀ h', Heap.SameBut H2.objs.size s'.heap h' → Q (.ref D) { s' with heap := h' }
          | .error _ => False) s₃ := by
    rintro s₃ rfl
    generalize H2.objs.size = C at *
    refine codeOn_compLoopD (fun k s' => ∃ i h tk bs fr₁ oI₁ oD kvs sl, s' = { s with heap := h, toks := tk } ∧ k = n - i ∧ i ≤ n ∧ St i h ∧ (bs = [] ∨ ∃ u, bs = [(x, u)]) ∧ W h₀ fr₀ C (mp bs) ((L, { oL with slots := sl }) :: (D, oD) :: (I, oI₁) :: mu) fr₁ h ∧ (∀ p ∈ fr, p ∈ fr₁) ∧ oD.IsDictOf (PySem.strKind prog w) kvs ∧ DP fr₁ kvs (dicN fK fV i)) ?_ n
      ⟨0, h₁, _, [], fr, oI, dict0, [], oL.slots, rfl, rfl, Nat.zero_le _, hst₁, .inl rfl, W2, fun _ hp => hp, dict0_is, .nil⟩
    rintro k s' ⟨i, h, tk, bs, fr₁, oI₁, oD, kvs, sl, rfl, rfl, hi, st, hbs, hW₁, hsub, hoD, hdp⟩
    have keepFp : ∀ {g g' : Heap} {mm : Str → Option Value} {mu' fr' : Led} {o : Obj}, W h₀ fr₀ C mm mu' fr' g' → (I, o) ∈ mu' → g.get? I = some o → (∀ p ∈ fr₁, p ∈ fr') → Keep h₀ g → LedIn g fr₁ → ∀ b ∈ I :: fpx, ∀ q, g.get? b = some q → g'.get? b = some q := by
      intro g g' mm mu' fr' o w' hIm hg hs' k₀ l₁ b hb q hq
      rcases List.mem_cons.mp hb with rfl | hb
      · rw [hg] at hq; cases hq; exact w'.mus _ hIm
      · rcases hfp b hb with ⟨o₂, h₂⟩ | ⟨o₂, h₂⟩
        · have e1 := l₁ _ (hsub _ h₂)
          rw [show (b, o₂).1 = b from rfl, hq] at e1
          cases e1
          exact w'.frs _ (hs' _ (hsub _ h₂))
        · have e1 := k₀ _ _ h₂
          rw [hq] at e1
          cases e1
          exact w'.keep _ _ h₂
    by_cases hlt : i < n
    · refine Wk.item i _ _ _ hlt st fun v h₁' tk₁ hPv st₁ hk₁ => ?_
      obtain ⟨o₁, ho₁⟩ := hob _ _ st₁
      -- the iterator first
      have p1 : ∀ {o' : Obj}, List.Perm ((I, o') :: (L, { oL with slots := sl }) :: (D, oD) :: mu) ((L, { oL with slots := sl }) :: (D, oD) :: (I, o') :: mu) := fun {o'} => (List.perm_middle (l₁ := [(L, { oL with slots := sl }), (D, oD)]) (l₂ := mu)).symm
      have Wa := (hW₁.perm p1).turn (o' := o₁) ho₁ fun b o hb e => hk₁ b o (by simpa using hb) e
      have Wb : W h₀ fr₀ C (mp bs) ((L, { oL with slots := sl }) :: (D, oD) :: (I, o₁) :: mu) fr₁ h₁' := Wa.perm p1.symm
      have hset : setL bs x v = [(x, v)] := by
        rcases hbs with rfl | ⟨u, rfl⟩
        · rfl
        · simp [setL]
      refine wpAny_assign_Name (wpAny_storeName_local (lookup_relabel_local hx) Wb.ns (fun h₂ hn₂ hs₂ => ?_) (by simp [compEnvC, relabel, hkind]))
      have Wc : W h₀ fr₀ C (mp [(x, v)]) ((L, { oL with slots := sl }) :: (D, oD) :: (I, o₁) :: mu) fr₁ h₂ := Wb.store (by rw [← hset, ← mp_setL]; exact hn₂) hs₂
      have st₂ : St (i + 1) h₂ := Wk.frame _ _ _ st₁ (keepFp Wc (.tail _ (.tail _ (.head _))) ho₁ (fun _ q => q) Wb.keep Wb.frs)
      refine wpAny_mono (turn C i v fr₁ D oD I o₁ sl h₂ _ hlt hPv hsub Wc) (fun kv s₄ h₄ => ?_) fun _ _ q => q
      obtain ⟨t, h', tk', fr', rfl, rfl, hs', Wd, hon⟩ := h₄
      refine wpOn_mono hon (fun vv s₅ h₅ => ?_) fun _ _ q => q
      obtain ⟨h'', tk'', fr'', sl', rfl, hs'', We, hdv⟩ := h₅
      refine dictSet_W (We.perm (.swap ..)) hoD (hdp.mono fun p hp => hs'' p (hs' p hp)) hdv (by have := dicN_len fK fV i; omega) ?_
      intro h3 tk3 oD3 Wf hoD3 hdp3
      have Wg : W h₀ fr₀ C (mp [(x, v)]) ((L, { oL with slots := sl' }) :: (D, oD3) :: (I, o₁) :: mu) fr'' h3 := Wf.perm (.swap ..)
      refine ⟨n - (i + 1), by omega, i + 1, h3, tk3, [(x, v)], fr'', o₁, oD3, _, sl', rfl, rfl, hlt, ?_, .inr ⟨v, rfl⟩, Wg, fun p hp => hs'' p (hs' p (hsub p hp)), hoD3, by rw [dicN_succ]; exact hdp3⟩
      exact Wk.frame _ _ _ st₂ (keepFp Wg (.tail _ (.tail _ (.head _))) (Wc.mus _ (.tail _ (.tail _ (.head _)))) (fun p hp => hs'' p (hs' p hp)) Wc.keep Wc.frs)
    · obtain rfl : i = n := by omega
      refine Wk.done _ _ _ st fun h' tk' hk' => ?_
      have Wz := (hW₁.perm (List.perm_middle (l₁ := [(L, { oL with slots := sl }), (D, oD)]) (l₂ := mu)).symm).gone fun b o hb e => hk' b o (by simpa using hb) e
      have Wy : W h₀ fr₀ C (mp bs) ((L, { oL with slots := sl }) :: mu) ((D, oD) :: fr₁) h' := (Wz.perm (mu' := (D, oD) :: (L, { oL with slots := sl }) :: mu) (.swap ..)).freeze
      refine ⟨mp bs, Wy.ns, fun h'' hs'' => done D h'' _ _ (Wy.backC hs'' (hback _ sl ((hs''.2 L (Wy.ndL _ (.head _))).trans (Wy.mus _ (.head _))))) (fun p hp => .tail _ (hsub p hp)) ⟨D, oD, kvs, rfl, .head _, hoD, hdp.mono fun p hp => .tail _ hp, hDs⟩⟩
  exact codeOn_compStartD (loop _ rfl) (Wk.self 0 _ _ _ hst₁ (loop _ rfl))
structure CompD (prog : Program) (w : World) (A : Around) (env : Env) (kx vx : Expr) (scope : Scope) (cl : List (Str × Addr)) (x : Str) (Q : Value → Shared → Prop) (xv : Value) (s : Shared) : Prop where
  mk' ::
  ex : ∃ (fpx : List Addr) (n : Nat) (P : Nat → Value → Prop) (fr fr₀ mu : Led) (h₀ : Heap) (L : Addr) (m : Str → Option Value) (oL : Obj) (fK : Nat → List Nat) (fV : Nat → Dat), Bs w h₀ ∧ ItV prog w A s.heap xv fpx n P ∧ W h₀ fr₀ L m mu fr s.heap ∧ s.heap.get? L = some oL ∧ (∀ (h' : Heap) sl, h'.get? L = some { oL with slots := sl } → h'.Ns L m) ∧
    (∀ b ∈ fpx, (∃ o, (b, o) ∈ fr) ∨ ∃ o, h₀.get? b = some o) ∧ n ≤ sizeLine ∧ DTurn prog w A env kx vx scope cl x n P fK fV h₀ fr₀ L oL mu fr s ∧
    ∀ D h tk fr', W h₀ fr₀ L m mu fr' h → (∀ p ∈ fr, p ∈ fr') → DicIn prog w fr' (.ref D) (dicN fK fV n) → Q (.ref D) { s with heap := h, toks := tk }
theorem CompD.mk {kx vx : Expr} {scope : Scope} {cl : List (Str × Addr)} {x : Str} {Q : Value → Shared → Prop} {xv : Value} {fpx : List Addr} {n : Nat} {P : Nat → Value → Prop} {fr fr₀ mu : Led} {h₀ : Heap} {L : Addr} {m : Str → Option Value} (fK : Nat → List Nat) (fV : Nat → Dat)
    (hB : Bs w h₀) (hW : W h₀ fr₀ L m mu fr s.heap) (It : ItV prog w A s.heap xv fpx n P) (hfp : ∀ b ∈ fpx, (∃ o, (b, o) ∈ fr) ∨ ∃ o, h₀.get? b = some o) (hn : n ≤ sizeLine)
    (turn : ∀ oL, s.heap.get? L = some oL → (∃ es ep, oL.data = .dict es ep) → DTurn prog w A env kx vx scope cl x n P fK fV h₀ fr₀ L oL mu fr s)
    (done : ∀ D h tk fr', W h₀ fr₀ L m mu fr' h → (∀ p ∈ fr, p ∈ fr') → DicIn prog w fr' (.ref D) (dicN fK fV n) → Q (.ref D) { s with heap := h, toks := tk }) : CompD prog w A env kx vx scope cl x Q xv s := by
  obtain ⟨oL, hoL, hdat, hback⟩ := hW.obj
  exact ⟨fpx, n, P, fr, fr₀, mu, h₀, L, m, oL, fK, fV, hB, It, hW, hoL, hback, hfp, hn, turn oL hoL hdat, done⟩
/-- a dict comprehension's value -/
theorem dcE {kx vx iter : Expr} {x : Str} {px : Pos} {scope : Scope} (cl : List (Str × Addr)) {pos : Pos} {Q : Value → Shared → Prop}
    (hclos : closureFor scope env = pure cl)
    (h : wpAny (model prog w) A (eval iter env) (fun xv s₁ => CompD prog w A env kx vx scope cl x Q xv s₁) Fls s)
    (hcell : ∀ y ∈ scope.names, y.2 ≠ .cell) (hkind : scope.kind = .function) (hx : scope.names.lookup x = some .local) (hnames : ∀ y ∈ scope.names, y.2 = .local → scope.names.lookup y.1 = some .local) (hs : ∀ x, foldedSetIterable iter env x = pure x) :
    wpOn (model prog w) A (eval (.DictComp kx vx [⟨.Name x px, iter, [], 0⟩] scope pos) env) Q Fls s := by
  rw [arm_eval_DictComp]
  refine wpOn_comprehension rfl hs hclos hkind hnames (wpAny_mono h (fun xv s₁ hc => ?_) fun _ _ q => q)
  obtain ⟨fpx, n, P, fr, fr₀, mu, h₀, L, m, oL, fK, fV, hB, It, hW, hoL, hback, hfp, hn, turn, done⟩ := hc.ex
  exact dcBlock hB It hW hoL hback hfp fK fV hn hcell hkind hx turn done
end
end
section -- D5
def itemsD (kds : List (List Nat × Dat)) : List Dat := kds.map fun p => .tuple [sd p.1, p.2]
theorem items_led {prog : Program} {w : World} {h : Heap} {fr : Led} {kvs : List (Str × Value)} {kds : List (List Nat × Dat)} (hp : DP fr kvs kds) : ∀ (as : List Addr), as.length = kvs.length →
    (∀ (j : Nat) (a : Addr), as[j]? = some a → ∃ key k x, kvs[j]? = some (k, x) ∧ (PySem.strKind prog w).is k key = true ∧ h.get? a = some { cls := .type "tuple", data := .seq #[key, x] }) →
    ∃ tups : Led, (∀ p ∈ tups, h.get? p.1 = some p.2 ∧ p.1 ∈ as) ∧ DatAll (tups ++ fr) (as.map Value.ref) (itemsD kds) := by
  induction hp with
  | nil =>
    intro as hl _
    cases as with
    | nil => exact ⟨[], fun _ hp => (nomatch hp), .nil⟩
    | cons => cases hl
  | @cons k v d r q hd hr ih =>
    intro as hl hG
    cases as with
    | nil => cases hl
    | cons a as =>
      obtain ⟨tups, h1, h2⟩ := ih as (by simpa using hl) fun j b hb => by
        obtain ⟨key, k', x, e1, e2, e3⟩ := hG (j + 1) b (by simpa using hb)
        exact ⟨key, k', x, by simpa using e1, e2, e3⟩
      obtain ⟨key, k', x, e1, e2, e3⟩ := hG 0 a rfl
      simp at e1
      obtain ⟨rfl, rfl⟩ := e1
      obtain ⟨t, rfl⟩ := Value.isStrOf_shape e2
      refine ⟨(a, tupO [.str (S k) t, v] 0) :: tups, ?_, ?_⟩
      · intro p hp
        rcases List.mem_cons.mp hp with rfl | hp
        · exact ⟨e3, .head _⟩
        · exact ⟨(h1 p hp).1, .tail _ (h1 p hp).2⟩
      · refine .cons (DatIn.tuple (.head _) (.cons (.str _ _) (.cons (hd.mono fun p hp => .tail _ (List.mem_append_right _ hp)) .nil))) (h2.mono fun p hp => .tail _ hp)
section
variable {prog : Program} {w : World} {A : Around} {E : Value → Shared → Prop} {s : Shared} {h₀ : Heap} {m : Str → Option Value} {mu fr fr₀ : Led} {L : Addr} {env : Env}
theorem view_W {d : Addr} {kds : List (List Nat × Dat)} {Q : Value → Shared → Prop} (hW : W h₀ fr₀ L m mu fr s.heap) (hd : DicIn prog w fr (.ref d) kds)
    (h : ∀ D h', W h₀ fr₀ L m mu ((D, { cls := .type "dict_items", data := .fields #[.ref d] }) :: fr) h' → Q (.ref D) { s with heap := h' }) : wpAny (model prog w) A (call (.builtin "dict.items") [.ref d]) Q E s := by
  obtain ⟨_, o, kvs, e, hm, ho, hp, hS⟩ := hd
  cases e
  have hD := dictOf_at (hW.frs _ hm) ho
  exact call_meetsIn PySem.F.slot_dict_items hD.typeIs PySem.F.entry_dict_items (PySem.F.args_dict_items_1 _) (meets_dict_items (PySem.strKind prog w) d hS) ⟨⟨kvs, hD⟩, h _ _ (hW.pushF _)⟩
theorem getM_items {d : Addr} {kds : List (List Nat × Dat)} {pl : Sem Bool} {Q : Value × List Value → Shared → Prop} (hl : LedIn s.heap fr) (hd : DicIn prog w fr (.ref d) kds) (h : Q (.builtin "dict.items", [.ref d]) s) :
    wpAny (model prog w) A (getMethod (.ref d) "items" pl) Q E s := by
  obtain ⟨_, o, kvs, e, hm, ho, hp, hS⟩ := hd
  cases e
  have hD := dictOf_at (hl _ hm) ho
  exact getMethod_builtin hD.typeIs PySem.F.plainAttrs_dict PySem.F.slot_dict_items PySem.F.type_dict_items hD.mapOf.noDict h
theorem listItems_W {r d : Addr} {kds : List (List Nat × Dat)} {Q : Value → Shared → Prop} (hh : A.handled = none) (hW : W h₀ fr₀ L m mu fr s.heap) (hr : (r, ({ cls := .type "dict_items", data := .fields #[.ref d] } : Obj)) ∈ fr) (hd : DicIn prog w fr (.ref d) kds) (hn : kds.length ≤ sizeLine)
    (h : ∀ D h' tk fr', W h₀ fr₀ L m mu fr' h' → (∀ p ∈ fr, p ∈ fr') → DatIn fr' (.ref D) (.list (itemsD kds)) → Q (.ref D) { s with heap := h', toks := tk }) :
    wpAny (model prog w) A (call (.type "list") [.ref r]) Q E s := by
  obtain ⟨_, o, kvs, e, hm, ho, hp, hS⟩ := hd
  cases e
  have hD := dictOf_at (hW.frs _ hm) ho
  obtain ⟨ep, hat⟩ := hD.dictAt
  refine kdx_call (knd := PySem.strKind prog w) hh ⟨_, hW.frs _ hr, rfl, rfl⟩ hat (by rw [hp.length]; exact hn) fun h' tk acc c as hk hS' hl hG hacc => ?_
  obtain ⟨tups, h1, h2⟩ := items_led (prog := prog) (w := w) (h := h') hp as hl hG.pairs
  have ea : acc = (as.map Value.ref).toArray := by rw [← hacc, Array.toArray_toList]
  subst ea
  refine h _ h' tk ((s.heap.objs.size, listOf (as.map Value.ref).toArray c) :: (tups ++ fr)) (hW.call hk ?_ ?_) (fun p hp => .tail _ (List.mem_append_right _ hp)) (DatIn.list (.head _) (h2.mono fun p hp => .tail _ hp))
  · intro p hp
    rcases List.mem_cons.mp hp with rfl | hp
    · exact hS'
    rcases List.mem_append.mp hp with hp | hp
    · exact (h1 p hp).1
    · exact hk _ _ (hW.frs p hp)
  · refine ⟨fun p hp => .tail _ (List.mem_append_right _ hp), fun p hp => ?_⟩
    rcases List.mem_cons.mp hp with rfl | hp
    · exact .inr (size_none _)
    rcases List.mem_append.mp hp with hp | hp
    · refine .inr ?_
      have := hG.above _ (h1 p hp).2
      cases e : s.heap.get? p.1 with
      | none => rfl
      | some o => exact absurd (Heap.lt_size e) (Nat.not_lt.mpr (Nat.le_of_lt this))
    · exact .inl hp
end
end
section -- Pd
def keyOf (r : Row) : List Nat := r.hostL ++ pathL r.pieces
def kvOf (r : Row) : KV := (keyOf r, r.ver, decide (r.way ≠ 2))
def writ (r : Row) : List Nat := writtenL (keyOf r) r.ver r.way
def tellL (rows : List Row) : List RK := rows.foldl (fun d r => storeP d (keyOf r) r) []
def headerL (rows : List Row) : List Nat := joinL [44, 32] (rows.map writ)
def row0 : Row := ⟨0, 0, 0, 0, 0, 0, 0, 0, 0⟩
def ktsL (rows : List Row) : List KT := (tellL rows).map fun p => (p.1, p.2.things)
/-- what _comparable_version wants of a text -/
structure VerOK (l : List Nat) (its : List Dat) : Prop where
  ex : ∃ (ps : List (List Nat)) (itss : List (List Dat)), Sp l ps ∧ itss.length = ps.length ∧ (∀ (i : Nat) x is, ps[i]? = some x → itss[i]? = some is → PieceOK x is) ∧ itss.flatten = its ∧ ps.length ≤ 10 ∧ its.length ≤ 10
  len : l.length ≤ 100
end
section -- P1
theorem storeP_map {β γ : Type} (f : β → γ) (d : List (List Nat × β)) (k : List Nat) (v : β) : storeP (d.map fun p => (p.1, f p.2)) k (f v) = (storeP d k v).map fun p => (p.1, f p.2) := by
  unfold storeP
  rw [List.any_map]
  show (if (d.any fun p => decide (p.1 = k)) = true then _ else _) = _
  split
  · rw [List.map_map, List.map_map]
    refine List.map_congr_left fun p _ => ?_
    simp only [Function.comp]
    split <;> rfl
  · simp
theorem pl_facts (rows : List Row) : keqvL (rows.map kvOf) = (tellL rows).map fun p => (p.1, sd p.2.ver) := by
  have : ∀ (rows : List Row) (d : List RK), (rows.map kvOf).foldl (fun d p => storeP d p.1 (sd p.2.1)) (d.map fun p => (p.1, sd p.2.ver)) = (rows.foldl (fun d r => storeP d (keyOf r) r) d).map fun p => (p.1, sd p.2.ver) := by
    intro rows
    induction rows with
    | nil => intro d; rfl
    | cons r t ih =>
      intro d
      rw [List.map_cons, List.foldl_cons, List.foldl_cons, ← ih, ← storeP_map (fun r : Row => sd r.ver)]
      rfl
  exact this rows []
theorem foldl_range {α β : Type} (f : β → α → β) (d : α) (l : List α) (b : β) : (List.range l.length).foldl (fun x i => f x (l.getD i d)) b = l.foldl f b := by
  have : ∀ (l : List α) (b : β), (List.range l.length).foldl (fun x i => f x (l.getD i d)) b = l.foldl f b := by
    intro l
    induction l with
    | nil => intro b; rfl
    | cons a t ih =>
      intro b
      rw [List.length_cons, List.range_succ_eq_map, List.foldl_cons, List.foldl_map, List.foldl_cons, ← ih]
      rfl
  exact this l b
theorem pl_told (rows : List Row) : dicN (fun i => keyOf (rows.getD i row0)) (fun i => (rows.getD i row0).dat) rows.length = rkD (tellL rows) := by
  unfold dicN
  rw [foldl_range (fun d r => storeP d (keyOf r) (Row.dat r)) row0 rows]
  have : ∀ (rows : List Row) (d : List RK), rows.foldl (fun d r => storeP d (keyOf r) r.dat) (rkD d) = rkD (rows.foldl (fun d r => storeP d (keyOf r) r) d) := by
    intro rows
    induction rows with
    | nil => intro d; rfl
    | cons r t ih =>
      intro d
      rw [List.foldl_cons, List.foldl_cons, ← ih]
      exact congrArg (fun z => List.foldl (fun d r => storeP d (keyOf r) (Row.dat r)) z t) (storeP_map Row.dat d (keyOf r) r)
  exact this rows []
theorem storeP_keys {β : Type} (d : List (List Nat × β)) (k : List Nat) (v : β) : (storeP d k v).map (·.1) = if k ∈ d.map (·.1) then d.map (·.1) else d.map (·.1) ++ [k] := by
  unfold storeP
  by_cases h : k ∈ d.map (·.1)
  · have : (d.any fun p => decide (p.1 = k)) = true := by
      obtain ⟨p, hp, e⟩ := List.mem_map.mp h
      exact List.any_eq_true.mpr ⟨p, hp, decide_eq_true e⟩
    rw [if_pos this, if_pos h, List.map_map]
    refine List.map_congr_left fun p _ => ?_
    simp only [Function.comp]
    split <;> rfl
  · have : ¬ (d.any fun p => decide (p.1 = k)) = true := by
      intro e
      obtain ⟨p, hp, e⟩ := List.any_eq_true.mp e
      exact h (List.mem_map.mpr ⟨p, hp, of_decide_eq_true e⟩)
    rw [if_neg this, if_neg h]
    simp
theorem storeP_new {β : Type} (d : List (List Nat × β)) (k : List Nat) (v : β) (h : k ∉ d.map (·.1)) : storeP d k v = d ++ [(k, v)] := by
  unfold storeP
  rw [if_neg]
  intro e
  obtain ⟨p, hp, e⟩ := List.any_eq_true.mp e
  exact h (List.mem_map.mpr ⟨p, hp, of_decide_eq_true e⟩)
theorem storeP_nodup {β : Type} {d : List (List Nat × β)} {k : List Nat} {v : β} (h : (d.map (·.1)).Nodup) : ((storeP d k v).map (·.1)).Nodup := by
  rw [storeP_keys]
  split
  · exact h
  · rename_i hk
    rw [List.nodup_append]
    refine ⟨h, by simp, ?_⟩
    intro a ha b hb e
    rw [List.mem_singleton] at hb
    subst hb e
    exact hk ha
theorem tell_inv (P : List RK → Prop) (h0 : P []) (h1 : ∀ d r, P d → P (storeP d (keyOf r) r)) (rows : List Row) : P (tellL rows) := by
  have : ∀ (rows : List Row) (d : List RK), P d → P (rows.foldl (fun d r => storeP d (keyOf r) r) d) := by
    intro rows
    induction rows with
    | nil => intro d h; exact h
    | cons r t ih => intro d h; exact ih _ (h1 _ _ h)
  exact this rows [] h0
theorem pl_nodup (rows : List Row) : ((tellL rows).map (·.1)).Nodup :=
  tell_inv (fun d => (d.map (·.1)).Nodup) (by simp) (fun _ _ h => storeP_nodup h) rows
theorem storeP_mem {β : Type} {d : List (List Nat × β)} {k : List Nat} {v : β} {p : List Nat × β} (h : p ∈ storeP d k v) : p ∈ d ∨ p = (k, v) := by
  unfold storeP at h
  split at h
  · obtain ⟨q, hq, e⟩ := List.mem_map.mp h
    split at e
    · rename_i hk
      right; rw [← e, hk]
    · left; rw [← e]; exact hq
  · rcases List.mem_append.mp h with h | h
    · exact .inl h
    · exact .inr (List.mem_singleton.mp h)
theorem pl_mem {rows : List Row} {p : RK} (h : p ∈ tellL rows) : p.2 ∈ rows ∧ p.1 = keyOf p.2 := by
  have : ∀ (rows : List Row) (d : List RK) (R : List Row), (∀ p ∈ d, p.2 ∈ R ∧ p.1 = keyOf p.2) → (∀ r ∈ rows, r ∈ R) → ∀ p ∈ rows.foldl (fun d r => storeP d (keyOf r) r) d, p.2 ∈ R ∧ p.1 = keyOf p.2 := by
    intro rows
    induction rows with
    | nil => intro d R h _ p hp; exact h p hp
    | cons r t ih =>
      intro d R h hr p hp
      refine ih _ R ?_ (fun r hr' => hr r (.tail _ hr')) p hp
      intro q hq
      rcases storeP_mem hq with hq | rfl
      · exact h q hq
      · exact ⟨hr _ (.head _), rfl⟩
  exact this rows [] rows (fun _ h => nomatch h) (fun _ h => h) p h
theorem pl_len (rows : List Row) : (tellL rows).length ≤ rows.length := by
  have : ∀ (rows : List Row) (d : List RK), (rows.foldl (fun d r => storeP d (keyOf r) r) d).length ≤ d.length + rows.length := by
    intro rows
    induction rows with
    | nil => intro d; simp
    | cons r t ih =>
      intro d
      have h1 := ih (storeP d (keyOf r) r)
      have h2 := storeP_len d (keyOf r) r
      simp only [List.foldl_cons, List.length_cons]
      omega
  have := this rows []
  simp only [List.length_nil, Nat.zero_add] at this
  exact this
theorem pl_vers (rows : List Row) : dicN (fun i => ((tellL rows).getD i ([], row0)).1) (fun i => .list ((tellL rows).getD i ([], row0)).2.things) (tellL rows).length = ktD (ktsL rows) := by
  unfold dicN
  rw [foldl_range (fun d (p : RK) => storeP d p.1 (Dat.list p.2.things)) ([], row0) (tellL rows)]
  have : ∀ (l d : List RK), ((d ++ l).map (·.1)).Nodup → l.foldl (fun d (p : RK) => storeP d p.1 (Dat.list p.2.things)) (d.map fun p => (p.1, Dat.list p.2.things)) = (d ++ l).map fun p => (p.1, Dat.list p.2.things) := by
    intro l
    induction l with
    | nil => intro d _; simp
    | cons p t ih =>
      intro d hn
      have e : d ++ p :: t = (d ++ [p]) ++ t := by simp
      rw [List.foldl_cons, storeP_new, e, ← ih (d ++ [p]) (by rw [← e]; exact hn)]
      · simp
      · rw [List.map_map]
        intro h
        rw [List.map_append, List.nodup_append] at hn
        exact hn.2.2 _ h _ (by simp) rfl
  have := this (tellL rows) [] (by simpa using pl_nodup rows)
  unfold ktsL
  rw [ktD, List.map_map]
  exact this
end
section -- P2
theorem pl_pieces (r : Row) : ∀ x ∈ r.pieces, x = [] ∨ x = [97] ∨ x = [98] := by
  intro x hx
  unfold Row.pieces at hx
  obtain ⟨k, _, rfl⟩ := List.mem_map.mp hx
  have h : ∀ j < 3, pieceL j = [] ∨ pieceL j = [97] ∨ pieceL j = [98] := by decide
  exact h _ (Nat.mod_lt _ (by decide))
theorem pieces_len1 (r : Row) : (r.pieces.map List.length).sum ≤ r.pieces.length := by
  have : ∀ l : List (List Nat), (∀ x ∈ l, x = [] ∨ x = [97] ∨ x = [98]) → (l.map List.length).sum ≤ l.length := by
    intro l
    induction l with
    | nil => intro _; simp
    | cons x t ih =>
      intro h
      have h1 := ih fun y hy => h y (.tail _ hy)
      have h2 : x.length ≤ 1 := by rcases h x (.head _) with e | e | e <;> simp [e]
      simp only [List.map_cons, List.sum_cons, List.length_cons]
      omega
  exact this _ (pl_pieces r)
theorem pl_psum (r : Row) (h : r.ok) : (r.pieces.map List.length).sum + r.pieces.length ≤ 10 := by
  have h1 := pieces_len1 r
  have h2 := r.pieces_len
  have h3 := h.more
  omega
theorem pathL_len (r : Row) (h : r.ok) : (pathL r.pieces).length ≤ 11 := by
  have h1 := pl_psum r h
  have h2 := joinL_len r.pieces
  unfold pathL
  rw [List.length_cons]; omega
theorem joinL_all {P : Nat → Prop} (sep : List Nat) (hsep : ∀ c ∈ sep, P c) : ∀ ps : List (List Nat), (∀ x ∈ ps, ∀ c ∈ x, P c) → ∀ c ∈ joinL sep ps, P c
  | [], _ => fun c hc => nomatch hc
  | [x], h => fun c hc => h x (.head _) c hc
  | x :: y :: r, h => by
    intro c hc
    simp only [joinL, List.mem_append] at hc
    rcases hc with (hc | hc) | hc
    · exact h x (.head _) c hc
    · exact hsep c hc
    · exact joinL_all sep hsep (y :: r) (fun z hz => h z (.tail _ hz)) c hc
theorem hostL_mem (r : Row) (h : r.ok) : r.hostL = [104] ∨ r.hostL = [107] := by
  have := h.host
  have h2 : ∀ j < 2, [[104, 107].getD j 0] = [104] ∨ [[104, 107].getD j 0] = [107] := by decide
  exact h2 _ this
/-- the signs of a key -/
def keyC (c : Nat) : Prop := c = 104 ∨ c = 107 ∨ c = 47 ∨ c = 97 ∨ c = 98
theorem key_all {r : Row} (h : r.ok) : ∀ c ∈ keyOf r, keyC c := by
  intro c hc
  unfold keyOf at hc
  rcases List.mem_append.mp hc with hc | hc
  · unfold keyC
    rcases hostL_mem r h with e | e <;> (rw [e, List.mem_singleton] at hc; subst hc; simp)
  · unfold pathL at hc
    rcases List.mem_cons.mp hc with rfl | hc
    · unfold keyC; simp
    · refine joinL_all (P := keyC) [47] (by intro c hc; rw [List.mem_singleton] at hc; subst hc; unfold keyC; simp) _ ?_ c hc
      intro x hx c hc
      unfold keyC
      rcases pl_pieces r x hx with e | e | e <;> (subst e; first | (rw [List.mem_singleton] at hc; subst hc; simp) | cases hc)
theorem pl_key {r : Row} (h : r.ok) : okL (keyOf r) ∧ 2 ≤ (keyOf r).length ∧ (keyOf r).length ≤ 20 := by
  have h1 := pathL_len r h
  refine ⟨fun c hc => ?_, ?_, ?_⟩
  · rcases key_all h c hc with rfl | rfl | rfl | rfl | rfl <;> decide
  · unfold keyOf pathL Row.hostL; simp
  · unfold keyOf Row.hostL; simp; omega
/-- the signs of a version -/
def verC (c : Nat) : Bool := decide (c = 46 ∨ c = 45 ∨ c = 95 ∨ c = 43 ∨ (48 ≤ c ∧ c ≤ 57) ∨ (65 ≤ c ∧ c ≤ 90) ∨ (97 ≤ c ∧ c ≤ 122))
theorem word_all : ∀ j < 13, (wordL j).all verC = true := by decide +kernel
theorem num_all : ∀ j < 10, (numL j).all verC = true := by decide +kernel
theorem ver_all {r : Row} (h : r.ok) : ∀ c ∈ r.ver, verC c = true := by
  have e : ∀ j < 4, verC ([46, 45, 95, 43].getD j 0) = true := by decide
  intro c hc
  unfold Row.ver at hc
  simp only [List.mem_append, List.mem_singleton] at hc
  rcases hc with ((hc | hc) | rfl) | hc | hc
  · exact List.all_eq_true.mp (word_all _ h.w1) c hc
  · exact List.all_eq_true.mp (num_all _ h.f1) c hc
  · exact e _ h.sg
  · exact List.all_eq_true.mp (word_all _ h.w2) c hc
  · exact List.all_eq_true.mp (num_all _ h.f2) c hc
theorem ver_len {r : Row} (h : r.ok) : 1 ≤ r.ver.length ∧ r.ver.length ≤ 33 := by
  have h1 := half_len2 r.w1 r.f1 h.w1 h.f1
  have h2 := half_len2 r.w2 r.f2 h.w2 h.f2
  unfold Row.ver
  simp only [List.length_append, List.length_cons, List.length_nil] at *
  omega
theorem pl_verok {r : Row} (h : r.ok) : okL r.ver := by
  intro c hc
  have := ver_all h c hc
  unfold verC at this
  simp only [decide_eq_true_eq] at this
  omega
theorem pl_written {r : Row} (h : r.ok) : (keyOf r).length + 2 * r.ver.length ≤ 200 := by
  have := (pl_key h).2.2
  have := ver_len h
  omega
theorem pl_kvok {r : Row} (h : r.ok) : KVok (kvOf r) := by
  refine ⟨fun hc => ?_, fun _ => ⟨?_, ?_⟩, ?_⟩
  · rcases key_all h 61 hc with e | e | e | e | e <;> cases e
  · intro e
    have := ver_len h
    have e : r.ver = [] := e
    rw [e] at this
    simp at this
  · intro e
    have := ver_all h 34 (List.mem_of_mem_head? e)
    cases this
  · have := (pl_key h).2.2
    have := ver_len h
    show (keyOf r).length + r.ver.length ≤ _
    omega
theorem pl_things {r : Row} (h : r.ok) : ∀ d ∈ r.things, ∀ n, kqdOk n d = true := by
  have : ∀ wd < 13, ∀ fg, ∀ d ∈ thingsD wd fg, ∀ n, kqdOk n d = true := by
    intro wd hw fg d hd n
    unfold thingsD at hd
    rcases List.mem_append.mp hd with hd | hd
    · split at hd
      · simp only [List.mem_cons, List.not_mem_nil, or_false] at hd
        rcases hd with rfl | rfl
        · cases n <;> rfl
        · have hk := word_all wd hw
          have := okD (l := wordL wd) (fun c hc => by
            have := List.all_eq_true.mp hk c hc
            unfold verC at this
            simp only [decide_eq_true_eq] at this
            omega) n
          exact this
      · cases hd
    · split at hd
      · simp only [List.mem_cons, List.not_mem_nil, or_false] at hd
        rcases hd with rfl | rfl <;> (cases n <;> rfl)
      · cases hd
  intro d hd n
  unfold Row.things at hd
  rcases List.mem_append.mp hd with hd | hd
  · exact this _ h.w1 _ d hd n
  · exact this _ h.w2 _ d hd n
theorem writ_len {r : Row} (h : r.ok) : (writ r).length ≤ 210 := by
  have h1 := pl_written h
  have h2 := escL_len r.way r.ver
  unfold writ writtenL
  split <;> (simp only [List.length_append, List.length_cons, List.length_nil]; omega)
theorem joinL_len2 : ∀ ps : List (List Nat), (joinL [44, 32] ps).length ≤ (ps.map List.length).sum + 2 * ps.length
  | [] => by simp [joinL]
  | [x] => by simp [joinL]
  | x :: y :: r => by
    have := joinL_len2 (y :: r)
    simp only [joinL, List.length_append, List.map_cons, List.sum_cons, List.length_cons, List.length_nil] at this ⊢
    omega
theorem pl_header {rows : List Row} (h : ∀ r ∈ rows, r.ok) (hl : rows.length ≤ 10) : (headerL rows).length ≤ 10000 ∧ ((rows.map fun r => (writ r).length).sum + rows.length ≤ 10000) := by
  have h1 : ∀ l : List Row, (∀ r ∈ l, r.ok) → (l.map fun r => (writ r).length).sum ≤ 210 * l.length := by
    intro l
    induction l with
    | nil => intro _; simp
    | cons x t ih =>
      intro h
      have h1 := ih fun y hy => h y (.tail _ hy)
      have h2 := writ_len (h x (.head _))
      simp only [List.map_cons, List.sum_cons, List.length_cons]
      omega
  have h2 := h1 rows h
  have h3 := joinL_len2 (rows.map writ)
  rw [List.map_map, List.length_map] at h3
  have h4 : (rows.map (List.length ∘ writ)).sum = (rows.map fun r => (writ r).length).sum := rfl
  unfold headerL
  omega
end
section -- P3
theorem tw_none {g : Nat → Bool} {l : List Nat} (h : ∀ c ∈ l, g c = false) : l.takeWhile g = [] := by
  cases l with
  | nil => rfl
  | cons c r => simp [h c (.head _)]
theorem strip_raw {l : List Nat} (h : ∀ c ∈ l, Unicode.isSpace c = false) : Txt.strip (S l) = S l ∧ Txt.strip (S (32 :: l)) = S l := by
  have h32 : Unicode.isSpace 32 = true := by decide +kernel
  have hr : l.reverse.takeWhile Unicode.isSpace = [] := tw_none fun c hc => h c (List.mem_reverse.mp hc)
  refine ⟨?_, ?_⟩
  · unfold Txt.strip
    rw [PySem.W.stripBy_eq]
    unfold W.stripped Builtin.Str.strSub S
    simp [tw_none h, hr, Str.length]
  · unfold Txt.strip
    rw [PySem.W.stripBy_eq]
    unfold W.stripped Builtin.Str.strSub S
    simp [tw_none h, hr, Str.length, h32]
theorem plain_step {l : List Nat} (h : ∀ c ∈ l, c ≠ 44 ∧ c ≠ 34) : ∀ (res : List (List Nat)) (pre : List Nat), l.foldl stepP ⟨res, pre, false, false⟩ = ⟨res, pre ++ l, false, false⟩ := by
  induction l with
  | nil => intro res pre; simp
  | cons c t ih =>
    intro res pre
    have hc := h c (.head _)
    have : stepP ⟨res, pre, false, false⟩ c = ⟨res, pre ++ [c], false, false⟩ := by
      simp [stepP, hc.1, hc.2]
    rw [List.foldl_cons, this, ih (fun x hx => h x (.tail _ hx))]
    simp
theorem esc_step (way : Nat) : ∀ (l : List Nat) (res : List (List Nat)) (pre : List Nat), (escL way l).foldl stepP ⟨res, pre, false, true⟩ = ⟨res, pre ++ l, false, true⟩ := by
  intro l
  induction l with
  | nil => intro res pre; simp [escL]
  | cons c t ih =>
    intro res pre
    have e : escL way (c :: t) = escC way c ++ escL way t := by simp [escL]
    have : (escC way c).foldl stepP ⟨res, pre, false, true⟩ = ⟨res, pre ++ [c], false, true⟩ := by
      unfold escC
      split
      · simp [stepP]
      · rename_i hn
        have h1 : c ≠ 34 := fun e => hn (.inr (.inl e))
        have h2 : c ≠ 92 := fun e => hn (.inr (.inr e))
        simp [stepP, h1, h2]
    rw [e, List.foldl_append, this, ih]
    simp
def raw (r : Row) : List Nat := rawOf (kvOf r)
theorem writ_step {r : Row} (h : r.ok) (res : List (List Nat)) (pre : List Nat) : (writ r).foldl stepP ⟨res, pre, false, false⟩ = ⟨res, pre ++ raw r, false, false⟩ := by
  have hk : ∀ c ∈ keyOf r ++ [61], c ≠ 44 ∧ c ≠ 34 := by
    intro c hc
    rcases List.mem_append.mp hc with hc | hc
    · rcases key_all h c hc with rfl | rfl | rfl | rfl | rfl <;> decide
    · rw [List.mem_singleton] at hc; subst hc; decide
  have hv : ∀ c ∈ r.ver, c ≠ 44 ∧ c ≠ 34 := by
    intro c hc
    have := ver_all h c hc
    constructor <;> (intro e; subst e; revert this; decide)
  unfold writ writtenL raw rawOf kvOf
  split
  · rename_i hw
    rw [List.foldl_append, plain_step hk, plain_step hv]
    simp [hw]
  · rename_i hw
    have e : keyOf r ++ [61, 34] ++ escL r.way r.ver ++ [34] = (keyOf r ++ [61]) ++ ([34] ++ (escL r.way r.ver ++ [34])) := by simp
    rw [e, List.foldl_append, plain_step hk, List.foldl_append]
    have e1 : List.foldl stepP ⟨res, pre ++ (keyOf r ++ [61]), false, false⟩ [34] = ⟨res, pre ++ (keyOf r ++ [61]) ++ [34], false, true⟩ := by simp [stepP]
    rw [e1, List.foldl_append, esc_step]
    simp [stepP, hw]
theorem raw_ne (r : Row) : raw r ≠ [] := by unfold raw rawOf; simp
theorem raw_all {r : Row} (h : r.ok) : ∀ c ∈ raw r, Unicode.isSpace c = false := by
  have h1 : ∀ c ∈ keyOf r, Unicode.isSpace c = false := by
    intro c hc
    rcases key_all h c hc with rfl | rfl | rfl | rfl | rfl <;> decide +kernel
  have h2 : ∀ c ∈ r.ver, Unicode.isSpace c = false := by
    intro c hc
    have := ver_all h c hc
    unfold verC at this
    simp only [decide_eq_true_eq] at this
    exact KXs.no_space c (by omega) (by omega)
  intro c hc
  unfold raw rawOf kvOf at hc
  rcases List.mem_append.mp hc with hc | hc
  · exact h1 c hc
  · rcases List.mem_cons.mp hc with rfl | hc
    · decide +kernel
    · split at hc
      · rcases List.mem_cons.mp hc with rfl | hc
        · decide +kernel
        · rcases List.mem_append.mp hc with hc | hc
          · exact h2 c hc
          · rw [List.mem_singleton] at hc; subst hc; decide +kernel
      · exact h2 c hc
theorem head_run : ∀ (rows : List Row) (r : Row) (res : List (List Nat)) (pre : List Nat), (∀ q ∈ r :: rows, q.ok) →
    endP ((joinL [44, 32] ((r :: rows).map writ)).foldl stepP ⟨res, pre, false, false⟩) = res ++ (pre ++ raw r) :: rows.map fun q => 32 :: raw q := by
  intro rows
  induction rows with
  | nil =>
    intro r res pre h
    show endP ((writ r).foldl stepP _) = _
    rw [writ_step (h r (.head _))]
    have : pre ++ raw r ≠ [] := by intro e; exact raw_ne r (List.append_eq_nil_iff.mp e).2
    simp [endP, raw_ne r]
  | cons q t ih =>
    intro r res pre h
    show endP ((writ r ++ [44, 32] ++ joinL [44, 32] ((q :: t).map writ)).foldl stepP _) = _
    rw [List.foldl_append, List.foldl_append, writ_step (h r (.head _))]
    have e : List.foldl stepP ⟨res, pre ++ raw r, false, false⟩ [44, 32] = ⟨res ++ [pre ++ raw r], [32], false, false⟩ := by simp [stepP]
    rw [e, ih q _ _ (fun x hx => h x (.tail _ hx))]
    simp
theorem pl_parts {rows : List Row} (h : ∀ r ∈ rows, r.ok) : ((endP (runP (headerL rows))).map fun x => Dat.str (Txt.strip (S x))) = rows.map fun r => sd (rawOf (kvOf r)) := by
  cases rows with
  | nil => rfl
  | cons r t =>
    unfold runP headerL
    rw [head_run t r [] [] h, List.nil_append, List.nil_append, List.map_cons, List.map_map, List.map_cons, (strip_raw (raw_all (h r (.head _)))).1]
    refine congrArg (List.cons _) (List.map_congr_left fun q hq => ?_)
    simp only [Function.comp]
    rw [(strip_raw (raw_all (h q (.tail _ hq)))).2]
    rfl
end
section -- P4
inductive Prs : List Dat → Prop
  | nil : Prs []
  | word {r : Int} {s : Str} {l : List Dat} : r ≠ 100 → Prs l → Prs (.int r :: .str s :: l)
  | num {n : Int} {l : List Dat} : Prs l → Prs (.int 100 :: .int n :: l)
theorem Prs.cmp {a b : List Dat} (ha : Prs a) (hb : Prs b) : cmpOk a b := by
  induction ha generalizing b with
  | nil => cases b <;> trivial
  | word hr _ ih =>
    cases hb with
    | nil => trivial
    | word hr' hl => exact ⟨trivial, fun _ => ⟨trivial, fun _ => ih hl⟩⟩
    | num hl => exact ⟨trivial, fun e => absurd (by simpa [itEq] using e) hr⟩
  | num _ ih =>
    cases hb with
    | nil => trivial
    | word hr' hl => exact ⟨trivial, fun e => absurd (by simpa [itEq] using e : (100 : Int) = _).symm hr'⟩
    | num hl => exact ⟨trivial, fun _ => ⟨trivial, fun _ => ih hl⟩⟩
theorem ranks_ne : ∀ wd < 13, ranksI.getD wd 0 ≠ 100 := by decide
theorem prs_things {wd fg : Nat} (hw : wd < 13) {l : List Dat} (hl : Prs l) : Prs (thingsD wd fg ++ l) := by
  unfold thingsD
  split <;> split
  · exact .word (ranks_ne _ hw) (.num hl)
  · exact .word (ranks_ne _ hw) hl
  · exact .num hl
  · exact hl
theorem prs_row {r : Row} (h : r.ok) : Prs r.things := by
  unfold Row.things
  rw [← List.append_nil (thingsD r.w1 r.f1 ++ _), List.append_assoc]
  exact prs_things h.w1 (prs_things h.w2 .nil)
theorem pl_cmp {r q : Row} (h : r.ok) (h' : q.ok) : cmpOk r.things q.things := (prs_row h).cmp (prs_row h')
/-- a version's pieces -/
def wdD (wd : Nat) : List Dat := if 0 < wd then [.int (ranksI.getD wd 0), .str (wordsS.getD wd Str.empty)] else []
def fgD (fg : Nat) : List Dat := if 0 < fg then [.int 100, .int (worthI.getD fg 0)] else []
theorem S_wordL (wd : Nat) : S (wordL wd) = wordsS.getD wd Str.empty := by unfold S wordL; simp
theorem S_numL (fg : Nat) : S (numL fg) = numsS.getD fg Str.empty := by unfold S numL; simp
theorem piece_nil : PieceOK [] [] := .inl ⟨by decide +kernel, rfl⟩
theorem word_no : ∀ wd < 13, 0 < wd → Txt.contains (Str.ofString "._+-") (S (wordL wd)) = false := by decide +kernel
theorem num_no : ∀ fg < 10, 0 < fg → Txt.contains (Str.ofString "._+-") (S (numL fg)) = false := by decide +kernel
theorem num_val : ∀ fg < 10, 0 < fg → PySem.intText? (S (numL fg)) = some (worthI.getD fg 0) ∧ (S (numL fg)).length ≤ 640 := by decide +kernel
theorem piece_word {wd : Nat} (h : wd < 13) : PieceOK (wordL wd) (wdD wd) := by
  unfold wdD
  split
  · rename_i hp
    exact .inr (.inl ⟨word_no _ h hp, wd, hp, h, S_wordL wd, by rw [S_wordL]⟩)
  · obtain rfl : wd = 0 := by omega
    exact piece_nil
theorem piece_num {fg : Nat} (h : fg < 10) : PieceOK (numL fg) (fgD fg) := by
  unfold fgD
  split
  · rename_i hp
    exact .inr (.inr ⟨num_no _ h hp, _, (num_val _ h hp).2, (num_val _ h hp).1, rfl⟩)
  · obtain rfl : fg = 0 := by omega
    exact piece_nil
theorem piece_sgn : ∀ sg < 4, Txt.contains (Str.ofString "._+-") (S [[46, 45, 95, 43].getD sg 0]) = true := by decide +kernel
theorem sgn_ok : ∀ j < 4, sgn ([46, 45, 95, 43].getD j 0) = true ∧ dig ([46, 45, 95, 43].getD j 0) = false := by decide +kernel
theorem word_plain : ∀ wd < 13, (wordL wd).all plain = true := by decide +kernel
theorem num_dig : ∀ fg < 10, (numL fg).all dig = true := by decide +kernel
theorem num_ne : ∀ fg < 10, 0 < fg → numL fg ≠ [] := by decide +kernel
/-- pieces and what they give -/
inductive Pcs : List (List Nat) → List (List Dat) → Prop
  | nil : Pcs [] []
  | cons {x : List Nat} {is : List Dat} {ps : List (List Nat)} {itss : List (List Dat)} : PieceOK x is → Pcs ps itss → Pcs (x :: ps) (is :: itss)
theorem Pcs.len {ps : List (List Nat)} {itss : List (List Dat)} (h : Pcs ps itss) : itss.length = ps.length := by
  induction h with
  | nil => rfl
  | cons _ _ ih => simp [ih]
theorem Pcs.at {ps : List (List Nat)} {itss : List (List Dat)} (h : Pcs ps itss) : ∀ (i : Nat) x is, ps[i]? = some x → itss[i]? = some is → PieceOK x is := by
  induction h with
  | nil => intro i x is h; simp at h
  | cons hp _ ih =>
    intro i x is h1 h2
    cases i with
    | zero => simp at h1 h2; subst h1 h2; exact hp
    | succ i => simp at h1 h2; exact ih i x is h1 h2
theorem half_sp {wd fg : Nat} (hw : wd < 13) (hf : fg < 10) {r : List Nat} {ps : List (List Nat)} {itss : List (List Dat)} (hr : ∀ c ∈ r.head?, dig c = false)
    (hs : ∃ m qs js, r = m ++ qs ∧ m = [] ∧ Sp r ps ∧ Pcs ps itss ∧ js = itss.flatten)
    (ho : Sp (wordL wd ++ r) (wordL wd :: ps.drop 1) ∧ Pcs (wordL wd :: ps.drop 1) (wdD wd :: itss.drop 1) ∧ (itss.drop 1).flatten = itss.flatten) :
    ∃ ps' itss', Sp ((wordL wd ++ numL fg) ++ r) ps' ∧ Pcs ps' itss' ∧ itss'.flatten = thingsD wd fg ++ itss.flatten ∧ ps'.length ≤ ps.length + 2 := by
  obtain ⟨m, qs, js, _, _, hsp, hpc, _⟩ := hs
  have hpl : ∀ c ∈ wordL wd, plain c = true := fun c hc => List.all_eq_true.mp (word_plain wd hw) c hc
  by_cases h0 : 0 < fg
  · have hd : ∀ c ∈ numL fg, dig c = true := fun c hc => List.all_eq_true.mp (num_dig fg hf) c hc
    refine ⟨wordL wd :: numL fg :: ps, wdD wd :: fgD fg :: itss, ?_, .cons (piece_word hw) (.cons (piece_num hf) hpc), ?_, by simp⟩
    · rw [List.append_assoc]
      exact .dig hpl (num_ne fg hf h0) hd hr hsp
    · simp [thingsD, wdD, fgD]
  · obtain rfl : fg = 0 := by omega
    refine ⟨wordL wd :: ps.drop 1, wdD wd :: itss.drop 1, ?_, ho.2.1, ?_, by simp; omega⟩
    · have : numL 0 = [] := rfl
      rw [this, List.append_nil]
      exact ho.1
    · rw [List.flatten_cons, ho.2.2]
      simp [thingsD, wdD]
theorem pl_ver {r : Row} (h : r.ok) : VerOK r.ver r.things := by
  refine ⟨?_, by have := (ver_len h).2; omega⟩
  have hp1 : ∀ c ∈ wordL r.w1, plain c = true := fun c hc => List.all_eq_true.mp (word_plain _ h.w1) c hc
  have hp2 : ∀ c ∈ wordL r.w2, plain c = true := fun c hc => List.all_eq_true.mp (word_plain _ h.w2) c hc
  obtain ⟨ps2, itss2, hs2, hc2, hf2, hl2⟩ := half_sp (ps := [[]]) (itss := [[]]) h.w2 h.f2 (r := []) (fun c hc => by cases hc)
    ⟨[], [], _, rfl, rfl, .fin (fun c hc => nomatch hc), .cons piece_nil .nil, rfl⟩
    ⟨by rw [List.append_nil]; exact .fin hp2, .cons (piece_word h.w2) .nil, rfl⟩
  rw [List.append_nil] at hs2
  have hsg := sgn_ok _ h.sg
  have hps := piece_sgn _ h.sg
  generalize hc : [46, 45, 95, 43].getD r.sg 0 = c at hsg hps
  have hpc : PieceOK [c] [] := .inl ⟨hps, rfl⟩
  obtain ⟨ps1, itss1, hs1, hc1, hf1, hl1⟩ := half_sp (ps := [] :: [c] :: ps2) (itss := [] :: [] :: itss2) h.w1 h.f1 (r := c :: (wordL r.w2 ++ numL r.f2)) (fun d hd => by
      simp at hd; subst hd; exact hsg.2)
    ⟨[], _, _, rfl, rfl, .sgn (m := []) (fun c hc => nomatch hc) hsg.1 hs2, .cons piece_nil (.cons hpc hc2), rfl⟩
    ⟨.sgn hp1 hsg.1 hs2, .cons (piece_word h.w1) (.cons hpc hc2), rfl⟩
  refine ⟨ps1, itss1, ?_, hc1.len, hc1.at, ?_, ?_, ?_⟩
  · unfold Row.ver
    rw [hc, List.append_assoc]
    exact hs1
  · rw [hf1, List.flatten_cons, List.flatten_cons, hf2]
    unfold Row.things
    simp
  · simp at hl1 hl2; omega
  · have h1 := things_len r.w1 r.f1
    have h2 := things_len r.w2 r.f2
    unfold Row.things
    rw [List.length_append]; omega
end
section -- P5
/-- a path as its pieces, each behind a slash -/
def enc (u : List (List Nat)) : List Nat := u.flatMap fun x => 47 :: x
theorem pathL_enc : ∀ u : List (List Nat), u ≠ [] → pathL u = enc u
  | [], h => absurd rfl h
  | [x], _ => by simp [pathL, joinL, enc]
  | x :: y :: r, _ => by
    have := pathL_enc (y :: r) (by simp)
    unfold pathL at this ⊢
    simp only [joinL, enc, List.flatMap_cons] at this ⊢
    rw [List.append_assoc, List.singleton_append, this]
    simp
def pcOk (x : List Nat) : Prop := x = [] ∨ x = [97] ∨ x = [98]
theorem enc_head (t : List (List Nat)) : enc t = [] ∨ ∃ z, enc t = 47 :: z := by
  cases t with
  | nil => exact .inl rfl
  | cons x r => exact .inr ⟨_, by simp [enc]; rfl⟩
theorem enc_inj : ∀ (a b : List (List Nat)), (∀ x ∈ a, pcOk x) → (∀ x ∈ b, pcOk x) → enc a = enc b → a = b
  | [], [], _, _, _ => rfl
  | [], y :: t, _, _, h => by simp [enc] at h
  | x :: r, [], _, _, h => by simp [enc] at h
  | x :: r, y :: t, ha, hb, h => by
    have ih := enc_inj r t (fun z hz => ha z (.tail _ hz)) (fun z hz => hb z (.tail _ hz))
    have h' : x ++ enc r = y ++ enc t := by simpa [enc] using h
    have hr := enc_head r
    have ht := enc_head t
    rcases ha x (.head _) with rfl | rfl | rfl <;> rcases hb y (.head _) with rfl | rfl | rfl
    all_goals first
      | exact congrArg _ (ih (by simpa only [List.nil_append, List.cons_append, List.cons.injEq, true_and] using h'))
      | (exfalso; rcases hr with e | ⟨_, e⟩ <;> rcases ht with e' | ⟨_, e'⟩ <;> (rw [e, e'] at h'; simp at h'))
theorem enc_pre : ∀ (u t : List (List Nat)), (∀ x ∈ u, pcOk x) → (∀ x ∈ t, pcOk x) → ((enc u ++ [47]) <+: enc t ↔ u.length < t.length ∧ t.take u.length = u)
  | [], [], _, _ => by simp [enc]
  | [], y :: t, _, _ => by simp [enc, List.flatMap_cons]
  | x :: r, [], _, _ => by simp [enc]
  | x :: r, y :: t, ha, hb => by
    have ih := enc_pre r t (fun z hz => ha z (.tail _ hz)) (fun z hz => hb z (.tail _ hz))
    have e1 : enc (x :: r) ++ [47] = 47 :: (x ++ (enc r ++ [47])) := by simp [enc]
    have e2 : enc (y :: t) = 47 :: (y ++ enc t) := by simp [enc]
    rw [e1, e2, List.cons_prefix_cons]
    simp only [true_and, List.length_cons, List.take_succ_cons, List.cons.injEq, Nat.add_lt_add_iff_right]
    have hr : ∃ z, enc r ++ [47] = 47 :: z := by
      rcases enc_head r with e | ⟨z, e⟩
      · exact ⟨[], by rw [e]; rfl⟩
      · exact ⟨z ++ [47], by rw [e]; rfl⟩
    have ht := enc_head t
    rcases ha x (.head _) with rfl | rfl | rfl <;> rcases hb y (.head _) with rfl | rfl | rfl
    all_goals first
      | (simp only [List.nil_append, List.cons_append, List.cons_prefix_cons, true_and]; exact ih)
      | (constructor
         · intro h
           exfalso
           obtain ⟨z, e⟩ := hr
           rw [e] at h
           rcases ht with e' | ⟨_, e'⟩ <;> (rw [e'] at h; simp at h)
         · intro h
           exact absurd h.2.1 (by simp))
theorem enc_last {b : List (List Nat)} (hb : b ≠ []) (hp : ∀ x ∈ b, pcOk x) : prefL (enc b) = enc (upperL b) ++ [47] := by
  obtain ⟨u, x, rfl⟩ : ∃ u x, b = u ++ [x] := ⟨b.dropLast, b.getLast hb, (List.dropLast_concat_getLast hb).symm⟩
  have e : enc (u ++ [x]) = enc u ++ 47 :: x := by simp [enc]
  have hl : (u ++ [x]).getLast? = some x := by simp
  unfold upperL prefL
  rw [hl, e]
  rcases hp x (by simp) with rfl | rfl | rfl
  · have : List.drop ((enc u ++ [47]).length - 1) (enc u ++ [47]) = [47] := by simp
    rw [if_pos this, if_pos rfl]
    simp
  · have : List.drop ((enc u ++ [47, 97]).length - 1) (enc u ++ [47, 97]) = [97] := by
      rw [show enc u ++ [47, 97] = (enc u ++ [47]) ++ [97] by simp]; simp
    rw [this, if_neg (by decide), if_neg (by simp), e]
  · have : List.drop ((enc u ++ [47, 98]).length - 1) (enc u ++ [47, 98]) = [98] := by
      rw [show enc u ++ [47, 98] = (enc u ++ [47]) ++ [98] by simp]; simp
    rw [this, if_neg (by decide), if_neg (by simp), e]
theorem upper_mem {b : List (List Nat)} {x : List Nat} (h : x ∈ upperL b) : x ∈ b := by
  unfold upperL at h
  split at h
  · exact List.mem_of_mem_take h
  · exact h
theorem sub_covers {r : Row} {host : List Nat} {pieces : List (List Nat)} (hp : pieces ≠ []) (hs : ∀ x ∈ pieces, pcOk x) :
    subB ((keyOf r).take 1) ((keyOf r).drop 1) host (pathL pieces) = (decide (r.hostL = host) && coversB r.pieces pieces) := by
  have hr : ∀ x ∈ r.pieces, pcOk x := pl_pieces r
  have hne := r.pieces_ne
  have e1 : (keyOf r).take 1 = r.hostL := by unfold keyOf Row.hostL; simp
  have e2 : (keyOf r).drop 1 = enc r.pieces := by rw [← pathL_enc _ hne]; unfold keyOf Row.hostL; simp
  rw [e1, e2, pathL_enc _ hp]
  unfold subB coversB
  by_cases hh : r.hostL = host
  · simp only [hh, true_and, decide_true, Bool.true_and, if_true]
    by_cases he : r.pieces = pieces
    · simp [he]
    · have : enc r.pieces ≠ enc pieces := fun e => he (enc_inj _ _ hr hs e)
      rw [if_neg this, enc_last hne hr]
      simp only [he, decide_false, Bool.false_or]
      rw [Bool.eq_iff_iff]
      simp only [decide_eq_true_eq, Bool.and_eq_true]
      rw [← enc_pre _ _ (fun x hx => hr x (upper_mem hx)) hs, List.prefix_iff_eq_take, eq_comm]
  · simp [hh]
-- order
theorem le_of_it {x y : Dat} (h : itEq x y = true) : x = y := by
  cases x <;> cases y <;> simp_all [itEq]
theorem it_refl {x y : Dat} (h : sameKind x y) : itEq x x = true := by
  cases x <;> cases y <;> simp_all [itEq, sameKind]
theorem it_gt_refl (x : Dat) : itGt x x = false := by
  cases x <;> simp [itGt, List.lt_irrefl]
theorem it_anti {x y : Dat} (hk : sameKind x y) (h1 : itGt x y = false) (h2 : itGt y x = false) : x = y := by
  cases x <;> cases y <;> simp only [sameKind] at hk
  · simp only [itGt, decide_eq_false_iff_not] at h1 h2
    congr 1; omega
  · rename_i a b
    simp only [itGt, decide_eq_false_iff_not] at h1 h2
    have e : a.cps.toList = b.cps.toList := List.le_antisymm (List.not_lt.mp h1) (List.not_lt.mp h2)
    obtain ⟨⟨a⟩⟩ := a
    obtain ⟨⟨b⟩⟩ := b
    simp at e
    rw [e]
theorem it_trans {x y z : Dat} (k1 : sameKind x y) (k2 : sameKind y z) (h1 : itGt x y = false) (h2 : itGt y z = false) : itGt x z = false := by
  cases x <;> cases y <;> simp only [sameKind] at k1 <;> cases z <;> simp only [sameKind] at k2
  · simp only [itGt, decide_eq_false_iff_not] at h1 h2 ⊢
    omega
  · simp only [itGt, decide_eq_false_iff_not] at h1 h2 ⊢
    exact List.not_lt.mpr (List.le_trans (List.not_lt.mp h1) (List.not_lt.mp h2))
theorem it_asym {x y : Dat} (hk : sameKind x y) (h : itGt x y = true) : itGt y x = false := by
  cases x <;> cases y <;> simp only [sameKind] at hk
  · simp only [itGt, decide_eq_true_eq, decide_eq_false_iff_not] at h ⊢
    omega
  · simp only [itGt, decide_eq_true_eq, decide_eq_false_iff_not] at h ⊢
    exact fun e => List.lt_irrefl _ (List.lt_trans e h)
theorem gt_asym : ∀ (a b : List Dat), cmpOk a b → gtD a b = true → gtD b a = false
  | [], _, _, h => by simp [gtD] at h
  | _ :: _, [], _, _ => rfl
  | x :: xs, y :: ys, hc, h => by
    unfold gtD at h ⊢
    by_cases e : itEq x y = true
    · have e2 := le_of_it e
      subst e2
      rw [if_pos e] at h ⊢
      exact gt_asym xs ys (hc.2 e) h
    · rw [if_neg e] at h
      have e' : ¬ itEq y x = true := fun e2 => e (by have := le_of_it e2; subst this; exact e2)
      rw [if_neg e']
      exact it_asym hc.1 h
theorem gt_ntrans : ∀ (a b c : List Dat), cmpOk a b → cmpOk b c → cmpOk a c → gtD a b = false → gtD b c = false → gtD a c = false
  | [], _, _, _, _, _, _, _ => by simp [gtD]
  | _ :: _, [], _, _, _, _, h, _ => by simp [gtD] at h
  | _ :: _, _ :: _, [], _, _, _, _, h => by simp [gtD] at h
  | x :: xs, y :: ys, z :: zs, k1, k2, k3, h1, h2 => by
    unfold gtD at h1 h2 ⊢
    have g1 : itGt x y = false := by
      by_cases e : itEq x y = true
      · have := le_of_it e; subst this; exact it_gt_refl _
      · rwa [if_neg e] at h1
    have g2 : itGt y z = false := by
      by_cases e : itEq y z = true
      · have := le_of_it e; subst this; exact it_gt_refl _
      · rwa [if_neg e] at h2
    by_cases e : itEq x z = true
    · have e2 := le_of_it e
      subst e2
      have e3 := it_anti k1.1 g1 g2
      subst e3
      rw [if_pos e] at h1 h2 ⊢
      exact gt_ntrans xs ys zs (k1.2 e) (k2.2 e) (k3.2 e) h1 h2
    · rw [if_neg e]
      exact it_trans k1.1 k2.1 g1 g2
/-- the best so far is the first that none is ahead of -/
def stepR (best : Option RK) (p : RK) : Option RK := match best with | none => some p | some b => if gtD p.2.things b.2.things then some p else some b
def BestOf (l : List RK) (best : Option RK) : Prop := (l = [] ∧ best = none) ∨ ∃ l1 b l2, best = some b ∧ l = l1 ++ b :: l2 ∧ (∀ q ∈ l1, gtD b.2.things q.2.things = true) ∧ (∀ q ∈ l2, gtD q.2.things b.2.things = false)
theorem best_step {l : List RK} {best : Option RK} {p : RK} (hok : ∀ q ∈ l, q.2.ok) (hp : p.2.ok) (h : BestOf l best) : BestOf (l ++ [p]) (stepR best p) := by
  rcases h with ⟨rfl, rfl⟩ | ⟨l1, b, l2, rfl, rfl, h1, h2⟩
  · exact .inr ⟨[], p, [], rfl, rfl, (fun _ h => nomatch h), (fun _ h => nomatch h)⟩
  · have hb : b.2.ok := hok b (by simp)
    unfold stepR
    dsimp only
    by_cases hg : gtD p.2.things b.2.things = true
    · rw [if_pos hg]
      refine .inr ⟨l1 ++ b :: l2, p, [], rfl, rfl, fun q hq => ?_, fun _ h => nomatch h⟩
      have hq' := hok q hq
      have hqb : gtD q.2.things b.2.things = false := by
        rcases List.mem_append.mp hq with hq | hq
        · exact gt_asym _ _ (pl_cmp hb hq') (h1 q hq)
        · rcases List.mem_cons.mp hq with rfl | hq
          · cases e : gtD q.2.things q.2.things with
            | false => rfl
            | true => rw [← e, gt_asym _ _ (pl_cmp hb hb) e]
          · exact h2 q hq
      cases e : gtD p.2.things q.2.things with
      | true => rfl
      | false => rw [gt_ntrans _ _ _ (pl_cmp hp hq') (pl_cmp hq' hb) (pl_cmp hp hb) e hqb] at hg; cases hg
    · rw [if_neg hg]
      refine .inr ⟨l1, b, l2 ++ [p], rfl, by simp, h1, fun q hq => ?_⟩
      rcases List.mem_append.mp hq with hq | hq
      · exact h2 q hq
      · rw [List.mem_singleton.mp hq]; simpa using hg
theorem best_fold : ∀ (l pre : List RK) (best : Option RK), (∀ q ∈ pre ++ l, q.2.ok) → BestOf pre best → BestOf (pre ++ l) (l.foldl stepR best)
  | [], pre, best, _, h => by simpa using h
  | p :: l, pre, best, hok, h => by
    have := best_fold l (pre ++ [p]) (stepR best p) (by simpa using hok) (best_step (fun q hq => hok q (by simp [hq])) (hok p (by simp)) h)
    simpa using this
theorem best_head {l : List RK} {best : Option RK} (hok : ∀ q ∈ l, q.2.ok) (h : BestOf l best) : (aheadL l).head? = best := by
  rcases h with ⟨rfl, rfl⟩ | ⟨l1, b, l2, rfl, rfl, h1, h2⟩
  · rfl
  · have hb : b.2.ok := hok b (by simp)
    have hirr : gtD b.2.things b.2.things = false := by
      cases e : gtD b.2.things b.2.things with
      | false => rfl
      | true => rw [← e, gt_asym _ _ (pl_cmp hb hb) e]
    unfold aheadL
    rw [List.filter_append]
    have f1 : l1.filter (fun p => ((l1 ++ b :: l2).filter fun q => gtD q.2.things p.2.things).isEmpty) = [] := by
      rw [List.filter_eq_nil_iff]
      intro p hp e
      rw [List.isEmpty_iff, List.filter_eq_nil_iff] at e
      exact e b (by simp) (h1 p hp)
    have f2 : ((l1 ++ b :: l2).filter fun q => gtD q.2.things b.2.things).isEmpty = true := by
      rw [List.isEmpty_iff, List.filter_eq_nil_iff]
      intro q hq
      rw [Bool.not_eq_true]
      have hq' := hok q hq
      rcases List.mem_append.mp hq with hq | hq
      · exact gt_asym _ _ (pl_cmp hb hq') (h1 q hq)
      · rcases List.mem_cons.mp hq with rfl | hq
        · exact hirr
        · exact h2 q hq
    rw [f1, List.nil_append, List.filter_cons, if_pos f2]
    rfl
def rk2kt (p : RK) : KT := (p.1, p.2.things)
theorem found_fold {host path : List Nat} {pieces : List (List Nat)} : ∀ (l : List RK) (best : Option RK), (∀ p ∈ l, subB (p.1.take 1) (p.1.drop 1) host path = (decide (p.2.hostL = host) && coversB p.2.pieces pieces)) →
    (l.map rk2kt).foldl (stepF host path) (best.map rk2kt) = ((aboveL l host pieces).foldl stepR best).map rk2kt
  | [], best, _ => rfl
  | p :: l, best, h => by
    have ih := fun best => found_fold (host := host) (path := path) (pieces := pieces) l best (fun q hq => h q (.tail _ hq))
    have hp := h p (.head _)
    rw [List.map_cons, List.foldl_cons]
    unfold aboveL at ih ⊢
    rw [List.filter_cons]
    have hst : stepF host path (best.map rk2kt) (rk2kt p) = (if (decide (p.2.hostL = host) && coversB p.2.pieces pieces) = true then stepR best p else best).map rk2kt := by
      unfold stepF
      have : subB ((rk2kt p).1.take 1) ((rk2kt p).1.drop 1) host path = (decide (p.2.hostL = host) && coversB p.2.pieces pieces) := hp
      rw [this]
      split
      · cases best with
        | none => rfl
        | some b =>
          show (if gtD p.2.things b.2.things = true then some (rk2kt p) else some (rk2kt b)) = _
          unfold stepR
          dsimp only
          split <;> rfl
      · rfl
    rw [hst, ih]
    split <;> rfl
theorem pl_due {rows : List Row} (h : ∀ r ∈ rows, r.ok) {host : List Nat} (hh : host = [104] ∨ host = [107]) {pieces : List (List Nat)} (hp : pieces ≠ []) (hs : ∀ x ∈ pieces, x = [] ∨ x = [97] ∨ x = [98]) :
    optD (foundL (ktsL rows) host (pathL pieces)) = optR (dueL (tellL rows) host pieces) := by
  have e : foundL (ktsL rows) host (pathL pieces) = ((aboveL (tellL rows) host pieces).foldl stepR none).map rk2kt :=
    found_fold (tellL rows) none fun p hpm => by
      rw [(pl_mem hpm).2]
      exact sub_covers hp hs
  have hok : ∀ q ∈ aboveL (tellL rows) host pieces, q.2.ok := fun q hq => h _ (pl_mem (List.mem_filter.mp hq).1).1
  have hb := best_head hok (by have := best_fold (aboveL (tellL rows) host pieces) [] none (by simpa using hok) (.inl ⟨rfl, rfl⟩); simpa using this)
  rw [e]
  unfold dueL
  rw [hb]
  cases (aboveL (tellL rows) host pieces).foldl stepR none <;> rfl
end
section -- L1
theorem led3 {mu : Led} {c1 c2 c3 : Addr} {o1 o2 o3 : Obj} (h : mu.map (·.1) = [c1, c2, c3]) (h1 : mu[0]? = some (c1, o1)) (h2 : mu[1]? = some (c2, o2)) (h3 : mu[2]? = some (c3, o3)) : mu = [(c1, o1), (c2, o2), (c3, o3)] := by
  refine ledN h fun i p e => ?_
  cases i with
  | zero => rw [h1, ← e]; rfl
  | succ i => cases i with
    | zero => rw [h2, ← e]; rfl
    | succ i => cases i with
      | zero => rw [h3, ← e]; rfl
      | succ i => cases e
section
variable {prog : Program} {w : World} {A : Around} {E : Value → Shared → Prop} {s : Shared} {h₀ : Heap} {m : Str → Option Value} {mu fr fr₀ : Led} {L : Addr} {env : Env}
/-- entering a def with cells, under the caller -/
theorem enterOnC {f : Addr} {vals : List Value} {R : Result → Shared → Prop} {name qual : Str} {params : Arguments} {body : List Stmt} {scope : Scope} {dV kV doc pm ct oc cc : Value} {an od cd' : Option Addr} {osl csl : Array (Option Value)}
    {n c : Nat} {cvs : Array Value} {ctk : Tok} (i : Nat) (bs : Bd)
    (hA : AOk A (n + 1)) (hB : Bs w s.heap)
    (ho : (KF w)[i + 1]? = some (f, ⟨oc, od, .func (fnOf name qual params body scope dV kV doc pm an (.ref c) ct), osl⟩)) (hcd : (KF w)[i]? = some (c, ⟨cc, cd', .fields cvs, csl⟩)) (hcq : cvs[1]? = some (.str qual ctk))
    (hbind : bindArgs (fnOf name qual params body scope dV kV doc pm an (.ref c) ct) ⟨vals, []⟩ = pure bs)
    (hkind : ∀ L, ∀ x ∈ bs, scope.names.lookup x.1 = some .local ∨ (scope.names.lookup x.1 = some .cell ∧ ((cellsFrom (L + 1) scope.names []).lookup x.1).isSome = true))
    (hnd : ∀ L, ∀ p ∈ cellsFrom (L + 1) scope.names [], (cellsFrom (L + 1) scope.names []).lookup p.1 = some p.2)
    (h : ∀ L h₁ tk mu, mu.map (·.1) = (cellsFrom (L + 1) scope.names []).map (·.2) → (∀ (i : Nat) (n : Str) (c : Addr), (cellsFrom (L + 1) scope.names [])[i]? = some (n, c) → ∃ o : Obj, mu[i]? = some (c, o) ∧ o.data = .cell (bindC (envX qual scope L f (.ref c) (cellsFrom (L + 1) scope.names [])).kindOf bs (fun _ => none) n)) →
      W s.heap [] L (bindL (envX qual scope L f (.ref c) (cellsFrom (L + 1) scope.names [])).kindOf bs fun _ => none) mu [] h₁ → AOk (A.deeper (envX qual scope L f (.ref c) (cellsFrom (L + 1) scope.names []))) n →
      wpOn (model prog w) (A.deeper (envX qual scope L f (.ref c) (cellsFrom (L + 1) scope.names []))) (execs body (envX qual scope L f (.ref c) (cellsFrom (L + 1) scope.names [])))
        (fun fl s' => R (.ok (.ret (match fl with | .ret v => v | _ => .none))) s') (fun _ _ => False) { s with heap := h₁, toks := tk })
    (hco : scope.isCoroutine = false := by rfl) (hgen : scope.isGenerator = false := by rfl) (hk : scope.kind = .function := by rfl) :
    codeOn (model prog w) A (.call (.ref f) ⟨vals, []⟩) R s := by
  refine codeOn_function (fd := fnOf name qual params body scope dV kV doc pm an (.ref c) ct) (body := body) (by have := hA.dep; omega) (hB.at ho) rfl hco hgen rfl ⟨_, _, _, _, rfl, hB.at hcd, rfl, hcq⟩ ?_
  rw [hbind]
  refine wpAny_pure (wpAny_newFunctionEnv_cells hk (hkind _) fun env he s' x => ?_)
  subst he
  obtain ⟨mu, h1, h2, hW⟩ := W.cells (fr := []) x rfl (fun _ hp => nomatch hp) (hnd _)
  obtain ⟨h₁, tk, rfl⟩ := x.toInCall.same
  exact ⟨hB.nolimit.keeps x.toInCall.keep, codeOn_func (h s.heap.objs.size h₁ tk mu h1 h2 hW hA.deeper)⟩
theorem sliceL_I {value slice : Expr} {g : Heap} {l : Addr} {vs : List Value} {vl vu : Value} {lo hi : Option Int} {Q : Value → Shared → Prop} (hst : s.heap = g.push { cls := .type "slice", data := .fields #[vl, vu, .none] })
    (hW : W h₀ fr₀ L m mu fr g) (hm : h₀.IsList l vs.toArray) (pl : IsPart vl lo) (pu : IsPart vu hi) (hsz : vs.length ≤ sizeLine)
    (h : ∀ D h', W h₀ fr₀ L m mu ((D, listOf (slicePick vs.toArray lo hi none) 0) :: fr) h' → Q (.ref D) { s with heap := h' })
    (hs : subscripted slice false (.ref l) (.ref g.objs.size) = operate [.ref g.objs.size, .ref l] (getItem (.ref l) (.ref g.objs.size)) := by with_unfolding_all rfl) :
    wpAny (model prog w) A (subscriptTail value slice (.ref l) (.ref g.objs.size)) Q E s := by
  have hg : g.IsList l vs.toArray := by obtain ⟨o, ho, r⟩ := hm; exact ⟨o, hW.keep _ _ ho, r⟩
  have hl : s.heap.IsList l vs.toArray := by rw [hst]; exact hg.push _
  refine kba_turn (value' := anyN) (fun _ => rfl) (subscriptTail_ops hl.typeIs list_getitem_lookup
    (wpAny_getItem_list_slice hl (by rw [hst]; exact Heap.IsSliceOf.new ..) pl pu .none (by simp) ?_ (by simpa using hsz)) hs (fun _ => rfl))
  refine h _ _ ?_
  have W1 : W h₀ fr₀ L m mu fr s.heap := by rw [hst]; exact hW.same (Keep.push _ _)
  exact W1.pushF _
end
section
variable {prog : Program} {w : World} {A : Around} {E : Value → Shared → Prop} {s : Shared} {h₀ : Heap} {env : Env}
theorem callDOn {q i : Nat} {o : Obj} {fd : FuncData} {e : Expr} {rest : List Expr} {pos : Pos} {Q : Value → Shared → Prop} (hB : Bs w h₀) (hq : (KF w)[i]? = some (q, o)) (hd : o.data = .func fd)
    (h : wpAny (model prog w) A (spliced (backTo pos (starEach (e :: rest) env))) (fun vs s₁ => Keep h₀ s₁.heap ∧ wpOn (model prog w) A (call (.ref q) vs) Q E s₁) E s)
    (he : starEach (e :: rest) env = (false, eval e env) :: starEach rest env := by rfl) (hplain : (backTo pos (starEach rest env)).any (·.1) = false := by rfl) :
    wpOn (model prog w) A (callWith pos (.ref q) [] (backTo pos (starEach (e :: rest) env)) []) Q E s := by
  rw [he] at h ⊢
  refine wpOn_callWith (P := fun g => Keep h₀ g) (by show (false || (backTo pos (starEach rest env)).any (·.1)) = false; rw [hplain]; rfl) (fun g hg => ?_) (evalArgs_plain h)
  have := (hB.keep hg).at hq
  obtain ⟨oc, od, dt, sl⟩ := o
  simp only at hd
  subst hd
  exact ⟨.frame, .inl rfl, (Looks.ld (part := none) this).andThen .now⟩
end
theorem find_gen {f : RK → Dat} {rks : List RK} (hn : (rks.map (·.1)).Nodup) {p : RK} (hp : p ∈ rks) : findP (rks.map fun p => (p.1, f p)) p.1 = some (f p) := by
  induction rks with
  | nil => cases hp
  | cons q r ih =>
    unfold findP
    rw [List.map_cons, List.find?_cons]
    rcases List.mem_cons.mp hp with rfl | hp
    · simp
    · have hne : q.1 ≠ p.1 := by
        intro e
        exact (List.nodup_cons.mp hn).1 (List.mem_map.mpr ⟨p, hp, e.symm⟩)
      simp only [hne, decide_false]
      exact ih (List.nodup_cons.mp hn).2 hp
theorem two_lists {h₀ : Heap} {fr₀ fr₂ mu : Led} {L : Addr} {m : Str → Option Value} {h : Heap} {D25 D26 D27 a7 : Addr} {vs7 vs8 : List Value} {n7 : Nat} {u : Value} {ps : List (List Nat)}
    (x : W h₀ fr₀ L m mu ((D27, listOf [Value.ref a7, Value.ref D26].toArray 0) :: (D26, listOf (vs8 ++ [u]).toArray 0) :: (D25, listOf [u].toArray 0) :: fr₂) h) (hm7 : (a7, listOf vs7.toArray n7) ∈ fr₂) (hd7 : DatAll fr₂ vs7 (ps.map sd)) (hd8 : DatAll fr₂ vs8 (ps.map sd)) (hu : DatIn fr₂ u (sd [98])) :
    ∃ fr3 : Led, (∀ p ∈ fr₂, p ∈ fr3) ∧ W h₀ fr₀ L m mu fr3 h ∧ (D27, listOf [Value.ref a7, Value.ref D26].toArray 0) ∈ fr3 ∧ DatAll fr3 [Value.ref a7, Value.ref D26] ([ps, ps ++ [[98]]].map fun x => Dat.list (x.map sd)) := by
  refine ⟨_, fun p hp => .tail _ (.tail _ (.tail _ hp)), x, .head _, .cons (DatIn.list (.tail _ (.tail _ (.tail _ hm7))) (hd7.mono fun p hp => .tail _ (.tail _ (.tail _ hp)))) (.cons (DatIn.list (.tail _ (.head _)) ?_) .nil)⟩
  rw [List.map_append]
  exact (DatAll.append hd8 (.cons hu .nil)).mono fun p hp => .tail _ (.tail _ (.tail _ hp))
theorem pathL_okc {ps : List (List Nat)} (h : ∀ x ∈ ps, x = [] ∨ x = [97] ∨ x = [98]) : okL (pathL ps) ∧ ∀ x ∈ ps, okL x := by
  have h1 : ∀ x ∈ ps, okL x := by
    intro x hx c hc
    rcases h x hx with e | e | e <;> (subst e; first | (rw [List.mem_singleton] at hc; subst hc; decide) | cases hc)
  refine ⟨fun c hc => ?_, h1⟩
  unfold pathL at hc
  rcases List.mem_cons.mp hc with rfl | hc
  · decide
  · exact joinL_all (P := fun c => c < 1114112) [47] (by intro c hc; rw [List.mem_singleton] at hc; subst hc; decide) _ h1 c hc
theorem pick_to5 {vs : List Value} : slicePick vs.toArray none (some 5) none = (vs.take 5).toArray := pick_to 5
theorem datAll_ints {vs : List Value} {ns : List Int} (h : IntsAre vs ns) : DatAll [] vs (ns.map Dat.int) := by
  induction h with
  | nil => exact .nil
  | cons i t _ ih => exact .cons (.int _ _) ih
section
variable {prog : Program} {w : World}
set_option maxHeartbeats 4000000
theorem law_walk {s₁ : Shared} {l : Addr} {vs : List Value} {ns : List Int} (hB : Bs w s₁.heap) (hL : s₁.heap.IsList l vs.toArray) (hI : IntsAre vs ns) (hlen : ns.length ≤ 63) {R : Result → Shared → Prop} (hR : ∀ h' tk, Keep s₁.heap h' → R (.ok (.ret (.bool true))) { s₁ with heap := h', toks := tk }) :
    codeOn (model prog w) callerA (.call (.ref 170) ⟨[.ref l], []⟩) R s₁ := by
  have hline : 200000 ≤ sizeLine := Nat.le_of_ble_eq_true rfl
  have hvl : vs.length = ns.length := hI.length
  refine' enterOnC (n := 4) 91 [(Str.ofString "script", .ref l)] ?hA hB ?h1 ?h2 ?h3 ?h4 ?h5 ?h55 ?h6 ?h8 ?h9 ?h10
  case hA => exact ⟨rfl, by decide, by decide⟩
  case h1 => rfl
  case h2 => rfl
  case h3 => rfl
  case h4 => rfl
  case h5 => intro L y hy; rw [List.mem_singleton.mp hy]; exact .inl rfl
  case h55 =>
    intro L p hp
    have hp' : p ∈ [(Str.ofString "versions", L + 1 + 1 + 1), (Str.ofString "facts", L + 1 + 1), (Str.ofString "told", L + 1)] := hp
    rcases List.mem_cons.mp hp' with rfl | hp'
    · rfl
    rcases List.mem_cons.mp hp' with rfl | hp'
    · rfl
    rw [List.mem_singleton.mp hp']; rfl
  case h8 => rfl
  case h9 => rfl
  case h10 => rfl
  case h6 =>
    intro L h₁ tk mu hm1 hm2 hW hA1
    obtain ⟨oV, hmV, hoV⟩ := hm2 0 _ _ rfl
    obtain ⟨oF, hmF, hoF⟩ := hm2 1 _ _ rfl
    obtain ⟨oT, hmT, hoT⟩ := hm2 2 _ _ rfl
    have hmu' : mu = [(L + 1 + 1 + 1, oV), (L + 1 + 1, oF), (L + 1, oT)] := led3 hm1 hmV hmF hmT
    clear hmV hmF hmT hm1 hm2
    subst hmu'
    have hW' : W s₁.heap [] L (mp [(Str.ofString "script", .ref l)]) [(L + 1 + 1 + 1, oV), (L + 1 + 1, oF), (L + 1, oT)] [] h₁ := by
      have e : (fun y => if y = Str.ofString "script" then some (Value.ref l) else mp [] y) = mp [(Str.ofString "script", .ref l)] := mp_setL [] _ _
      rw [← e]; exact hW
    have hoV' : oV.data = .cell none := hoV
    have hoF' : oF.data = .cell none := hoF
    have hoT' : oT.data = .cell none := hoT
    clear hW hoV hoF hoT
    refine wpOn_execs (on ?_)
    -- rows
    refine' lcA [] ?c1 ?c0 ?h ?c2 ?c3 ?c4 ?c5 ?c6 ?c7 ?c8
    walk_at "la"
    case h =>
    repeat walk_at "m"
    refine newListF hW' ?_ (Nat.le_of_ble_eq_true rfl); intro D1 h1 W1
    repeat walk_at "m"
    refine sliceL_I rfl W1 hL .none (.int _ _) (by omega) ?_
    intro D2 h2 W2
    rw [pick_to5] at W2
    have hint := datAll_ints hI
    refine add_W W2 W2.frs (.tail _ (.head _)) (.head _) ?_ (by show 2 + _ ≤ _; rw [List.length_take]; omega)
    intro D3 h3 W3
    have hxs : ∀ t t' : Tok, DatAll [] ([Value.int 12642 t, Value.int 25897482 t'] ++ vs.take 5) (([12642, 25897482] ++ ns.take 5).map Dat.int) := by
      intro t t'
      rw [List.map_append, List.map_take]
      exact DatAll.append (.cons (.int _ _) (.cons (.int _ _) .nil)) (DatAll.takeD hint 5)
    have hxl : ([12642, 25897482] ++ ns.take 5).length ≤ 7 := by simp; omega
    generalize hxe : ([12642, 25897482] ++ ns.take 5 : List Int) = xs at hxs hxl
    have hrok : ∀ r ∈ xs.map rowOf, r.ok := by
      intro r hr
      obtain ⟨x, _, rfl⟩ := List.mem_map.mp hr
      exact rowN_ok _
    have hB3 := hB.keep W3.keep
    have hxvl : ∀ t t' : Tok, ([Value.int 12642 t, Value.int 25897482 t'] ++ vs.take 5).length = xs.length := by intro t t'; have := (hxs t t').length; simpa using this
    clear W1 W2 hW' hint
    refine CompA.mk (fun i => some ((xs.map rowOf).getD i row0).dat) W3 (itv_list hA1.hh (isList_of W3.frs (.head _))) (fun b hb => by rw [List.mem_singleton.mp hb]; exact ⟨_, W3.frs _ (.head _)⟩) (by rw [List.size_toArray, hxvl]; omega) ?_ ?_
    · rintro C i v fr₁ mu₁ h tk4 E' hi hv hsub W4
      rw [List.size_toArray, hxvl] at hi
      have hv' := itemD (hxs _ _) (by simpa using hi) hv
      simp only [List.getElem_map] at hv'
      obtain ⟨tv, rfl⟩ := datInt hv'
      refine tests_nil (ite_tt ?_)
      repeat walk_at "m"
      refine callD hB3 (i := 66) rfl rfl ?_
      repeat walk_at "m"
      refine ⟨W4.keep, ctrW W4 hB3 (hA1.le (by decide)) (row_ok _ _) ?_⟩
      intro v5 h5 tk5 fr5 W5 hsub5 hv5
      refine ⟨_, _, _, rfl, hsub5, W5, _, rfl, ?_⟩
      have e : (xs.map rowOf).getD i row0 = rowOf xs[i] := by rw [List.getD_eq_getElem?_getD, List.getElem?_map, List.getElem?_eq_getElem hi]; rfl
      rw [e]
      exact hv5
    intro D4 h4 tk4 fr4 W4 hsub4 hD4
    rw [List.size_toArray, hxvl] at hD4
    have hrl : (xs.map rowOf).length ≤ 7 := by simpa using hxl
    have e4 : (List.range xs.length).filterMap (fun i => some ((xs.map rowOf).getD i row0).dat) = (xs.map rowOf).map Row.dat := by
      have := range_fm (fun r : Row => some r.dat) row0 (xs.map rowOf)
      rw [List.length_map] at this
      rw [this, List.filterMap_eq_map']
    rw [e4] at hD4
    clear e4
    generalize xs.map rowOf = rows at *
    clear hxe hxs hxl hxvl W3 hB3 hsub4
    dsimp only
    obtain ⟨_, vR, nR, e, hmR, hdR⟩ := datList hD4
    cases e
    have hvRl : vR.length = rows.length := by have := hdR.length; simpa using this
    -- told
    refine wpOn_execs (wpOn_Assign ?_)
    refine' dcE [] ?c1 ?h ?c2 ?c3 ?c4 ?c5 ?c6
    walk_at "lc"
    case h =>
    repeat walk_at "m"
    refine CompD.mk (fun i => keyOf (rows.getD i row0)) (fun i => (rows.getD i row0).dat) hB W4 (itv_list hA1.hh (isList_of W4.frs hmR)) (fp1 hmR) (by rw [List.size_toArray]; omega) ?_ ?_
    · intro oL hoL hdat C i v fr₁ D oD I oI sl h tk5 hi hv hsub W5
      rw [List.size_toArray, hvRl] at hi
      have hv' := itemD hdR (by simpa using hi) hv
      simp only [List.getElem_map] at hv'
      have e5 : rows.getD i row0 = rows[i] := by rw [List.getD_eq_getElem?_getD, List.getElem?_eq_getElem hi]; rfl
      dsimp only
      rw [e5]
      have hro := hrok _ (List.getElem_mem hi)
      generalize rows[i] = r at *
      obtain ⟨a5, vs5, n5, rfl, hm5, hd5⟩ := datTup (hv'.mono hsub)
      repeat walk_at "m"
      refine sub_tup W5.frs hm5 hd5 (k := 0) (by decide) (by decide) rfl ?_
      intro v6 hv6
      obtain ⟨t6, rfl⟩ := datStr hv6
      repeat walk_at "m"
      refine callD hB (i := 71) rfl rfl ?_
      repeat walk_at "m"
      refine sub_tup W5.frs hm5 hd5 (k := 1) (by decide) (by decide) rfl ?_
      intro v7 hv7
      repeat walk_at "m"
      refine ⟨W5.keep, ctrW W5 hB (hA1.le (by decide)) (path_ok hv7 (by have := pl_psum r hro; omega)) ?_⟩
      intro v8 h8 tk8 fr8 W8 hsub8 hv8
      obtain ⟨t8, rfl⟩ := datStr hv8
      have hkl := (pl_key hro).2.2
      refine add_str ?_ ?_
      rotate_left
      · rw [S_length, S_length, ← List.length_append]; show (keyOf r).length ≤ _; omega
      intro t9 k9
      rw [S_append]
      refine ⟨t9, _, _, fr8, rfl, rfl, hsub8, W8, on ?_⟩
      repeat walk_at "m"
      exact ⟨_, _, _, sl, rfl, fun _ q => q, W8, (hv'.mono hsub).mono hsub8⟩
    intro D5 h5 tk5 fr5 W5 hsub5 hD5
    rw [List.size_toArray, hvRl, pl_told] at hD5
    have hnd := pl_nodup rows
    have hmem : ∀ p ∈ tellL rows, p.2 ∈ rows ∧ p.1 = keyOf p.2 := fun p hp => pl_mem hp
    have htl := pl_len rows
    have W6 := W5.perm (mu' := [(L + 1, oT), (L + 1 + 1 + 1, oV), (L + 1 + 1, oF)]) (List.perm_append_comm (l₁ := [(L + 1, oT)]) (l₂ := [(L + 1 + 1 + 1, oV), (L + 1 + 1, oF)]))
    clear W4 W5
    refine stC W6 hoT' ?_
    intro h7 oT7 hoT7 W7
    clear W6 hoT'
    have hmR := hsub5 _ hmR
    have hdR := hdR.mono hsub5
    have hD4 := hD4.mono hsub5
    clear hsub5
    dsimp only
    -- header
    refine wpOn_execs (on ?_)
    repeat walk_at "m"
    refine GM.join ?_
    dsimp only
    refine callWith_method1 ?_
    repeat walk_at "m"
    refine' lcE [] ?c1 ?h ?c2 ?c3 ?c4 ?c5 ?c6
    walk_at "lc"
    case h =>
    repeat walk_at "m"
    have hB7 := hB.keep W7.keep
    refine CompE.mk (fun i => some (sd (writ (rows.getD i row0)))) W7 (itv_list hA1.hh (isList_of W7.frs hmR)) (fun b hb => by rw [List.mem_singleton.mp hb]; exact ⟨_, W7.frs _ hmR⟩) (by rw [List.size_toArray]; omega) ?_ ?_
    · rintro C i v fr₁ mu₁ h tk8 E' hi hv hsub W8
      rw [List.size_toArray, hvRl] at hi
      have hv' := itemD hdR (by simpa using hi) hv
      simp only [List.getElem_map] at hv'
      have e5 : rows.getD i row0 = rows[i] := by rw [List.getD_eq_getElem?_getD, List.getElem?_eq_getElem hi]; rfl
      dsimp only
      rw [e5]
      have hro := hrok _ (List.getElem_mem hi)
      generalize rows[i] = r at *
      obtain ⟨a5, vs5, n5, rfl, hm5, hd5⟩ := datTup (hv'.mono hsub)
      refine tests_nil (ite_tt ?_)
      repeat walk_at "m"
      refine callD hB7 (i := 76) rfl rfl ?_
      repeat walk_at "m"
      refine sub_tup W8.frs hm5 hd5 (k := 0) (by decide) (by decide) rfl ?_
      intro v6 hv6
      obtain ⟨t6, rfl⟩ := datStr hv6
      repeat walk_at "m"
      refine callD hB7 (i := 71) rfl rfl ?_
      repeat walk_at "m"
      refine sub_tup W8.frs hm5 hd5 (k := 1) (by decide) (by decide) rfl ?_
      intro v7 hv7
      repeat walk_at "m"
      refine ⟨W8.keep, ctrW W8 hB7 (hA1.le (by decide)) (path_ok hv7 (by have := pl_psum r hro; omega)) ?_⟩
      intro v9 h9 tk9 fr9 W9 hsub9 hv9
      obtain ⟨t9, rfl⟩ := datStr hv9
      have hkl := (pl_key hro).2.2
      have hm5 := hsub9 _ hm5
      have hd5 := hd5.mono hsub9
      clear W8
      refine add_str ?_ ?_
      rotate_left
      · rw [S_length, S_length, ← List.length_append]; show (keyOf r).length ≤ _; omega
      intro t10 k10
      rw [S_append]
      repeat walk_at "m"
      refine sub_tup W9.frs hm5 hd5 (k := 2) (by decide) (by decide) rfl ?_
      intro v11 hv11
      obtain ⟨t11, rfl⟩ := datStr hv11
      repeat walk_at "m"
      refine sub_tup W9.frs hm5 hd5 (k := 4) (by decide) (by decide) rfl ?_
      intro v12 hv12
      obtain ⟨t12, rfl⟩ := datInt hv12
      repeat walk_at "m"
      refine ⟨W9.keep, ctrW W9 hB7 (hA1.le (by decide)) (written_ok (k := keyOf r) (by have := pl_written hro; omega)) ?_⟩
      intro v13 h13 tk13 fr13 W13 hsub13 hv13
      exact ⟨_, _, _, rfl, fun p hp => hsub13 _ (hsub9 _ hp), W13, _, rfl, hv13⟩
    intro D8 h8 tk8 fr8 W8 hsub8 hD8
    rw [List.size_toArray, hvRl] at hD8
    have e8 : (List.range rows.length).filterMap (fun i => some (sd (writ (rows.getD i row0)))) = (rows.map writ).map sd := by
      have := range_fm (fun r : Row => some (sd (writ r))) row0 rows
      rw [this, List.filterMap_eq_map', List.map_map]
      rfl
    rw [e8] at hD8
    clear e8 W7 hB7
    repeat walk_at "m"
    obtain ⟨_, v8, n8, e, hm8, hd8⟩ := datList hD8
    cases e
    have hhd := pl_header hrok (by omega)
    have hsum : (((rows.map writ).map S).map (·.length)).sum = (rows.map fun r => (writ r).length).sum := by
      rw [List.map_map, List.map_map]; exact congrArg List.sum (List.map_congr_left fun x _ => S_length _)
    refine join_listW (ys := (rows.map writ).map S) (isList_of W8.frs hm8) (strsAre_of hd8) (by decide) (by rw [hsum, List.length_map, List.length_map]; have := hhd.2; omega) ?_
    intro t9 k9
    rw [show Str.ofString ", " = S [44, 32] from rfl, glued_S]
    show wpAny _ _ (storeName _ _ (.str (S (headerL rows)) t9)) _ _ _
    repeat walk_at "m"
    clear hd8 hm8 hD8 W8
    rename W s₁.heap [] L _ _ _ _ => W9
    have hmR := hsub8 _ hmR
    have hdR := hdR.mono hsub8
    have hD4 := hD4.mono hsub8
    have hD5 := hD5.mono hsub8
    clear hsub8 hsum
    -- facts
    refine wpOn_execs (on ?_)
    repeat walk_at "m"
    refine callD hB (i := 50) rfl rfl ?_
    repeat walk_at "m"
    refine callD hB (i := 53) rfl rfl ?_
    repeat walk_at "m"
    refine ⟨W9.keep, ctrW W9 hB (hA1.le (by decide)) (http_ok (by have := hhd.1; omega)) ?_⟩
    intro v10 h10 tk10 fr10 W10 hsub10 hv10
    rw [pl_parts hrok] at hv10
    repeat walk_at "m"
    refine ⟨W10.keep, ctrW W10 hB (hA1.le (by decide)) (keqv_ok (ps := rows.map kvOf) (by rw [List.map_map]; exact hv10) (fun p hp => by obtain ⟨r, hr, rfl⟩ := List.mem_map.mp hp; exact pl_kvok (hrok r hr)) (by rw [List.length_map]; omega)) ?_⟩
    intro v11 h11 tk11 fr11 W11 hsub11 hv11
    rw [pl_facts] at hv11
    obtain ⟨aF, _, _, rfl, _, _, _, _⟩ := id hv11
    have W12 := W11.perm (mu' := [(L + 1 + 1, oF), (L + 1, oT7), (L + 1 + 1 + 1, oV)]) (List.perm_append_comm (l₁ := [(L + 1 + 1, oF)]) (l₂ := [(L + 1, oT7), (L + 1 + 1 + 1, oV)]))
    refine stC W12 hoF' ?_
    intro h13 oF13 hoF13 W13
    have hs13 : ∀ p ∈ fr8, p ∈ fr11 := fun p hp => hsub11 _ (hsub10 _ hp)
    have hmR := hs13 _ hmR
    have hdR := hdR.mono hs13
    have hD4 := hD4.mono hs13
    have hD5 := hD5.mono hs13
    clear hs13 hsub10 hsub11 W9 W10 W11 W12 hv10 hoF'
    dsimp only
    have hkt : (rkD (tellL rows)).length = (tellL rows).length := by simp
    have hdef : ∀ i, i < (tellL rows).length → ∃ p, p ∈ tellL rows ∧ (tellL rows)[i]? = some p ∧ (tellL rows).getD i ([], row0) = p := fun i hi => ⟨(tellL rows)[i], List.getElem_mem hi, List.getElem?_eq_getElem hi, by rw [List.getD_eq_getElem?_getD, List.getElem?_eq_getElem hi]; rfl⟩
    obtain ⟨aT, oTd, kvT, eT, hmT, hisT, hdpT, hsysT⟩ := id hD5
    cases eT
    -- the first test
    refine wpOn_execs (wpOn_If ?_)
    have cF := W13.mus _ (.head _)
    have cT := W13.mus _ (.tail _ (.head _))
    repeat walk_at "m"
    refine nmU hB W13 (by rfl) PyProof.Rows.Boot.«list» (by decide) ?_
    refine PyProof.Rows.callWith_type1 ?_
    repeat walk_at "m"
    refine nmC (c := L + 1 + 1) (o := oF13) (by rfl) cF hoF13 ?_
    refine getM_items W13.frs hv11 ?_
    dsimp only
    refine callWith_method0 ?_
    refine view_W W13 hv11 ?_
    intro D14 h14 W14
    repeat walk_at "m"
    refine listItems_W hA1.hh W14 (.head _) (hv11.mono fun p hp => .tail _ hp) (by rw [List.length_map]; omega) ?_
    intro D15 h15 tk15 fr15 W15 hsub15 hD15
    have hs15 : ∀ p ∈ fr11, p ∈ fr15 := fun p hp => hsub15 _ (.tail _ hp)
    clear W13 W14 hsub15
    repeat walk_at "m"
    refine' lcE [(Str.ofString "told", L + 1)] ?c1 ?h ?c2 ?c3 ?c4 ?c5 ?c6
    walk_at "lc"
    case h =>
    have cT := W15.mus _ (.tail _ (.head _))
    refine nmC (c := L + 1) (o := oT7) (by rfl) cT hoT7 ?_
    refine CompE.mk (fun i => some (.tuple [sd ((tellL rows).getD i ([], row0)).1, sd ((tellL rows).getD i ([], row0)).2.ver])) W15 (itv_dic hA1.hh W15.frs (hD5.mono hs15)) (fun b hb => by rw [List.mem_singleton.mp hb]; exact ⟨_, W15.frs _ (hs15 _ hmT)⟩) (by rw [hkt]; omega) ?_ ?_
    · rintro C i vk fr₁ mu₁ h tk16 E' hi ⟨k, dk, tkk, hk, rfl⟩ hsub W16
      rw [hkt] at hi
      obtain ⟨p, hp, hpe, hpg⟩ := hdef i hi
      have hk' : k = p.1 := by
        rw [List.getElem?_map, hpe] at hk
        simp at hk
        exact hk.1.symm
      subst hk'
      dsimp only
      rw [hpg]
      refine tests_nil (ite_tt ?_)
      repeat walk_at "m"
      refine nmC (c := L + 1) (o := oT7) (by rfl) (W16.keep _ _ cT) hoT7 ?_
      repeat walk_at "m"
      refine sub_dict W16.frs ((hD5.mono hs15).mono hsub) (find_rk hnd hp) ?_
      intro v17 k17 hv17
      obtain ⟨a17, vs17, n17, rfl, hm17, hd17⟩ := datTup hv17
      repeat walk_at "m"
      refine sub_tup W16.frs hm17 hd17 (k := 2) (by decide) (by decide) rfl ?_
      intro v18 hv18
      repeat walk_at "m"
      refine newTupF W16 ?_ (Nat.le_of_ble_eq_true rfl); intro D19 h19 W19
      refine ⟨_, _, _, rfl, fun p hp => .tail _ hp, W19, _, rfl, DatIn.tuple (.head _) (.cons (.str _ _) (.cons (hv18.mono fun p hp => .tail _ hp) .nil))⟩
    intro D16 h16 tk16 fr16 W16 hsub16 hD16
    have e16 : (List.range (rkD (tellL rows)).length).filterMap (fun i => some (Dat.tuple [sd ((tellL rows).getD i ([], row0)).1, sd ((tellL rows).getD i ([], row0)).2.ver])) = (tellL rows).map fun p => Dat.tuple [sd p.1, sd p.2.ver] := by
      have := range_fm (fun p : RK => some (Dat.tuple [sd p.1, sd p.2.ver])) ([], row0) (tellL rows)
      rw [hkt, this, List.filterMap_eq_map']
    rw [e16] at hD16
    have hD15 := hD15.mono hsub16
    have e15 : itemsD ((tellL rows).map fun p => (p.1, sd p.2.ver)) = (tellL rows).map fun p => Dat.tuple [sd p.1, sd p.2.ver] := by
      unfold itemsD; rw [List.map_map]; rfl
    rw [e15] at hD15
    have ok16 : ∀ d ∈ (tellL rows).map (fun p => Dat.tuple [sd p.1, sd p.2.ver]), kqdOk 8 d = true := by
      intro d hd
      obtain ⟨p, hp, rfl⟩ := List.mem_map.mp hd
      obtain ⟨hp1, hp2⟩ := hmem p hp
      show ([sd p.1, sd p.2.ver].all (kqdOk 7)) = true
      simp only [List.all_cons, List.all_nil, Bool.and_true, Bool.and_eq_true]
      exact ⟨okD (by rw [hp2]; exact (pl_key (hrok _ hp1)).1) 7, okD (pl_verok (hrok _ hp1)) 7⟩
    repeat walk_at "m"
    refine neL_W W16 hD15 hD16 ok16 ok16 hA1.room ?_
    intro c hc
    have hc' : c = false := hc.mpr rfl
    subst hc'
    repeat walk_at "m"
    clear e15 e16 ok16 hD15 hD16 W15
    have hs16 : ∀ p ∈ fr11, p ∈ fr16 := fun p hp => hsub16 _ (hs15 _ hp)
    have hmR := hs16 _ hmR
    have hdR := hdR.mono hs16
    have hD4 := hD4.mono hs16
    have hD5 := hD5.mono hs16
    have hv11 := hv11.mono hs16
    have hmT := hs16 _ hmT
    clear hs16 hs15 hsub16 cF cT hdpT
    refine on ?_
    repeat walk_at "m"
    -- versions
    refine wpOn_execs (wpOn_Assign ?_)
    refine' dcE [(Str.ofString "facts", L + 1 + 1)] ?c1 ?h ?c2 ?c3 ?c4 ?c5 ?c6
    walk_at "lc"
    case h =>
    have cF := W16.mus _ (.head _)
    refine nmC (c := L + 1 + 1) (o := oF13) (by rfl) cF hoF13 ?_
    have hfl : ((tellL rows).map fun p => (p.1, sd p.2.ver)).length = (tellL rows).length := by simp
    obtain ⟨_, oFd, kvF, eF, hmF, hisF, hdpF, hsysF⟩ := id hv11
    cases eF
    refine CompD.mk (fun i => ((tellL rows).getD i ([], row0)).1) (fun i => .list ((tellL rows).getD i ([], row0)).2.things) hB W16 (itv_dic hA1.hh W16.frs hv11) (fp1 hmF) (by rw [hfl]; omega) ?_ ?_
    · intro oL hoL hdat C i v fr₁ D oD I oI sl h tk17 hi hv hsub W17
      obtain ⟨k, dk, tkk, hk, rfl⟩ := hv
      rw [hfl] at hi
      obtain ⟨p, hp, hpe, hpg⟩ := hdef i hi
      have hk' : k = p.1 := by
        rw [List.getElem?_map, hpe] at hk
        simp at hk
        exact hk.1.symm
      subst hk'
      dsimp only
      rw [hpg]
      repeat walk_at "m"
      refine ⟨_, _, _, fr₁, rfl, rfl, fun _ q => q, W17, ?_⟩
      refine wpOn_Call ?_
      repeat walk_at "m"
      refine callDOn hB (i := 14) rfl rfl ?_
      repeat walk_at "m"
      refine nmC (c := L + 1 + 1) (o := oF13) (by rfl) (W17.mus _ (.tail _ (.tail _ (.tail _ (.head _))))) hoF13 ?_
      repeat walk_at "m"
      refine sub_dict W17.frs (hv11.mono hsub) (find_gen hnd hp) ?_
      intro v18 k18 hv18
      obtain ⟨t18, rfl⟩ := datStr hv18
      repeat walk_at "m"
      have hpv := pl_ver (hrok _ (hmem p hp).1)
      have hpl := hpv.len
      obtain ⟨ps, itss, hsp, hlen, hps, hfl', hp10, hi10⟩ := hpv.ex
      refine ⟨W17.keep, cv_gen (oL := { oL with slots := sl }) (hA1.le (by decide)) rfl (by intro e; cases e) rfl hdat hB W17 (by omega) (by omega) hsp hlen (by rw [hfl']; omega) hps ?_⟩
      intro v19 h19 tk19 fr19 sl19 W19 hsub19 hv19
      rw [hfl'] at hv19
      exact ⟨_, _, _, sl19, rfl, hsub19, W19, hv19⟩
    intro D17 h17 tk17 fr17 W17 hsub17 hD17
    rw [hfl, pl_vers] at hD17
    have W18 := W17.perm (mu' := [(L + 1 + 1 + 1, oV), (L + 1 + 1, oF13), (L + 1, oT7)]) (List.perm_append_comm (l₁ := [(L + 1 + 1 + 1, oV)]) (l₂ := [(L + 1 + 1, oF13), (L + 1, oT7)]))
    refine stC W18 hoV' ?_
    intro h19 oV19 hoV19 W19
    have hmR := hsub17 _ hmR
    have hdR := hdR.mono hsub17
    have hD4 := hD4.mono hsub17
    have hD5 := hD5.mono hsub17
    have hmT := hsub17 _ hmT
    clear W16 W17 W18 hoV' hv11 hmF hdpF hsub17 cF
    dsimp only
    -- the second test
    refine wpOn_execs (wpOn_If ?_)
    have hkk : ∀ (k : List Nat) (dk : Dat) (i : Nat) (p : RK), (tellL rows)[i]? = some p → (rkD (tellL rows))[i]? = some (k, dk) → k = p.1 := by
      intro k dk i p hpe hk
      rw [List.getElem?_map, hpe] at hk
      simp at hk
      exact hk.1.symm
    repeat walk_at "m"
    refine' lcE [(Str.ofString "versions", L + 1 + 1 + 1)] ?c1 ?h ?c2 ?c3 ?c4 ?c5 ?c6
    walk_at "lc"
    case h =>
    have cT := W19.mus _ (.tail _ (.tail _ (.head _)))
    have cV := W19.mus _ (.head _)
    refine nmC (c := L + 1) (o := oT7) (by rfl) cT hoT7 ?_
    refine CompE.mk (fun i => some (.list ((tellL rows).getD i ([], row0)).2.things)) W19 (itv_dic hA1.hh W19.frs hD5) (fun b hb => by rw [List.mem_singleton.mp hb]; exact ⟨_, W19.frs _ hmT⟩) (by rw [hkt]; omega) ?_ ?_
    · rintro C i vk fr₁ mu₁ h tk20 E' hi ⟨k, dk, tkk, hk, rfl⟩ hsub W20
      rw [hkt] at hi
      obtain ⟨p, hp, hpe, hpg⟩ := hdef i hi
      have hk' := hkk k dk i p hpe hk
      subst hk'
      dsimp only
      rw [hpg]
      refine tests_nil (ite_tt ?_)
      repeat walk_at "m"
      refine nmC (c := L + 1 + 1 + 1) (o := oV19) (by rfl) (W20.keep _ _ cV) hoV19 ?_
      repeat walk_at "m"
      have hfk : findP (ktD (ktsL rows)) p.1 = some (.list p.2.things) := find_kt (p := (p.1, p.2.things)) (by unfold ktsL; rw [List.map_map]; exact hnd) (List.mem_map.mpr ⟨p, hp, rfl⟩)
      refine sub_dict W20.frs (hD17.mono hsub) hfk ?_
      intro v21 k21 hv21
      exact ⟨_, _, _, rfl, fun _ q => q, W20, _, rfl, hv21⟩
    intro D20 h20 tk20 fr20 W20 hsub20 hD20
    have e20 : (List.range (rkD (tellL rows)).length).filterMap (fun i => some (Dat.list ((tellL rows).getD i ([], row0)).2.things)) = (tellL rows).map fun p => Dat.list p.2.things := by
      have := range_fm (fun p : RK => some (Dat.list p.2.things)) ([], row0) (tellL rows)
      rw [hkt, this, List.filterMap_eq_map']
    rw [e20] at hD20
    clear W19 cT cV
    have hmR := hsub20 _ hmR
    have hdR := hdR.mono hsub20
    have hD4 := hD4.mono hsub20
    have hD5 := hD5.mono hsub20
    have hmT := hsub20 _ hmT
    have hD17 := hD17.mono hsub20
    clear hsub20
    repeat walk_at "m"
    refine' lcE [(Str.ofString "told", L + 1)] ?c1 ?h ?c2 ?c3 ?c4 ?c5 ?c6
    walk_at "lc"
    case h =>
    have cT := W20.mus _ (.tail _ (.tail _ (.head _)))
    refine nmC (c := L + 1) (o := oT7) (by rfl) cT hoT7 ?_
    refine CompE.mk (fun i => some (.list ((tellL rows).getD i ([], row0)).2.things)) W20 (itv_dic hA1.hh W20.frs hD5) (fun b hb => by rw [List.mem_singleton.mp hb]; exact ⟨_, W20.frs _ hmT⟩) (by rw [hkt]; omega) ?_ ?_
    · rintro C i vk fr₁ mu₁ h tk21 E' hi ⟨k, dk, tkk, hk, rfl⟩ hsub W21
      rw [hkt] at hi
      obtain ⟨p, hp, hpe, hpg⟩ := hdef i hi
      have hk' := hkk k dk i p hpe hk
      subst hk'
      dsimp only
      rw [hpg]
      refine tests_nil (ite_tt ?_)
      repeat walk_at "m"
      refine nmC (c := L + 1) (o := oT7) (by rfl) (W21.keep _ _ cT) hoT7 ?_
      repeat walk_at "m"
      refine sub_dict W21.frs (hD5.mono hsub) (find_rk hnd hp) ?_
      intro v17 k17 hv17
      obtain ⟨a17, vs17, n17, rfl, hm17, hd17⟩ := datTup hv17
      repeat walk_at "m"
      refine sub_tup W21.frs hm17 hd17 (k := 3) (by decide) (by decide) rfl ?_
      intro v18 hv18
      exact ⟨_, _, _, rfl, fun _ q => q, W21, _, rfl, hv18⟩
    intro D21 h21 tk21 fr21 W21 hsub21 hD21
    rw [e20] at hD21
    have ok21 : ∀ d ∈ (tellL rows).map (fun p => Dat.list p.2.things), kqdOk 8 d = true := by
      intro d hd
      obtain ⟨p, hp, rfl⟩ := List.mem_map.mp hd
      show (p.2.things.all (kqdOk 7)) = true
      rw [List.all_eq_true]
      exact fun d hd => pl_things (hrok _ (hmem p hp).1) d hd 7
    repeat walk_at "m"
    refine neL_W W21 (hD20.mono hsub21) hD21 ok21 ok21 hA1.room ?_
    intro c hc
    have hc' : c = false := hc.mpr rfl
    subst hc'
    repeat walk_at "m"
    have hmR := hsub21 _ hmR
    have hdR := hdR.mono hsub21
    have hD4 := hD4.mono hsub21
    have hD5 := hD5.mono hsub21
    have hmT := hsub21 _ hmT
    have hD17 := hD17.mono hsub21
    clear hsub21 hD20 hD21 ok21 e20 W20 cT
    refine on ?_
    repeat walk_at "m"
    -- the loops
    have hndk : ((ktsL rows).map (·.1)).Nodup := by unfold ktsL; rw [List.map_map]; exact hnd
    have hktok : ∀ p ∈ ktsL rows, KTok p := by
      intro p hp
      obtain ⟨q, hq, rfl⟩ := List.mem_map.mp hp
      obtain ⟨hq1, hq2⟩ := hmem q hq
      have := pl_key (hrok _ hq1)
      exact ⟨by rw [hq2]; exact this.2.1, by rw [hq2]; exact this.1, by show q.1.length ≤ _; rw [hq2]; omega⟩
    have hktc : ∀ p ∈ ktsL rows, ∀ q ∈ ktsL rows, cmpOk p.2 q.2 := by
      intro p hp q hq
      obtain ⟨p', hp', rfl⟩ := List.mem_map.mp hp
      obtain ⟨q', hq', rfl⟩ := List.mem_map.mp hq
      exact pl_cmp (hrok _ (hmem p' hp').1) (hrok _ (hmem q' hq').1)
    have hrkok : ∀ p ∈ tellL rows, RKok p := fun p hp => ⟨hrok _ (hmem p hp).1, by rw [(hmem p hp).2]; exact (pl_key (hrok _ (hmem p hp).1)).1⟩
    have hrkc : ∀ p ∈ tellL rows, ∀ q ∈ tellL rows, cmpOk p.2.things q.2.things := fun p hp q hq => pl_cmp (hrok _ (hmem p hp).1) (hrok _ (hmem q hq).1)
    have hopt : ∀ host path, kqdOk 9 (optD (foundL (ktsL rows) host path)) = true := by
      intro host path
      cases e : foundL (ktsL rows) host path with
      | none => rfl
      | some b => exact okD (hktok b (foundL_mem e)).ok 9
    refine wpOn_execs (on (wpAny_For ?_))
    repeat walk_at "m"
    refine newListF (by assumption) ?_ (Nat.le_of_ble_eq_true rfl); intro D22 h22 W22
    clear W21
    have mR := hmR
    refine for_W (itv_list hA1.hh (isList_of W22.frs (.head _))) W22 (fp1 (.head _))
      (fun i bs mu fr' => mu = [(L + 1 + 1 + 1, oV19), (L + 1 + 1, oF13), (L + 1, oT7)] ∧ mp bs (Str.ofString "rows") = some (.ref D4))
      ⟨rfl, by walk_at "lk"⟩ ?_ ?_
    · rintro i v bs₁ mu₁ fr₁ I1 oI1 h tk23 hi hv ⟨rfl, f1⟩ hsub1 W23
      have hs1 : ∀ p ∈ fr21, p ∈ fr₁ := fun p hp => hsub1 _ (.tail _ hp)
      obtain ⟨host, th, rfl, hh, oh⟩ : ∃ host th, v = .str (S host) th ∧ (host = [104] ∨ host = [107]) ∧ okL host := by
        match i, hi, hv with
        | 0, _, hv => exact ⟨[104], _, (Option.some.inj hv).symm, .inl rfl, by intro c hc; rw [List.mem_singleton] at hc; subst hc; decide⟩
        | 1, _, hv => exact ⟨[107], _, (Option.some.inj hv).symm, .inr rfl, by intro c hc; rw [List.mem_singleton] at hc; subst hc; decide⟩
      clear hv hi W22
      repeat walk_at "m"
      refine wpAny_For ?_
      repeat walk_at "m"
      refine for_W (itv_list hA1.hh (isList_of W23.frs (hs1 _ hmR))) W23 (fp1 (hs1 _ hmR))
        (fun i bs mu fr' => mu = [(I1, oI1), (L + 1 + 1 + 1, oV19), (L + 1 + 1, oF13), (L + 1, oT7)] ∧ mp bs (Str.ofString "rows") = some (.ref D4) ∧ mp bs (Str.ofString "host") = some (.str (S host) th))
        ⟨rfl, by walk_at "lk", by walk_at "lk"⟩ ?_ ?_
      · rintro j v bs₂ mu₂ fr₂ I2 oI2 h2 tk24 hi hv ⟨rfl, g1, g2⟩ hsub2 W24
        have hs2 : ∀ p ∈ fr21, p ∈ fr₂ := fun p hp => hsub2 _ (hs1 _ hp)
        rw [List.size_toArray, hvRl] at hi
        have hv' := itemD hdR (by simpa using hi) hv
        simp only [List.getElem_map] at hv'
        have hro := hrok _ (List.getElem_mem hi)
        generalize rows[j] = r at *
        obtain ⟨a5, vs5, n5, rfl, hm5, hd5⟩ := datTup (hv'.mono hs2)
        clear W23
        repeat walk_at "m"
        refine wpAny_For ?_
        repeat walk_at "m"
        refine sub_tup W24.frs hm5 hd5 (k := 1) (by decide) (by decide) rfl ?_
        intro v7 hv7
        obtain ⟨a7, vs7, n7, rfl, hm7, hd7⟩ := datList hv7
        repeat walk_at "m"
        refine sub_tup W24.frs hm5 hd5 (k := 1) (by decide) (by decide) rfl ?_
        intro v8 hv8
        obtain ⟨a8, vs8, n8, rfl, hm8, hd8⟩ := datList hv8
        repeat walk_at "m"
        refine newListF W24 ?_ (Nat.le_of_ble_eq_true rfl); intro D25 h25 W25
        have hl8 : vs8.length ≤ 10 := by have := hd8.length; have := r.pieces_len; have := hro.more; simp at *; omega
        refine add_W W25 W25.frs (.tail _ hm8) (.head _) ?_ (by show _ + 1 ≤ _; omega)
        intro D26 h26 W26
        repeat walk_at "m"
        refine newListF W26 ?_ (Nat.le_of_ble_eq_true rfl); intro D27 h27 W27
        clear W24 W25 W26
        obtain ⟨fr3, hs3, W28, hm27, hd27⟩ := two_lists W27 hm7 hd7 hd8 (show DatIn _ _ (sd [98]) from .str _ _)
        clear W27
        refine for_W (itv_list hA1.hh (isList_of W28.frs hm27)) W28 (fp1 hm27)
          (fun i bs mu fr' => mu = [(I2, oI2), (I1, oI1), (L + 1 + 1 + 1, oV19), (L + 1 + 1, oF13), (L + 1, oT7)] ∧ mp bs (Str.ofString "rows") = some (.ref D4) ∧ mp bs (Str.ofString "host") = some (.str (S host) th))
          ⟨rfl, by walk_at "lk", by walk_at "lk"⟩ ?_ ?_
        · rintro k v bs₃ mu₃ fr₃ I3 oI3 h3 tk28 hi hv ⟨rfl, e1, e2⟩ hsub3 W29
          have hv' := itemD hd27 (by simpa using hi) hv
          have hpc := pl_pieces r
          have hpl := r.pieces_len
          have hpm := hro.more
          have hsm := pl_psum r hro
          obtain ⟨pieces, hvp, hpn, hps, hlp, hsp⟩ : ∃ pieces : List (List Nat), DatIn fr3 v (.list (pieces.map sd)) ∧ pieces ≠ [] ∧ (∀ x ∈ pieces, x = [] ∨ x = [97] ∨ x = [98]) ∧ pieces.length ≤ 10 ∧ (pieces.map List.length).sum + pieces.length ≤ 20 := by
            match k, hi, hv' with
            | 0, _, hv' => exact ⟨r.pieces, hv', r.pieces_ne, hpc, by omega, by omega⟩
            | 1, _, hv' =>
              refine ⟨r.pieces ++ [[98]], hv', by simp, fun x hx => ?_, by simp; omega, by simp at *; omega⟩
              rcases List.mem_append.mp hx with hx | hx
              · exact hpc x hx
              · exact .inr (.inr (List.mem_singleton.mp hx))
          clear hv' hv hi W28
          have hs4 : ∀ p ∈ fr21, p ∈ fr₃ := fun p hp => hsub3 _ (hs3 _ (hs2 _ hp))
          obtain ⟨okp, okx⟩ := pathL_okc hps
          have hvp := hvp.mono hsub3
          repeat walk_at "m"
          refine callD hB (i := 86) rfl rfl ?_
          repeat walk_at "m"
          refine nmC (c := L + 1 + 1 + 1) (o := oV19) (by rfl) (W29.mus _ (.tail _ (.tail _ (.tail _ (.head _))))) hoV19 ?_
          repeat walk_at "m"
          refine callD hB (i := 71) rfl rfl ?_
          repeat walk_at "m"
          refine ⟨W29.keep, ctrW W29 hB (hA1.le (by decide)) (path_ok hvp (by omega)) ?_⟩
          intro v30 h30 tk30 fr30 W30 hsub30 hv30
          obtain ⟨t30, rfl⟩ := datStr hv30
          clear W29
          repeat walk_at "m"
          refine ⟨W30.keep, ctrW W30 hB (hA1.le (by decide)) (found_ok (hD17.mono fun p hp => hsub30 _ (hs4 _ hp)) hndk hktok hktc oh okp) ?_⟩
          intro v31 h31 tk31 fr31 W31 hsub31 hv31
          clear W30
          repeat walk_at "m"
          refine callD hB (i := 89) rfl rfl ?_
          repeat walk_at "m"
          refine nmC (c := L + 1) (o := oT7) (by rfl) (W31.mus _ (.tail _ (.tail _ (.tail _ (.tail _ (.tail _ (.head _))))))) hoT7 ?_
          repeat walk_at "m"
          refine ⟨W31.keep, ctrW W31 hB (hA1.le (by decide)) (due_ok (hD5.mono fun p hp => hsub31 _ (hsub30 _ (hs4 _ hp))) hnd hrkok hrkc (hvp.mono fun p hp => hsub31 _ (hsub30 _ hp)) okx (by omega) (by omega)) ?_⟩
          intro v32 h32 tk32 fr32 W32 hsub32 hv32
          clear W31
          rw [← pl_due hrok hh hpn hps] at hv32
          repeat walk_at "m"
          refine neD_W W32 (hv31.mono hsub32) hv32 (hopt _ _) (hopt _ _) hA1.room ?_
          intro c hc
          have hc' : c = false := hc.mpr rfl
          subst hc'
          repeat walk_at "m"
          exact ⟨_, _, _, _, _, rfl, fun p hp => hsub32 _ (hsub31 _ (hsub30 _ hp)), W32, rfl, by walk_at "lk", by walk_at "lk"⟩
        · rintro bs₃ mu₃ fr₃ h3 tk33 ⟨rfl, e1, e2⟩ hsub3 W33
          dsimp only
          repeat walk_at "m"
          exact ⟨_, _, _, _, _, rfl, fun p hp => hsub3 _ (hs3 _ hp), W33, rfl, e1, e2⟩
      · rintro bs₂ mu₂ fr₂ h2 tk33 ⟨rfl, g1, g2⟩ hsub2 W34
        dsimp only
        repeat walk_at "m"
        exact ⟨_, _, _, _, _, rfl, hsub2, W34, rfl, g1⟩
    · rintro bs₁ mu₁ fr₁ h1 tk33 ⟨rfl, f1⟩ hsub1 W35
      dsimp only
      refine wpOn_execs (on ?_)
      repeat walk_at "m"
      exact hR _ _ W35.keep
end
end
section -- L2
set_option maxHeartbeats 2000000
theorem main : PySem.Challenge.rw_mj0151_01.Holds := by
  refine Mine.Top.hd ?_
  intro w s₀ s₁ mg mb G Y fa o pm cd doc dV kV ho hd hcd hD hmg hg args vals as hpre hlay hrd hwl hlo
  have KX := kIn_of Y
  have T := G.T
  have hfa : mg (Str.ofString "law") = some (.ref 170) := mg_of KX T.g (by rfl)
  have hfa' : fa = 170 := by
    have : some (Value.ref fa) = some (.ref 170) := hmg.symm.trans hfa
    cases this; rfl
  subst hfa'
  clear hd hcd hD ho hmg hfa
  wrow_args hpre hlay hrd hwl hlo
  rename s₁.heap.IsList _ _ => hL
  rename IntsAre _ _ => hI
  rename ¬ (_ < _) => hc
  refine law_walk ⟨KX, _, _, _, _, topRead_of T⟩ hL hI (by omega) ?_
  intro h' tk hk
  refine ⟨.inl ⟨.bool true, .bool true, [], rfl, fun _ => ?_, .bool true, ?_, unshared_nil⟩, .of_keep hk, rfl, .of_eq hg⟩
  · rfl
  · with_unfolding_all rfl
end
end Mine
theorem PySem.Challenge.cw_mj0151_01_holds : PySem.Challenge.rw_mj0151_01.Holds := by
  exact Mine.main
