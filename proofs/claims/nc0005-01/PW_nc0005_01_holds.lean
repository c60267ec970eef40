import PyProof.Rows.All
import Wide.All
import OpenK.AllK
import Wide.FinOn
import Lean
import PySem.Challenge.RW_nc0005_01
set_option Elab.async false

section
open PySem PySem.W PyProof.Rows
set_option Elab.async false
namespace Mine

/-- A code that no decoder is. -/
def cleanC : Code → Bool
  | .builtin id _ => !Builtin.Bytes.decodersThatHold.contains id
  | _ => true
def clean (st : List (Code × Pos)) : Bool := st.all fun x => cleanC x.1

/-- The call, asked for on clean stacks alone. -/
def callG (f : Value) (vs : List Value) : Sem Value := .stack fun st => if clean st = true then call f vs else .pure (.bool true)

def treeOf (name : Str) (vs : List Value) : Sem Fin := do
  match ← nsGet mainNs name with
  | some f => do ret (← call f vs)
  | none => unsupported "claim.caller:no-such-global"
def treeG (name : Str) (vs : List Value) : Sem Fin := .stack fun st => if clean st = true then treeOf name vs else ret (.bool true)

/-- Peel the one look at the stack off a run. -/
theorem peel {prog : Program} {w : World} {s s' : Shared} {name : Str} {vs : List Value} {n : Nat} {o : Outcome} (hz : s.asleep)
    (h : schedN (denote table) prog w n (.single s ⟨treeG name vs, .builtin "claim.caller" {}, default, []⟩) = .halted o s') :
    ∃ m, schedN (denote table) prog w m (.single s (callStub name vs)) = .halted o s' := by
  cases n with
  | zero => cases h
  | succ n =>
    refine ⟨n, ?_⟩
    have hc : Thread.calm ⟨treeG name vs, .builtin "claim.caller" {}, default, []⟩ = true := by
      with_unfolding_all rfl
    have hs : step (denote table) prog w s ⟨treeG name vs, .builtin "claim.caller" {}, default, []⟩ = .go s (callStub name vs) := by
      with_unfolding_all rfl
    rcases sstep_single (denote table) prog w s _ hc hz with e | e
    · rw [hs] at e
      simp only [schedN, e] at h
      exact h
    · rw [hs] at e; cases e

theorem peelHolds {c : ClaimW} {name : Str} {defs keeps : List Str} {writes : Bool}
    (h : c.HoldsOpenBy (fun vs => ⟨treeG name vs, .builtin "claim.caller" {}, default, []⟩) defs keeps writes) :
    c.HoldsOpenBy (callStub name) defs keeps writes := by
  obtain ⟨h1, h2, h3⟩ := h
  refine ⟨h1, h2, fun w => ⟨(h3 w).1, fun s hs => ?_⟩⟩
  obtain ⟨s₀, a1, a2, s₁, a3, a4, a5, a6, a7⟩ := (h3 w).2 s hs
  refine ⟨s₀, a1, a2, s₁, a3, a4, a5, a6, fun args hp hl ord ho => ?_⟩
  obtain ⟨vs, s₂, b1, n, o, s', b2, b3⟩ := a7 args hp hl ord ho
  have hA : AfterImport (opening c.prog) w s := hs
  have z0 : s₀.asleep := Shared.asleep_of_life (fence_lifeW a1) hA.life
  have z1 : s₁.asleep := Shared.asleep_of_life a3.2.1 z0
  have z2 : s₂.asleep := Shared.asleep_of_life (layAllW_rest _ _ _ b1).2.2.2 z1
  obtain ⟨m, b2'⟩ := peel z2 b2
  exact ⟨vs, s₂, b1, m, o, s', b2', b3⟩

theorem PySem.W.holds_open {r : OpenRow} {q : Program} {loose : List Str} {Xt : Shared → Bool} {XP : (Str → Option Value) → Heap → Prop} {α : Type} {Yf : Shared → α} {Ya : World → α} {YP : World → Heap → Prop} {d : DefRec} {kwd : List (Str × Expr)} {N : Nat}
    (left : LeftO r.prog q loose Xt Yf Ya N) (hY : ∀ w s, Yf s = Ya w → YP w s.heap) (hYk : ∀ w h h', YP w h → (∀ b o, h.get? b = some o → h'.get? b = some o) → YP w h')
    (hX : ∀ s, Xt s = true → XP (s.heap.nsMap mainGlobals) s.heap) (hXk : ∀ mg h h', XP mg h → (∀ b o, h.get? b = some o → h'.get? b = some o) → XP mg h')
    (hdef : defOf q r.name = some (d, kwd)) (hp : r.prog.theDef r.name = some (d.params, d.body, d.scope)) (hk : kwWritten? d.params.kwonlyargs d.params.kw_defaults = some kwd) (hRf : ∀ s, Xt s = true → RecFacts r.records s.heap) (hwr : (!r.writes || r.records.isEmpty) = true)
    (k1 : r.wellSaid = true) (ok : (chainsOk q && opensWell r.prog && (frees r.toRowW && r.within.isEmpty)) = true) (hb : r.prog.bare) (hw : r.toRowW.promised)
    (call : WalkO q loose XP YP r.toRowW d kwd callG) : r.Holds := by
  refine ⟨k1, hw, peelHolds (open_anyG (r := r.toRowW) (run := callG) (tree := treeG r.name) left hY hYk hX hXk hRf hwr ok hb hw ?_ ?_ ?_)⟩
  · intro vs w s mg f Q E hg hf h Γ p hΓ
    have h' := h Γ p hΓ
    unfold callG at h'
    unfold treeG
    rw [Sem.wp_stack] at h' ⊢
    by_cases hc : clean ((Γ.code, p) :: Γ.below) = true
    · rw [if_pos hc] at h' ⊢
      unfold treeOf
      have hg' : s.heap.Ns mainNs mg := hg
      rw [Sem.wp_bind', Sem.wp_nsGet _ Γ _ p s hg', hf]
      show Sem.wp _ Γ (PySem.call f vs >>= fun v => ret v) _ _ p s
      rw [Sem.wp_bind']
      exact h'
    · rw [if_neg hc] at h' ⊢
      exact h'
  · intro w s hg G n hn
    obtain rfl : n = r.name := by split at hn <;> simp_all
    exact pinned_of_view hg G hdef hp hk
  · intro w s₀ s₁ mg mb G Y args vs as hpre hlay L low
    obtain ⟨a, o, pm, cd, doc, dV, kV, h1, h2, h3, h4, h5⟩ := G.fn hdef
    exact ⟨.ref a, h1, call w s₀ s₁ mg mb G Y a o pm cd doc dV kV h2 h3 h4 h5 (defOf_name hdef ▸ h1) L.gens args vs as hpre hlay L.reads L.well (L.low low)⟩

end Mine
end

section
open PySem PySem.W PyProof.Rows
set_option Elab.async false
namespace Mine
set_option maxRecDepth 100000 in
set_option maxHeartbeats 8000000 in
open_top hd for PySem.Challenge.rw_nc0005_01
end Mine
end

section
open PySem PySem.W PyProof.Rows
set_option Elab.async false
namespace Mine

/-- A context whose stack bears no decoder. -/
def Good (Γ : Ctx) : Prop := cleanC Γ.code = true ∧ clean Γ.below = true

def wpG {α : Type} (M : Model) (A : Around) (t : Sem α) (Q : α → Shared → Prop) (E : Value → Shared → Prop) (s : Shared) : Prop :=
  ∀ Γ p, Γ.In A → Good Γ → Sem.wp M Γ t (fun a _ s' => Q a s') (fun e _ s' => E e s') p s

def codeG (M : Model) (A : Around) (c : Code) (R : Result → Shared → Prop) (s : Shared) : Prop :=
  ∀ Γ p, Γ.code = c → Γ.Below A → Good Γ → wpCode M Γ R p s

theorem Good.enter {Γ : Ctx} (g : Good Γ) {c : Code} {h : Option Value} {p : Pos} (hc : cleanC c = true) : Good (Γ.enter c h p) := by
  refine ⟨hc, ?_⟩
  show clean ((Γ.code, p) :: Γ.below) = true
  unfold clean
  rw [List.all_cons, g.1, Bool.true_and]
  exact g.2
theorem Good.goto {Γ : Ctx} (g : Good Γ) {c : Code} (hc : cleanC c = true) : Good (Γ.goto c) := ⟨hc, g.2⟩

section
variable {α β : Type} {M : Model} {A : Around} {E : Value → Shared → Prop} {s : Shared}

theorem wpG_of {t : Sem α} {Q : α → Shared → Prop} (h : wpAny M A t Q E s) : wpG M A t Q E s := fun Γ p hΓ _ => h Γ p hΓ
theorem codeG_of {c : Code} {R : Result → Shared → Prop} (h : codeAny M A c R s) : codeG M A c R s := fun Γ p hc hΓ _ => h Γ p hc hΓ

theorem wpG_mono {t : Sem α} {Q Q' : α → Shared → Prop} {E' : Value → Shared → Prop} (h : wpG M A t Q E s)
    (hQ : ∀ a s, Q a s → Q' a s) (hE : ∀ e s, E e s → E' e s) : wpG M A t Q' E' s :=
  fun Γ p hΓ g => Sem.wp_mono M Γ t (fun a _ s => hQ a s) (fun e _ s => hE e s) p s (h Γ p hΓ g)

theorem wpG_pure {a : α} {Q : α → Shared → Prop} (h : Q a s) : wpG M A (pure a) Q E s := fun _ _ _ _ => h

theorem wpG_bind {m : Sem α} {f : α → Sem β} {Q : β → Shared → Prop} (h : wpG M A m (fun a s' => wpG M A (f a) Q E s') E s) :
    wpG M A (m >>= f) Q E s := fun Γ p hΓ g => by
  rw [Sem.wp_bind']
  exact Sem.wp_mono M Γ m (fun a p' s' h' => h' Γ p' hΓ g) (fun _ _ _ h' => h') p s (h Γ p hΓ g)

/-- The library's tree first, ours behind it. -/
theorem wpG_bindA {m : Sem α} {f : α → Sem β} {Q : β → Shared → Prop} (h : wpAny M A m (fun a s' => wpG M A (f a) Q E s') E s) :
    wpG M A (m >>= f) Q E s := wpG_bind (wpG_of h)

theorem wpG_holding {vs : List Value} {m : Sem α} {Q : α → Shared → Prop} (h : wpG M A m Q E s) : wpG M A (holding vs m) Q E s :=
  fun Γ p hΓ g => by rw [Sem.wp_holding]; exact h Γ p hΓ g

theorem wpG_keep {vs : List Value} {m : Sem α} {Q : α → Shared → Prop} (h : wpG M A m Q E s) : wpG M A (m.keep vs) Q E s :=
  fun Γ p hΓ g => by rw [Sem.wp_keep]; exact h Γ p hΓ g

theorem wpG_onRaise {m : Sem α} {k : Value → Sem Unit} {Q : α → Shared → Prop}
    (h : wpG M A m Q (fun e s' => wpAny M A (k e) (fun _ s'' => E e s'') E s') s) : wpG M A (m.onRaise k) Q E s := fun Γ p hΓ g => by
  rw [Sem.wp_onRaise]
  exact Sem.wp_mono M Γ m (fun _ _ _ h' => h') (fun e p' s' h' => h' Γ p' hΓ) p s (h Γ p hΓ g)

theorem wpG_attempt {m : Sem α} {Q : Except Value α → Shared → Prop} (h : wpG M A m (fun a => Q (.ok a)) (fun e => Q (.error e)) s) :
    wpG M A m.attempt Q E s := fun Γ p hΓ g => by rw [Sem.wp_attempt]; exact h Γ p hΓ g

theorem wpG_stack {Q : List (Code × Pos) → Shared → Prop}
    (h : ∀ st : List (Code × Pos), clean st = true → (∀ g, A.guards = some g → guardsOf st = g) → Q st s) : wpG M A stack Q E s := fun Γ p hΓ g => by
  show Q ((Γ.code, p) :: Γ.below) s
  refine h _ ?_ (fun g hg => by rw [guardsOf_cons]; exact hΓ.2.2.2.1 g hg)
  unfold clean
  rw [List.all_cons, g.1, Bool.true_and]
  exact g.2

theorem wpG_run {c : Code} {h : Option Value} {Q : Flow → Shared → Prop} (hcl : cleanC c = true)
    (hc : codeG M (A.mark h) c (fun r s' => match r with | .ok f => Q f s' | .error e => E e s') s) (hnb : h ≠ some byPass := by intro x; cases x) :
    wpG M A (run c h) Q E s :=
  fun Γ p hΓ g => by rw [Sem.wp_run]; exact hc _ p rfl (hΓ.enter c h p hnb) (g.enter hcl)

theorem wpG_runValue {c : Code} {Q : Value → Shared → Prop} (hcl : cleanC c = true)
    (hc : codeG M A c (fun r s' => match r with | .ok (.ret v) => Q v s' | .ok _ => False | .error e => E e s') s) :
    wpG M A (runValue c) Q E s := fun Γ p hΓ g => by rw [Sem.wp_runValue]; exact hc _ p rfl (hΓ.enter c none p (by intro x; cases x)) (g.enter hcl)

theorem wpG_call {f : Value} {pos : List Value} {kw : List (Str × Value)} {Q : Value → Shared → Prop}
    (hc : codeG M A (.call f ⟨pos, kw⟩) (fun r s' => match r with | .ok (.ret v) => Q v s' | .ok _ => False | .error e => E e s') s) :
    wpG M A (call f pos kw) Q E s := wpG_runValue rfl hc

theorem codeG_of_tree {c : Code} {R : Result → Shared → Prop}
    (h : wpG M (A.under c) (M.den c) (fun fin s' => match fin with | .done f => R (.ok f) s' | .again c' => c'.quiet = true ∧ cleanC c' = true ∧ codeG M A c' R s')
      (fun e s' => R (.error e) s') s) : codeG M A c R s := fun Γ p hc hΓ g => by
  rw [wpCode_iff_wp, hc]
  refine Sem.wp_mono M Γ _ (fun fin p' s' h' => ?_) (fun _ _ _ h' => h') p s (h Γ p (hc ▸ hΓ.in) g)
  cases fin with
  | done f => exact h'
  | again c' => exact ⟨h'.1, h'.2.2 (Γ.goto c') p' rfl (hΓ.goto c') (g.goto h'.2.1)⟩

theorem codeG_loop {c : Code} {R : Result → Shared → Prop} (hq : c.quiet = true) (hcl : cleanC c = true) (I : Nat → Shared → Prop)
    (turn : ∀ n s, I n s → wpG M (A.under c) (M.den c)
      (fun fin s' => match fin with | .done f => R (.ok f) s' | .again c' => (c' = c ∧ ∃ m, m < n ∧ I m s') ∨ (c'.quiet = true ∧ cleanC c' = true ∧ codeG M A c' R s')) (fun e s' => R (.error e) s') s)
    (n : Nat) (h : I n s) : codeG M A c R s := by
  induction n using Nat.strongRecOn generalizing s with
  | ind n ih =>
    refine codeG_of_tree (wpG_mono (turn n s h) (fun fin s' hf => ?_) fun _ _ h' => h')
    cases fin with
    | done f => exact hf
    | again c' =>
      rcases hf with ⟨rfl, m, hm, hI⟩ | hf
      · exact ⟨hq, hcl, ih m hm hI⟩
      · exact hf
end

section
variable {prog : Program} {w : World} {A : Around} {E : Value → Shared → Prop} {s : Shared} {env : Env}

theorem execsG_cons {st rest} {Q : Flow → Shared → Prop}
    (h : wpG (model prog w) A (exec st env) (fun f s' => match f with | .next => wpG (model prog w) A (execs rest env) Q E s' | f => Q f s') E s) :
    wpG (model prog w) A (execs (st :: rest) env) Q E s := fun Γ p hΓ g => by
  rw [execs_cons, Sem.wp_bind']
  refine Sem.wp_mono _ Γ _ (fun f p' s' h' => ?_) (fun _ _ _ h' => h') _ _ (h Γ p hΓ g)
  cases f <;> first | exact h' Γ p' hΓ g | exact h'

/-- A statement that the library's walk takes whole. -/
theorem execsG_consA {st rest} {Q : Flow → Shared → Prop}
    (h : wpAny (model prog w) A (exec st env) (fun f s' => match f with | .next => wpG (model prog w) A (execs rest env) Q E s' | f => Q f s') E s) :
    wpG (model prog w) A (execs (st :: rest) env) Q E s := execsG_cons (wpG_of h)

theorem execsG_nil {Q : Flow → Shared → Prop} (h : Q .next s) : wpG (model prog w) A (execs [] env) Q E s := fun _ _ _ _ => h

theorem execG_If {test body orelse pos} {Q : Flow → Shared → Prop}
    (h : wpAny (model prog w) A (isTrue test env (eval test env))
      (fun b s₂ => if b then wpG (model prog w) A (execs body env) Q E s₂ else wpG (model prog w) A (execs orelse env) Q E s₂) E s) :
    wpG (model prog w) A (exec (.If test body orelse pos) env) Q E s := by
  rw [arm_exec_If]
  refine wpG_bindA (wpAny_standAt (wpG_bindA (wpAny_mono h (fun b s₂ h₂ => ?_) fun _ _ x => x)))
  cases b <;> exact h₂

theorem execG_Assign_Name {x pos' value pos} {Q : Flow → Shared → Prop}
    (h : wpG (model prog w) A (eval value env) (fun v s₁ => wpAny (model prog w) A (storeName env x v) (fun _ => Q .next) E s₁) E s)
    (hs : swapsWith value (some (.Name x pos')) pos.line env = pure false := by rfl) :
    wpG (model prog w) A (exec (.Assign [.Name x pos'] value pos) env) Q E s := fun Γ p hΓ g => by
  simp only [exec_Assign_Name env x pos' value pos hs, Sem.wp_bind', Sem.wp_cmd_standAt, Sem.wp_bindName, Sem.wp_pure']
  exact Sem.wp_mono _ Γ _ (fun v _ s₁ h₁ => h₁ Γ _ hΓ) (fun _ _ _ h' => h') _ _ (h Γ _ hΓ g)

theorem execG_AugAssign_Name {x pos' op value pos} {Q : Flow → Shared → Prop}
    (h : wpAny (model prog w) A (loadName env x) (fun old s₁ => wpAny (model prog w) A (eval value env) (fun v s₂ => wpG (model prog w) A (inplaceOp op old v)
      (fun r s₃ => wpAny (model prog w) A (storeName env x r) (fun _ => Q .next) E s₃) E s₂) E s₁) E s) :
    wpG (model prog w) A (exec (.AugAssign (.Name x pos') op value pos) env) Q E s := fun Γ p hΓ g => by
  simp only [exec_AugAssign_Name, Sem.wp_bind', Sem.wp_holding, Sem.wp_cmd_standAt, Sem.wp_operate, Sem.wp_bindName, Sem.wp_pure']
  exact Sem.wp_mono _ Γ _ (fun old p₁ s₁ h₁ => Sem.wp_mono _ Γ _ (fun v _ s₂ h₂ => Sem.wp_mono _ Γ _ (fun r _ s₃ h₃ => h₃ Γ _ hΓ)
    (fun _ _ _ h' => h') _ _ (h₂ Γ _ hΓ g)) (fun _ _ _ h' => h') _ _ (h₁ Γ p₁ hΓ)) (fun _ _ _ h' => h') _ _ (h Γ _ hΓ)

theorem evalG_IfExp {test body orelse : Expr} {pos : Pos} {Q : Value → Shared → Prop}
    (h : wpAny (model prog w) A (isTrue test env (eval test env)) (fun b s₁ => if b then wpG (model prog w) A (eval body env) Q E s₁ else wpG (model prog w) A (eval orelse env) Q E s₁) E s) :
    wpG (model prog w) A (eval (.IfExp test body orelse pos) env) Q E s := by
  rw [arm_eval_IfExp]
  refine wpG_bindA (wpAny_mono h (fun b s₁ h₁ => ?_) fun _ _ x => x)
  cases b <;> exact h₁

theorem wpG_runOwn {c : Code} {h : Option Value} {Q : Flow → Shared → Prop} (hcl : cleanC c = true)
    (hc : codeG (model prog w) (A.mark h) c (fun r s' => match r with | .ok f => Q f s' | .error e => cameBackBy (model prog w) A env E e s') s) (hnb : h ≠ some byPass := by intro x; cases x) :
    wpG (model prog w) A (runOwn c env h) Q E s := by
  unfold runOwn
  exact wpG_onRaise (wpG_run hcl hc hnb)

theorem wpG_noted {α : Type} {m : Sem α} {Q : α → Shared → Prop} (h : wpG (model prog w) A m Q (notedBy (model prog w) A env E) s) :
    wpG (model prog w) A (m.onRaise fun x => do noteFrame x env; theTreesLotGoes x) Q E s :=
  wpG_onRaise (wpG_mono h (fun _ _ x => x) fun e s' h' => wpAny_bind (wpAny_mono h' (fun _ _ x => wpAny_theTreesLotGoes x) fun _ _ x => x))

theorem execG_While {test body orelse pos} {Q : Flow → Shared → Prop} (hE : PassesOwn (model prog w) A env E) (hh : A.handled = none) (I : Nat → Shared → Prop)
    (turn : ∀ n s, I n s →
      wpAny (model prog w) A (isTrue test env (eval test env)) (fun b s₂ =>
        if b then wpG (model prog w) A (execs body env) (fun f s₃ => match f with
            | .next | .cont => ∃ m, m < n ∧ I m s₃
            | .brk => Q .next s₃
            | .ret v => Q (.ret v) s₃) E s₂
        else wpG (model prog w) A (execs orelse env) (fun f s₃ => Q f s₃) E s₂) E s)
    (n : Nat) (h : I n s) : wpG (model prog w) A (exec (.While test body orelse pos) env) Q E s := by
  rw [arm_exec_While]
  refine wpG_bindA (wpAny_standAt (wpG_runOwn rfl ?_))
  have hAm : A.mark none = A := rfl
  rw [hAm]
  refine codeG_loop rfl rfl I (fun n s hI => ?_) n h
  show wpG _ A ((whileTurn test body orelse env).onRaise (fun x => do noteFrame x env; theTreesLotGoes x)) _ _ s
  refine wpG_noted ?_
  simp only [whileTurn]
  refine wpG_mono (E := E) ?_ (fun _ _ x => x) fun e s' h' => hE e s' h'
  refine wpG_bindA (wpAny_mono (turn n s hI) (fun b s₂ h₂ => ?_) fun _ _ h' => h')
  cases b with
  | true =>
    refine wpG_bind (wpG_mono h₂ (fun f s₃ h₃ => ?_) fun _ _ x => x)
    cases f with
    | next => exact wpG_pure (Or.inl ⟨rfl, h₃⟩)
    | cont => exact wpG_pure (Or.inl ⟨rfl, h₃⟩)
    | brk => exact wpG_pure h₃
    | ret v => exact wpG_pure h₃
  | false => exact wpG_bind (wpG_mono h₂ (fun f s₃ h₃ => wpG_pure h₃) fun _ _ x => x)
end
end Mine
end

section
open PySem PySem.W PyProof.Rows
set_option Elab.async false
namespace Mine
section
variable {prog : Program} {w : World} {A : Around} {E : Value → Shared → Prop} {s : Shared} {env : Env}

theorem execG_Try {body orelse : List Stmt} {h₀ : ExceptHandler} {hs : List ExceptHandler} {pos : Pos} {Q : Flow → Shared → Prop}
    (h : wpG (model prog w) A (execs body env) (fun f s₁ => match f with | .next => wpG (model prog w) A (execs orelse env) Q E s₁ | f => Q f s₁)
      (fun e s₁ => wpAny (model prog w) A (noteFrame e env) (fun _ s₂ => wpAny (model prog w) A (setFlight e none) (fun _ s₃ => wpAny (model prog w) A (handleBy e env (h₀ :: hs)) Q E s₃) E s₂) E s₁) s) :
    wpG (model prog w) A (exec (.Try body (h₀ :: hs) orelse [] pos) env) Q E s := by
  rw [arm_exec_Try]
  refine wpG_bindA (wpAny_standAt ?_)
  unfold tryStmt
  simp only [List.isEmpty_nil, if_true, List.isEmpty_cons, Bool.false_and, Bool.false_eq_true, if_false]
  refine wpG_bind (wpG_attempt (wpG_mono h (fun f s₁ h₁ => ?_) fun e s₁ h₁ => ?_))
  · cases f <;> first | exact h₁ | exact wpG_pure h₁
  · exact wpG_of (wpAny_bind (wpAny_mono h₁ (fun _ _ h₂ => wpAny_bind h₂) fun _ _ x => x))

theorem codeG_forLoop {x : Str} {px : Pos} {it : Value} {body : List Stmt} {Q : Flow → Shared → Prop} (hE : PassesOwn (model prog w) A env E) (I : Nat → Shared → Prop)
    (turn : ∀ n s, I n s → wpAny (model prog w) A (pyNext it) (fun r s₁ => match r with
      | none => Q .next s₁
      | some v => wpAny (model prog w) A (storeName env x v) (fun _ s₂ => wpG (model prog w) A (execs body env) (fun f s₃ => match f with
            | .next | .cont => ∃ m, m < n ∧ I m s₃
            | .brk => Q .next s₃
            | .ret v => Q (.ret v) s₃) E s₂) E s₁) E s)
    (n : Nat) (h : I n s) : codeG (model prog w) A (.forLoop (.Name x px) it body [] env) (fun r s' => match r with | .ok f => Q f s' | .error e => cameBackBy (model prog w) A env E e s') s := by
  refine codeG_loop rfl rfl I (fun n s hI => ?_) n h
  show wpG _ A ((forTurn (.Name x px) it body [] env).onRaise (fun x => do noteFrame x env; theTreesLotGoes x)) _ _ s
  refine wpG_noted ?_
  simp only [forTurn]
  refine wpG_mono (E := E) ?_ (fun _ _ x => x) fun e s' h' => hE e s' h'
  refine wpG_bindA (wpAny_standAt (wpG_bindA (wpAny_onRaise (wpAny_mono (turn n s hI) (fun r s₁ h₁ => ?_) fun _ _ h' => wpAny_standAt h'))))
  cases r with
  | none =>
    refine wpG_pure (.inr ⟨rfl, rfl, codeG_of (codeAny_block ?_)⟩)
    exact wpAny_execs_nil h₁
  | some v =>
    refine wpG_bindA (wpAny_pure (wpG_bindA (wpAny_mono (wpAny_assign_Name h₁) (fun _ s₂ h₂ => ?_) fun _ _ h' => h')))
    refine wpG_bind (wpG_mono h₂ (fun f s₃ h₃ => ?_) fun _ _ h' => h')
    cases f with
    | next => exact wpG_pure (.inl ⟨rfl, h₃⟩)
    | cont => exact wpG_pure (.inl ⟨rfl, h₃⟩)
    | brk => exact wpG_pure h₃
    | ret v => exact wpG_pure h₃

theorem execG_For {x : Str} {px pos : Pos} {iter : Expr} {body : List Stmt} {Q : Flow → Shared → Prop}
    (h : wpAny (model prog w) A (eval iter env) (fun x₁ s₁ => wpAny (model prog w) A (pyIter x₁) (fun it s₂ =>
      codeG (model prog w) A (.forLoop (.Name x px) it body [] env) (fun r s' => match r with | .ok f => Q f s' | .error e => cameBackBy (model prog w) A env E e s') s₂) E s₁) E s)
    (hs : ∀ x, foldedSetIterable iter env x = pure x := by intro _; rfl) :
    wpG (model prog w) A (exec (.For (.Name x px) iter body [] pos) env) Q E s := by
  rw [arm_exec_For]
  refine wpG_bindA (wpAny_standAt (wpG_bindA (wpAny_mono h (fun x s₁ h₁ => wpG_bind ?_) fun _ _ h' => h')))
  rw [hs]
  refine wpG_pure (wpG_bindA (wpAny_standAt (wpG_bind (wpG_holding (wpG_of (wpAny_mono h₁ (fun it s₂ h₂ => ?_) fun _ _ h' => h'))))))
  exact wpG_runOwn rfl h₂

theorem codeG_func {body : List Stmt} {R : Result → Shared → Prop}
    (h : wpG (model prog w) (A.deeper env) (execs body env) (fun f s' => R (.ok (.ret (match f with | .ret v => v | _ => .none))) s')
      (fun e s' => wpAny (model prog w) (A.deeper env) (leaving env e) (fun _ s'' => R (.error e) s'') (fun e' s'' => R (.error e') s'') s') s) :
    codeG (model prog w) A (.func body env) R s := by
  refine codeG_of_tree ?_
  show wpG _ (A.deeper env) (do point; match ← (execs body env).onRaise (leaving env) with | .ret v => ret v | _ => ret .none) _ _ s
  refine wpG_bindA (wpAny_point (wpG_bind (wpG_onRaise (wpG_mono h (fun f s' h' => ?_) fun _ _ h' => h'))))
  cases f <;> exact wpG_pure h'

theorem codeG_call_function {a : Addr} {args : Args} {o : Obj} {fd : FuncData} {body : List Stmt} {R : Result → Shared → Prop} (hroom : A.depth < recursionLimit)
    (ho : s.heap.get? a = some o)
    (hd' : o.data = .func fd) (hco : fd.scope.isCoroutine = false) (hgen : fd.scope.isGenerator = false) (hbody : fd.body = .stmts body) (hcd : s.heap.CodeRec fd.code fd.qualname)
    (h : wpAny (model prog w) A.in1 (bindArgs fd args) (fun binds s₁ =>
      wpAny (model prog w) A.in1 (newFunctionEnv fd.scope fd.globals fd.closure binds (fd.qualname ++ ".<locals>.") (some a) fd.code none fd.builtins)
        (fun env s₂ => s₂.heap.NoLimit ∧ codeG (model prog w) A (.func body env) R s₂) (fun e s' => R (.error e) s') s₁) (fun e s' => R (.error e) s') s) :
    codeG (model prog w) A (.call (.ref a) args) R s := by
  refine codeG_of_tree ?_
  show wpG _ A.in1 (callAny (.ref a) args) _ _ s
  simp only [callAny]
  refine wpG_bindA (wpAny_load ho ?_)
  obtain ⟨c, oc, vs, tq, hc, hoc, hdc, hq⟩ := hcd
  simp only [hd', callFunction, hco, hgen, hbody, hc]
  rw [hc] at h
  refine wpG_bindA (m := field (.ref c) 1) (wpAny_field hoc hdc hq (wpG_bindA (wpAny_pure ?_)))
  exact wpG_bindA (wpAny_mono h (fun binds s₁ h₁ => wpG_bindA (wpAny_mono h₁ (fun env s₂ h₂ => wpG_bindA (wpAny_enterFrame h₂.1 hroom
    (wpG_pure ⟨rfl, rfl, h₂.2⟩))) fun _ _ h' => h')) fun _ _ h' => h')

theorem codeG_call_def {R : Result → Shared → Prop} {a : Addr} {o : Obj} {fd : FuncData} {body : List Stmt} {args : Args} {binds : List (Str × Value)}
    (hroom : A.depth < recursionLimit) (ho : s.heap.get? a = some o) (hdata : o.data = .func fd) (hlim : s.heap.NoLimit) (hcd : s.heap.CodeRec fd.code fd.qualname)
    (hbody : fd.body = .stmts body) (hbind : BindsTo s fd args binds)
    (hcell : ∀ x ∈ fd.scope.names, x.2 ≠ .cell) (hloc : ∀ x ∈ binds, fd.scope.names.lookup x.1 = some .local)
    (h : ∀ h₀, h₀.Ns s.heap.objs.size (fun x => binds.reverse.lookup x) → (∀ b o, s.heap.get? b = some o → h₀.get? b = some o) →
      wpG (model prog w) (A.deeper (callEnv fd s.heap.objs.size a)) (execs body (callEnv fd s.heap.objs.size a)) (fun f s' => R (.ok (.ret (match f with | .ret v => v | _ => .none))) s')
        (fun e s' => wpAny (model prog w) (A.deeper (callEnv fd s.heap.objs.size a)) (leaving (callEnv fd s.heap.objs.size a) e) (fun _ s'' => R (.error e) s'') (fun e' s'' => R (.error e') s'') s')
        { s with heap := h₀, toks := s.toks + binds.length })
    (hco : fd.scope.isCoroutine = false := by rfl) (hgen : fd.scope.isGenerator = false := by rfl) (hk : fd.scope.kind = .function := by rfl) :
    codeG (model prog w) A (.call (.ref a) args) R s := by
  refine codeG_call_function hroom ho hdata hco hgen hbody hcd (hbind _ _ _ _ ?_)
  refine wpAny_newFunctionEnv hcell hloc (fun h₀ hns₀ hsb₀ => ⟨hlim.fresh _ hsb₀, codeG_func (h h₀ hns₀ fun b o e => ?_)⟩) hk
  exact hsb₀.extBut b o (Nat.ne_of_lt (Heap.lt_size e)) (Heap.get?_push_of_some _ e)

theorem tailG {t : Sem Value} {Q : Value → Shared → Prop} (ht : wpG (model prog w) A t Q E s) :
    wpG (model prog w) A (t >>= fun r => holding [r] point >>= fun _ => pure r) Q E s :=
  wpG_bind (wpG_mono ht (fun r s₂ hr => wpG_of (wpAny_bind (wpAny_holding (wpAny_point (wpAny_pure hr))))) fun _ _ x => x)

theorem callWithG_fn {pos : Pos} {a : Addr} {o : Obj} {fd : FuncData} {t : Sem Value} {Q : Value → Shared → Prop}
    (h : wpAny (model prog w) A t (fun v s₁ => (s₁.heap.get? a = some o ∧ o.data = .func fd) ∧ wpG (model prog w) A (call (.ref a) [v]) Q E s₁) E s) :
    wpG (model prog w) A (callWith pos (.ref a) [] [(false, t)] []) Q E s := by
  unfold callWith
  refine wpG_bind (wpG_holding (wpG_of ?_))
  refine evalArgs_kw rfl (Calls.spliced_cons (wpAny_mono h (fun v s₁ h₁ => Calls.spliced_nil ?_) fun _ _ x => x))
  refine wpAny_evalAll_nil ?_
  refine wpG_bindA (wpAny_standAt ?_)
  refine wpG_bindA (m := keeperOf (.ref a)) ?_
  unfold keeperOf
  refine wpAny_bind (wpAny_load h₁.1.1 ?_)
  rw [h₁.1.2]
  refine wpAny_pure ?_
  refine tailG ?_
  show wpG _ _ (callMarked plainCall (.ref a) [v] []) _ _ _
  unfold callMarked
  exact wpG_keep h₁.2
end
end Mine
end

section
open PySem PySem.W PyProof.Rows
set_option Elab.async false
set_option maxRecDepth 100000
namespace Mine
theorem bym_mro : mroOf (.type "bytearray") = pure [.type "bytearray", .type "object"] := by rw [mroOf_type]; kernel_rfl
theorem bym_new : typeLookup (.type "bytearray") "__new__" = pure (some (.builtin "bytearray.__new__")) := by rw [typeLookup_type, builtinLookup_eq_fast]; kernel_rfl
theorem bym_rows : Manifest.owners.lookup (String.ofList ['y', 'a', 'r', 'r', 'a', 'e', 't', 'y', 'b'].reverse) = some Manifest.sig_bytearray := by kernel_rfl
theorem bym_slot_init : Slot "bytearray" "__init__" "bytearray.__init__" :=
  .of (owner := "bytearray") (n := "__init__") (by rw [typeLookup_type, builtinLookup_eq_fast]; kernel_rfl) (by decide +kernel) (by decide +kernel) (by decide +kernel)
    (by first | exact .inl (by decide +kernel) | exact .inr (by decide +kernel)) (by rw [isSubtype_type]; kernel_rfl)
theorem bym_entry_init : entryFor table "bytearray.__init__" = some Builtin.«bytearray.__init__» := by first | exact entryFor_of_fast (by kernel_rfl) | exact entryFor_of_tree (by kernel_rfl)
theorem bym_args_init_1 (a : Value) : argsOk "bytearray.__init__" ⟨[a], []⟩ := by
  unfold argsOk; rw [signature?_of (id := "bytearray.__init__") (n := ['_', '_', 't', 'i', 'n', 'i', '_', '_']) (o := ['y', 'a', 'r', 'r', 'a', 'e', 't', 'y', 'b']) (by kernel_rfl) bym_rows]; kernel_rfl
theorem bym_args_init_2 (a b : Value) : argsOk "bytearray.__init__" ⟨[a, b], []⟩ := by
  unfold argsOk; rw [signature?_of (id := "bytearray.__init__") (n := ['_', '_', 't', 'i', 'n', 'i', '_', '_']) (o := ['y', 'a', 'r', 'r', 'a', 'e', 't', 'y', 'b']) (by kernel_rfl) bym_rows]; kernel_rfl
theorem bym_slot_len : Slot "bytearray" "__len__" "bytearray.__len__" :=
  .of (owner := "bytearray") (n := "__len__") (by rw [typeLookup_type, builtinLookup_eq_fast]; kernel_rfl) (by decide +kernel) (by decide +kernel) (by decide +kernel)
    (by first | exact .inl (by decide +kernel) | exact .inr (by decide +kernel)) (by rw [isSubtype_type]; kernel_rfl)
theorem bym_entry_len : entryFor table "bytearray.__len__" = some Builtin.«bytearray.__len__» := by first | exact entryFor_of_fast (by kernel_rfl) | exact entryFor_of_tree (by kernel_rfl)
theorem bym_args_len_1 (a : Value) : argsOk "bytearray.__len__" ⟨[a], []⟩ := by
  unfold argsOk; rw [signature?_of (id := "bytearray.__len__") (n := ['_', '_', 'n', 'e', 'l', '_', '_']) (o := ['y', 'a', 'r', 'r', 'a', 'e', 't', 'y', 'b']) (by kernel_rfl) bym_rows]; kernel_rfl
theorem bym_slot_getitem : Slot "bytearray" "__getitem__" "bytearray.__getitem__" :=
  .of (owner := "bytearray") (n := "__getitem__") (by rw [typeLookup_type, builtinLookup_eq_fast]; kernel_rfl) (by decide +kernel) (by decide +kernel) (by decide +kernel)
    (by first | exact .inl (by decide +kernel) | exact .inr (by decide +kernel)) (by rw [isSubtype_type]; kernel_rfl)
theorem bym_entry_getitem : entryFor table "bytearray.__getitem__" = some Builtin.«bytearray.__getitem__» := by first | exact entryFor_of_fast (by kernel_rfl) | exact entryFor_of_tree (by kernel_rfl)
theorem bym_args_getitem_2 (a b : Value) : argsOk "bytearray.__getitem__" ⟨[a, b], []⟩ := by
  unfold argsOk; rw [signature?_of (id := "bytearray.__getitem__") (n := ['_', '_', 'm', 'e', 't', 'i', 't', 'e', 'g', '_', '_']) (o := ['y', 'a', 'r', 'r', 'a', 'e', 't', 'y', 'b']) (by kernel_rfl) bym_rows]; kernel_rfl
theorem bym_entry_contains : entryFor table "bytearray.__contains__" = some Builtin.«bytearray.__contains__» := by first | exact entryFor_of_fast (by kernel_rfl) | exact entryFor_of_tree (by kernel_rfl)
theorem bym_args_contains_2 (a b : Value) : argsOk "bytearray.__contains__" ⟨[a, b], []⟩ := by
  unfold argsOk; rw [signature?_of (id := "bytearray.__contains__") (n := ['_', '_', 's', 'n', 'i', 'a', 't', 'n', 'o', 'c', '_', '_']) (o := ['y', 'a', 'r', 'r', 'a', 'e', 't', 'y', 'b']) (by kernel_rfl) bym_rows]; kernel_rfl
theorem bym_slot_append : Slot "bytearray" "append" "bytearray.append" :=
  .of (owner := "bytearray") (n := "append") (by rw [typeLookup_type, builtinLookup_eq_fast]; kernel_rfl) (by decide +kernel) (by decide +kernel) (by decide +kernel)
    (by first | exact .inl (by decide +kernel) | exact .inr (by decide +kernel)) (by rw [isSubtype_type]; kernel_rfl)
theorem bym_entry_append : entryFor table "bytearray.append" = some Builtin.«bytearray.append» := by first | exact entryFor_of_fast (by kernel_rfl) | exact entryFor_of_tree (by kernel_rfl)
theorem bym_args_append_2 (a b : Value) : argsOk "bytearray.append" ⟨[a, b], []⟩ := by
  unfold argsOk; rw [signature?_of (id := "bytearray.append") (n := ['d', 'n', 'e', 'p', 'p', 'a']) (o := ['y', 'a', 'r', 'r', 'a', 'e', 't', 'y', 'b']) (by kernel_rfl) bym_rows]; kernel_rfl
theorem bym_slot_iter : Slot "bytearray" "__iter__" "bytearray.__iter__" :=
  .of (owner := "bytearray") (n := "__iter__") (by rw [typeLookup_type, builtinLookup_eq_fast]; kernel_rfl) (by decide +kernel) (by decide +kernel) (by decide +kernel)
    (by first | exact .inl (by decide +kernel) | exact .inr (by decide +kernel)) (by rw [isSubtype_type]; kernel_rfl)
theorem bym_entry_iter : entryFor table "bytearray.__iter__" = some Builtin.«bytearray.__iter__» := by first | exact entryFor_of_fast (by kernel_rfl) | exact entryFor_of_tree (by kernel_rfl)
theorem bym_args_iter_1 (a : Value) : argsOk "bytearray.__iter__" ⟨[a], []⟩ := by
  unfold argsOk; rw [signature?_of (id := "bytearray.__iter__") (n := ['_', '_', 'r', 'e', 't', 'i', '_', '_']) (o := ['y', 'a', 'r', 'r', 'a', 'e', 't', 'y', 'b']) (by kernel_rfl) bym_rows]; kernel_rfl
theorem bym_slot_iadd : Slot "bytearray" "__iadd__" "bytearray.__iadd__" :=
  .of (owner := "bytearray") (n := "__iadd__") (by rw [typeLookup_type, builtinLookup_eq_fast]; kernel_rfl) (by decide +kernel) (by decide +kernel) (by decide +kernel)
    (by first | exact .inl (by decide +kernel) | exact .inr (by decide +kernel)) (by rw [isSubtype_type]; kernel_rfl)
theorem bym_entry_iadd : entryFor table "bytearray.__iadd__" = some Builtin.«bytearray.__iadd__» := by first | exact entryFor_of_fast (by kernel_rfl) | exact entryFor_of_tree (by kernel_rfl)
theorem bym_args_iadd_2 (a b : Value) : argsOk "bytearray.__iadd__" ⟨[a, b], []⟩ := by
  unfold argsOk; rw [signature?_of (id := "bytearray.__iadd__") (n := ['_', '_', 'd', 'd', 'a', 'i', '_', '_']) (o := ['y', 'a', 'r', 'r', 'a', 'e', 't', 'y', 'b']) (by kernel_rfl) bym_rows]; kernel_rfl
theorem bym_called : TypeCalled "bytearray" "bytearray.__new__" "bytearray.__init__" :=
  ⟨by decide +kernel, by decide +kernel, ⟨_, _, bym_mro⟩, madeBy_type bym_mro bym_new (by decide +kernel), by decide +kernel, by rw [isSubtype_type]; kernel_rfl, bym_slot_init⟩
theorem bym_typeCall0 : checkTypeCall "bytearray" ⟨[], []⟩ = pure () := by kernel_rfl
theorem bym_typeCall1 (a : Value) : checkTypeCall "bytearray" ⟨[a], []⟩ = pure () := by kernel_rfl
theorem bym_newCall0 : checkBuiltinCall "bytearray.__new__" ⟨[.type "bytearray"], []⟩ = pure () := by kernel_rfl
theorem bym_newCall1 (a : Value) : checkBuiltinCall "bytearray.__new__" ⟨[.type "bytearray", a], []⟩ = pure () := by kernel_rfl
theorem bym_entryNew : entryFor table "bytearray.__new__" = some Builtin.«list.__new__» :=
  entryFor_alias (id' := "list.__new__") (by kernel_rfl) (by first | rfl | decide +kernel) (by decide +kernel) (by kernel_rfl)
theorem bym_plainNew : plainId "bytearray.__new__" = true := by decide +kernel
theorem bym_sub : isSubtype (.type "bytearray") (.type "bytearray") = pure true := by rw [isSubtype_type]; kernel_rfl
set_option maxRecDepth 1000000 in
set_option maxHeartbeats 4000000 in
theorem bym_owner : ("bytearray.__new__".splitOn ".__new__").headD "" = "bytearray" := by simp +decide [String.splitOn, String.splitOnAux]
theorem bym_buffer : typeLookup (.type "bytearray") "__buffer__" = pure (some (.builtin "bytearray.__buffer__")) := by rw [typeLookup_type, builtinLookup_eq_fast]; kernel_rfl
theorem bym_release : typeLookup (.type "bytearray") "__release_buffer__" = pure (some (.builtin "bytearray.__release_buffer__")) := by rw [typeLookup_type, builtinLookup_eq_fast]; kernel_rfl
theorem bym_index : typeLookup (.type "bytearray") "__index__" = pure none := by rw [typeLookup_type, builtinLookup_eq_fast]; kernel_rfl
theorem bym_bytes : typeLookup (.type "bytearray") "__bytes__" = pure none := by rw [typeLookup_type, builtinLookup_eq_fast]; kernel_rfl
theorem bym_bind0 : Builtin.Bytes.bindOptional "bytearray.__init__" "bytearray" ["source", "encoding", "errors"] [] [] = pure [none, none, none] := by kernel_rfl
theorem bym_bind1 (v : Value) : Builtin.Bytes.bindOptional "bytearray.__init__" "bytearray" ["source", "encoding", "errors"] [v] [] = pure [some v, none, none] := by kernel_rfl
end Mine
end

section
open PySem PySem.W PyProof.Rows
set_option Elab.async false
set_option maxRecDepth 100000
namespace Mine

/-- A bytearray that nothing exports. -/
abbrev baObj (b : Array UInt8) : Obj := { cls := .type "bytearray", data := .bytearray b 0 }

section
variable {prog : Program} {w : World} {A : Around} {E : Value → Shared → Prop} {s : Shared}

theorem not_held {st : List (Code × Pos)} {c : Code} {p : Pos} (hm : (c, p) ∈ st) (hc : clean st = true) (hg : guardsOf st = []) : cleanC c = true ∧ c.isGuard = false := by
  refine ⟨List.all_eq_true.mp hc _ hm, ?_⟩
  cases hq : c.isGuard with
  | false => rfl
  | true =>
    have : c ∈ guardsOf st := by
      unfold guardsOf
      exact List.mem_filter.mpr ⟨List.mem_map_of_mem (f := (·.1)) hm, hq⟩
    rw [hg] at this
    cases this

theorem wpG_exported {self : Value} {Q : Bool → Shared → Prop} (hg : A.guards = some []) (h : Q false s) : wpG (model prog w) A (Builtin.Bytes.exported self) Q E s := by
  unfold Builtin.Bytes.exported
  refine wpG_bind (wpG_stack fun st hc hst => wpG_pure ?_)
  refine cast (congrArg (fun b => Q b s) (Eq.symm (List.any_eq_false.mpr ?_))) h
  rintro ⟨c, p⟩ hm
  obtain ⟨h1, h2⟩ := not_held hm hc (hst _ hg)
  split
  · rename_i heq; cases heq; exact absurd h2 (by show ¬ (guardIds.contains "bytearray.__contains__" = false); decide)
  · rename_i heq; cases heq; exact absurd h2 (by show ¬ (guardIds.contains "bytearray.__mod__" = false); decide)
  · rename_i heq; cases heq; exact absurd h2 (by show ¬ (guardIds.contains "bytearray.__rmod__" = false); decide)
  · rename_i heq; cases heq; exact absurd h2 (by show ¬ (guardIds.contains "_struct.pack_into.held" = false); decide)
  · rename_i heq; cases heq; exact absurd h2 (by show ¬ (guardIds.contains "bytearray.find.held" = false); decide)
  · rename_i heq; cases heq
    have h3 : (!Builtin.Bytes.decodersThatHold.contains _) = true := h1
    rw [Bool.not_eq_true'] at h3
    rw [h3, Bool.and_false]; exact Bool.false_ne_true
  · exact Bool.false_ne_true

theorem wpG_eq {α β : Type} {t : Sem α} {a : α} {f : α → Sem β} {Q : β → Shared → Prop} (e : t = pure a) (h : wpG (model prog w) A (f a) Q E s) : wpG (model prog w) A (t >>= f) Q E s := by
  subst e; exact h
theorem wpG_if_false {α : Type} {c : Bool} {a b : Sem α} {Q : α → Shared → Prop} (hc : c = false) (h : wpG (model prog w) A b Q E s) : wpG (model prog w) A (if c = true then a else b) Q E s := by
  subst hc; exact h
theorem wpG_if_true {α : Type} {c : Bool} {a b : Sem α} {Q : α → Shared → Prop} (hc : c = true) (h : wpG (model prog w) A a Q E s) : wpG (model prog w) A (if c = true then a else b) Q E s := by
  subst hc; exact h

theorem codeG_builtin {id : String} {args : Args} {b : Builtin} {R : Result → Shared → Prop} (hb : entryFor table id = some b)
    (h : wpG (model prog w) (A.under (.builtin id args)) (b args)
      (fun fin s' => match fin with | .done f => R (.ok f) s' | .again c' => c'.quiet = true ∧ cleanC c' = true ∧ codeG (model prog w) A c' R s') (fun e s' => R (.error e) s') s) :
    codeG (model prog w) A (.builtin id args) R s := by
  refine codeG_of_tree ?_
  show wpG _ _ (match entryFor table id with | some b => b args | none => unsupported ((withoutEnding? id "#data").getD id)) _ _ s
  rw [hb]; exact h

/-- A plain built-in whose call is checked. -/
theorem codeG_call_builtin {id : String} {args : Args} {b : Builtin} {R : Result → Shared → Prop} (hp : plainId id = true) (hcl : cleanC (.builtin id args) = true) (hb : entryFor table id = some b)
    (h : wpAny (model prog w) A.in1 (checkBuiltinCall id args) (fun _ s₁ => wpG (model prog w) A.in1 (b args)
      (fun fin s' => match fin with | .done f => R (.ok f) s' | .again c' => c'.quiet = true ∧ cleanC c' = true ∧ codeG (model prog w) A c' R s') (fun e s' => R (.error e) s') s₁)
      (fun e s' => R (.error e) s') s) : codeG (model prog w) A (.call (.builtin id) args) R s := by
  refine codeG_of_tree ?_
  show wpG _ A.in1 (do checkBuiltinCall id args; again (.builtin id args)) _ _ s
  refine wpG_bindA (wpAny_mono h (fun _ s₁ h₁ => wpG_pure ⟨plainId_quiet hp _, hcl, codeG_builtin hb ?_⟩) fun _ _ x => x)
  rw [Around.under_plainId hp _]
  exact h₁

/-- A made type's call: the new object by the library, its __init__ on clean stacks. -/
theorem callTypeG {T newId initId : String} {Bi : Builtin} {args : List Value} {Q Q₁ : Value → Shared → Prop} (ft : TypeCalled T newId initId)
    (hct : checkTypeCall T ⟨args, []⟩ = pure ()) (entryI : entryFor table initId = some Bi) (hcl : cleanC (.builtin initId {}) = true)
    (hnew : codeAny (model prog w) A.in1 (.call (.builtin newId) ⟨.type T :: args, []⟩) (wants Q₁ E) s)
    (hnext : ∀ obj s₁, Q₁ obj s₁ → s₁.TypeIs obj T ∧ argsOk initId ⟨obj :: args, []⟩ ∧
      wpG (model prog w) A.in1.in1 (Bi ⟨obj :: args, []⟩)
        (fun fin s' => ∃ v, fin = .done (.ret v) ∧ v = .none ∧ Q obj s')
        (fun e s' => E e s') s₁) :
    wpG (model prog w) A (call (.type T) args) Q E s := by
  obtain ⟨c, tl, hmro⟩ := ft.mro
  have hmade := ft.made
  have hsub := ft.sub
  have h1 := ft.notType
  have h2 := ft.canCreate
  refine wpG_call (codeG_of_tree ?_)
  show wpG _ _ (callAny (.type T) _) _ _ _
  refine wpG_pure ⟨Code.quiet_builtin _ (by decide +kernel), rfl, codeG_builtin F.entry_type_call ?_⟩
  rw [Around.under_plain (weight_type_call_type T args []) rfl]
  unfold Builtin.«type.__call__»
  dsimp only
  rw [h1]
  refine wpG_if_false rfl ?_
  refine wpG_if_false h2 ?_
  refine wpG_eq hct ?_
  refine wpG_eq hmro ?_
  refine wpG_if_false rfl ?_
  refine wpG_eq hmade ?_
  refine wpG_bindA (wpAny_pure ?_)
  refine wpG_bindA (wpAny_holding (wpAny_call (codeAny_mono hnew fun r s₁ hr => ?_)))
  cases r with
  | error e => exact hr
  | ok fl =>
    cases fl with
    | ret obj =>
      obtain ⟨hT, hok, hsi⟩ := hnext _ _ hr
      refine wpG_bindA (wpAny_isInstance hT hsub ?_)
      refine wpG_if_false rfl ?_
      refine wpG_bind (wpG_holding ?_)
      unfold callSpecial?
      refine wpG_bindA (wpAny_specialOf hT ft.init.lookup ?_)
      refine wpG_holding ?_
      refine wpG_eq (ft.init.bind obj) ?_
      refine wpG_bind (wpG_call (codeG_call_builtin ft.init.plain hcl entryI ?_))
      refine ft.init.check _ _ _ _ _ _ _ _ hT hok ?_
      refine wpG_mono hsi (fun fin s' hf => ?_) fun _ _ x => x
      obtain ⟨v, rfl, rfl, hq⟩ := hf
      refine wpG_pure ?_
      refine wpG_if_false rfl ?_
      exact wpG_pure hq
    | _ => exact hr.elim

theorem code_ba_new {args : List Value} {Q₁ : Value → Shared → Prop} (hc : checkBuiltinCall "bytearray.__new__" ⟨.type "bytearray" :: args, []⟩ = pure ())
    (h : Q₁ (.ref s.heap.objs.size) { s with heap := s.heap.push (baObj #[]) }) :
    codeAny (model prog w) A (.call (.builtin "bytearray.__new__") ⟨.type "bytearray" :: args, []⟩) (wants Q₁ E) s := by
  refine codeAny_of_tree ?_
  show wpAny _ A.in1 (do checkBuiltinCall "bytearray.__new__" ⟨.type "bytearray" :: args, []⟩; again (.builtin "bytearray.__new__" ⟨.type "bytearray" :: args, []⟩)) _ _ s
  refine wpAny_bind (wpAny_of_eq hc (wpAny_pure ⟨plainId_quiet bym_plainNew _, codeAny_builtin_stack bym_entryNew rfl fun p st => ?_⟩))
  rw [Around.under_plainId bym_plainNew _]
  have hsub := bym_sub
  have hown := bym_owner
  obtain ⟨hp, g, d, tk, os⟩ := s
  simp only [hown]
  wp_walk
  exact h
end
end Mine
end

section
open PySem PySem.W PyProof.Rows
set_option Elab.async false
set_option maxRecDepth 100000
namespace Mine
open PySem.Builtin

section
variable {prog : Program} {w : World} {A : Around} {E : Value → Shared → Prop} {s : Shared} {a : Addr} {b : Array UInt8}

theorem ba_type (ho : s.heap.get? a = some (baObj b)) : s.TypeIs (.ref a) "bytearray" := ⟨_, ho, rfl⟩

theorem wpAny_slotIsOwn_ba {M : Model} {name : String} {id : String} {Q : Bool → Shared → Prop} (ho : s.heap.get? a = some (baObj b)) (hl : typeLookup (.type "bytearray") (name : Str) = pure (some (.builtin id)))
    (he : id.endsWith ("." ++ name) = true) (hd : id.dropRight (name.length + 1) = "bytearray") (h : Q true s) : wpAny M A (Bytes.slotIsOwn (.ref a) name) Q E s := by
  unfold Bytes.slotIsOwn
  refine wpAny_bind (wpAny_specialOf (ba_type ho) hl ?_)
  dsimp only
  rw [he, hd]
  exact wpAny_isInstance (ba_type ho) bym_sub h

theorem wpAny_ownRelease_ba {M : Model} {Q : Bool → Shared → Prop} (ho : s.heap.get? a = some (baObj b)) (h : Q false s) : wpAny M A (Bytes.ownRelease (.ref a)) Q E s := by
  unfold Bytes.ownRelease
  exact wpAny_bind (wpAny_slotIsOwn_ba ho bym_release (by decide +kernel) (by decide +kernel) (wpAny_pure h))

theorem wpAny_payload_ba {M : Model} {Q : Array UInt8 → Shared → Prop} (ho : s.heap.get? a = some (baObj b)) (h : Q b s) : wpAny M A (Bytes.payload (.ref a)) Q E s := by
  unfold Bytes.payload
  refine wpAny_bind ?_
  unfold Bytes.payload?
  exact wpAny_bind (wpAny_load ho (wpAny_pure (wpAny_pure h)))

theorem wpAny_exportsOf_ba {M : Model} {Q : Nat → Shared → Prop} (ho : s.heap.get? a = some (baObj b)) (h : Q 0 s) : wpAny M A (Bytes.exportsOf (.ref a)) Q E s := by
  unfold Bytes.exportsOf
  exact wpAny_bind (wpAny_load ho (wpAny_pure h))

theorem wpAny_buffer_ba {M : Model} {id : String} {full : Bool} {Q : Option (Array UInt8) → Shared → Prop} (ho : s.heap.get? a = some (baObj b)) (h : Q (some b) s) : wpAny M A (Bytes.buffer? id (.ref a) full) Q E s := by
  unfold Bytes.buffer?
  refine wpAny_bind (wpAny_specialOf (ba_type ho) bym_buffer ?_)
  dsimp only
  refine wpAny_bind (wpAny_slotIsOwn_ba ho bym_buffer (by decide +kernel) (by decide +kernel) ?_)
  refine bm_if_false rfl ?_
  refine wpAny_bind (wpAny_specialOf (ba_type ho) bym_buffer ?_)
  refine wpAny_bind (wpAny_ownRelease_ba ho ?_)
  refine bm_if_false rfl ?_
  exact wpAny_bind (wpAny_payload_ba ho (wpAny_pure h))

/-- The heap with the bytearray's octets turned. -/
theorem get_turned {h : Heap} (f : Array UInt8 → Array UInt8) (ho : h.get? a = some (baObj b)) : (h.update a (Obj.mapBytearray f)).get? a = some (baObj (f b)) :=
  Heap.get?_update_self _ ho rfl

theorem wpAny_write_ba {M : Model} {f : Array UInt8 → Array UInt8} {Q : Unit → Shared → Prop} (ho : s.heap.get? a = some (baObj b)) (hz : (f b).size ≤ sizeLine)
    (h : Q () { s with heap := s.heap.update a (Obj.mapBytearray f) }) : wpAny M A (Bytes.write (.ref a) f) Q E s := by
  unfold Bytes.write updateBytearray
  refine wpAny_bind (wpAny_load ho ?_)
  dsimp only
  refine wpAny_bind (wpAny_update ho ?_)
  refine wpAny_lookBehind (o := baObj (f b)) (get_turned f ho) ?_ h
  show (if (f b).size > sizeLine then some "bytearray:memory" else none) = none
  rw [if_neg (Nat.not_lt.mpr hz)]

theorem wpG_checkResize {Q : Unit → Shared → Prop} (hg : A.guards = some []) (ho : s.heap.get? a = some (baObj b)) (h : Q () s) : wpG (model prog w) A (Bytes.checkResize (.ref a)) Q E s := by
  unfold Bytes.checkResize
  refine wpG_bind ?_
  refine wpG_mono (Q := fun r s' => r = false ∧ s' = s) (E := fun _ _ => False) ?_ ?_ (fun _ _ x => x.elim)
  · show wpG _ _ (Bytes.exported (.ref a) >>= fun r => _) _ _ _
    refine wpG_bind (wpG_exported hg ?_)
    exact wpG_of (wpAny_bind (wpAny_exportsOf_ba ho (wpAny_pure ⟨rfl, rfl⟩)))
  · rintro r s' ⟨rfl, rfl⟩
    exact wpG_pure h
end
end Mine
end

section
open PySem PySem.W PyProof.Rows
set_option Elab.async false
set_option maxRecDepth 100000
namespace Mine
open PySem.Builtin

theorem bym_noFill : fillsNumberSlot (.type "bytearray") "add" = pure false :=
  PySem.fillsNumberSlot_seq (id := "bytearray.__add__") (r := none) (by rw [typeLookup_type, builtinLookup_eq_fast]; kernel_rfl) (by decide +kernel) (by rw [typeLookup_type, builtinLookup_eq_fast]; kernel_rfl) rfl
theorem bytes_noFill : fillsNumberSlot (.type "bytes") "add" = pure false :=
  PySem.fillsNumberSlot_seq (id := "bytes.__add__") (r := none) (by rw [typeLookup_type, builtinLookup_eq_fast]; kernel_rfl) (by decide +kernel) (by rw [typeLookup_type, builtinLookup_eq_fast]; kernel_rfl) rfl
theorem list_noFill : fillsNumberSlot (.type "list") "add" = pure false :=
  PySem.fillsNumberSlot_seq (id := "list.__add__") (r := none) (by rw [typeLookup_type, builtinLookup_eq_fast]; kernel_rfl) (by decide +kernel) (by rw [typeLookup_type, builtinLookup_eq_fast]; kernel_rfl) rfl
theorem bym_iadd_seq : isSeqSlot (some (.builtin "bytearray.__iadd__")) = true := by decide +kernel
theorem list_iadd_seq : isSeqSlot (some (.builtin "list.__iadd__")) = true := by decide +kernel
theorem list_iadd_look : typeLookup (.type "list") (dunderI "add") = pure (some (.builtin "list.__iadd__")) := by rw [typeLookup_type, builtinLookup_eq_fast]; kernel_rfl
theorem bym_iadd_look : typeLookup (.type "bytearray") (dunderI "add") = pure (some (.builtin "bytearray.__iadd__")) := by rw [typeLookup_type, builtinLookup_eq_fast]; kernel_rfl

section
variable {prog : Program} {w : World} {A : Around} {E : Value → Shared → Prop} {s : Shared} {a : Addr} {b : Array UInt8}

theorem binaryOp1_none2 {M : Model} {x y : Value} {T U nm : String} {Q : Option Value → Shared → Prop} (ha : s.TypeIs x T) (hb : s.TypeIs y U)
    (hT : fillsNumberSlot (.type T) nm = pure false) (hU : fillsNumberSlot (.type U) nm = pure false) (h : Q none s) : wpAny M A (binaryOp1 nm x y) Q E s := by
  simp only [binaryOp1]
  refine wpAny_bind (wpAny_typeOf ha (wpAny_bind (wpAny_typeOf hb (wpAny_bind (wpAny_of_eq hT ?_)))))
  by_cases he : (Value.type T == Value.type U) = true
  · simp only [he, if_true, pure_bind, Bool.false_and, Bool.false_eq_true, if_false]
    exact wpAny_pure h
  · rw [if_neg he]
    refine wpAny_bind (wpAny_of_eq hU ?_)
    simp only [pure_bind, Bool.false_and, Bool.false_eq_true, if_false]
    exact wpAny_pure h

theorem inplaceG_seq {x y : Value} {T U id : String} {Q : Value → Shared → Prop} (ha : s.TypeIs x T) (hb : s.TypeIs y U)
    (hi : typeLookup (.type T) (dunderI "add") = pure (some (.builtin id))) (hs : isSeqSlot (some (.builtin id)) = true)
    (hT : fillsNumberSlot (.type T) "add" = pure false) (hU : fillsNumberSlot (.type U) "add" = pure false)
    (hc : wpG (model prog w) A (call (.builtin id) [x, y]) Q E s) : wpG (model prog w) A (inplaceOp .Add x y) Q E s := by
  unfold inplaceOp
  refine wpG_holding ?_
  have hfi : fillsInplaceSlot (.type T) "add" (Operator.Add == .Add) = pure false := by
    unfold fillsInplaceSlot
    show (typeLookup (.type T) (dunderI "add") >>= fun fi => pure (fi.isSome && !isSeqSlot fi)) = pure false
    rw [hi, pure_bind, hs]; rfl
  refine wpG_bindA (wpAny_typeOf ha (wpG_eq hfi ?_))
  refine wpG_if_false rfl ?_
  refine wpG_bindA (binaryOp1_none2 (nm := "add") ha hb hT hU ?_)
  refine wpG_eq (PySem.seqSlot_of hi hs) ?_
  exact wpG_bindA (wpAny_rule hc)

/-- A method of a heap object's own type, called. -/
theorem callG_slot {T id : String} {name : Str} {B : Builtin} {self : Value} {rest : List Value} {Q : Value → Shared → Prop} (slot : Slot T name id) (hcl : cleanC (.builtin id {}) = true) (hT : s.TypeIs self T) (entry : entryFor table id = some B) (args : argsOk id ⟨self :: rest, []⟩)
    (h : wpG (model prog w) A.in1 (B ⟨self :: rest, []⟩) (fun fin s' => ∃ v, fin = .done (.ret v) ∧ Q v s') E s) :
    wpG (model prog w) A (call (.builtin id) (self :: rest)) Q E s := by
  refine wpG_call (codeG_call_builtin slot.plain hcl entry (slot.check _ _ _ _ _ _ _ _ hT args ?_))
  refine wpG_mono h (fun fin s' hf => ?_) fun _ _ x => x
  obtain ⟨v, rfl, hq⟩ := hf
  exact hq

/-- What a bytes-like value bears. -/
def Buf (h : Heap) (v : Value) (b : Array UInt8) : Prop := (∃ t, v = .bytes b t) ∨ ∃ a, v = .ref a ∧ h.get? a = some (baObj b)

theorem buf_takeQuiet {M : Model} {id : String} {v : Value} {Q : Option (Array UInt8 × Option Value) → Shared → Prop} (hv : Buf s.heap v b) (h : Q (some (b, none)) s) :
    wpAny M A (Bytes.takeBufferQuiet? id v 0) Q E s := by
  unfold Bytes.takeBufferQuiet?
  refine wpAny_bind (wpAny_attempt ?_)
  unfold Bytes.takeBuffer?
  rcases hv with ⟨t, rfl⟩ | ⟨a, rfl, ho⟩
  · refine wpAny_bind (wpAny_of_eq (KBy.special_eq KBy.look_buffer) ?_)
    dsimp only
    refine wpAny_bind (wpAny_of_eq KBy.own_buffer ?_)
    refine bm_if_false rfl ?_
    refine wpAny_bind (wpAny_of_eq (KBy.special_eq KBy.look_buffer) ?_)
    refine wpAny_bind (wpAny_of_eq KBy.buffer_eq ?_)
    exact wpAny_pure (wpAny_pure h)
  · refine wpAny_bind (wpAny_specialOf (ba_type ho) bym_buffer ?_)
    dsimp only
    refine wpAny_bind (wpAny_slotIsOwn_ba ho bym_buffer (by decide +kernel) (by decide +kernel) ?_)
    refine bm_if_false rfl ?_
    refine wpAny_bind (wpAny_specialOf (ba_type ho) bym_buffer ?_)
    refine wpAny_bind (wpAny_buffer_ba ho ?_)
    exact wpAny_pure (wpAny_pure h)

theorem tooLong_not {n : Nat} (h : n ≤ sizeLine) : Bytes.tooLong n = false := by
  unfold Bytes.tooLong
  exact decide_eq_false (Nat.not_lt.mpr h)

theorem buf_typeIs {v : Value} (hv : Buf s.heap v b) : ∃ U, s.TypeIs v U ∧ fillsNumberSlot (.type U) "add" = pure false := by
  rcases hv with ⟨t, rfl⟩ | ⟨a, rfl, ho⟩
  · exact ⟨"bytes", PySem.W.typeIs_bytes _ _ _, bytes_noFill⟩
  · exact ⟨"bytearray", ba_type ho, bym_noFill⟩

/-- out += v -/
theorem iaddG {v : Value} {c : Array UInt8} {Q : Value → Shared → Prop} (hg : A.guards = some []) (ho : s.heap.get? a = some (baObj b)) (hv : Buf s.heap v c) (hne : v ≠ .ref a) (hz : b.size + c.size ≤ sizeLine)
    (h : Q (.ref a) { s with heap := s.heap.update a (Obj.mapBytearray (· ++ c)) }) : wpG (model prog w) A (inplaceOp .Add (.ref a) v) Q E s := by
  obtain ⟨U, hU, hfU⟩ := buf_typeIs hv
  refine inplaceG_seq (ba_type ho) hU bym_iadd_look bym_iadd_seq bym_noFill hfU ?_
  refine callG_slot bym_slot_iadd rfl (ba_type ho) bym_entry_iadd (bym_args_iadd_2 _ _) ?_
  unfold Builtin.«bytearray.__iadd__»
  refine wpG_eq (a := (.ref a, [v])) rfl ?_
  refine wpG_bindA (buf_takeQuiet hv ?_)
  dsimp only
  unfold Bytes.thenGiveBack
  dsimp only
  have hsr : Bytes.sameRef (.ref a) v = false := by
    rcases hv with ⟨t, rfl⟩ | ⟨a', rfl, _⟩
    · rfl
    · show (a == a') = false
      exact beq_eq_false_iff_ne.mpr fun e => hne (by rw [e])
  have rest : wpG (model prog w) A.in1 (do
      if Bytes.tooLong ((← Bytes.payload (.ref a)).size + c.size) then unsupported "bytearray.__iadd__:memory"
      Bytes.write (.ref a) (· ++ c)
      ret (.ref a)) (fun fin s' => ∃ v, fin = .done (.ret v) ∧ Q v s') E s := by
    refine wpG_bindA (wpAny_payload_ba ho ?_)
    refine wpG_if_false (tooLong_not hz) ?_
    refine wpG_bindA (wpAny_write_ba ho (by rw [Array.size_append]; exact hz) ?_)
    exact wpG_pure ⟨_, rfl, h⟩
  by_cases hc : c.isEmpty = true
  · refine wpG_if_false (by rw [hc]; rfl) ?_
    exact rest
  · refine wpG_if_true (by rw [Bool.not_eq_true] at hc; rw [hc]; rfl) ?_
    refine wpG_if_false hsr ?_
    exact wpG_bind (wpG_checkResize hg ho rest)
end
end Mine
end

section
open PySem PySem.W PyProof.Rows
set_option Elab.async false
set_option maxRecDepth 100000
namespace Mine
open PySem.Builtin

section
variable {prog : Program} {w : World} {A : Around} {E : Value → Shared → Prop} {s : Shared} {a : Addr} {b : Array UInt8}

theorem byteValue_int {M : Model} {k : Int} {t : Tok} {Q : UInt8 → Shared → Prop} (h0 : 0 ≤ k) (h1 : k < 256) (h : Q k.toNat.toUInt8 s) : wpAny M A (Bytes.byteValue (.int k t)) Q E s := by
  unfold Bytes.byteValue
  refine wpAny_bind (wpAny_of_eq (a := k) rfl ?_)
  have e : (decide (k < 0) || decide (k ≥ 256)) = false := by
    rw [decide_eq_false (by omega), decide_eq_false (by omega)]; rfl
  refine bm_if_false e ?_
  exact wpAny_pure h

/-- out.append(k) -/
theorem appendG {k : Int} {t : Tok} {Q : Value → Shared → Prop} (hg : A.guards = some []) (ho : s.heap.get? a = some (baObj b)) (h0 : 0 ≤ k) (h1 : k < 256) (hz : b.size + 1 ≤ sizeLine)
    (h : Q .none { s with heap := s.heap.update a (Obj.mapBytearray (·.push k.toNat.toUInt8)) }) : wpG (model prog w) A (call (.builtin "bytearray.append") [.ref a, .int k t]) Q E s := by
  refine callG_slot bym_slot_append rfl (ba_type ho) bym_entry_append (bym_args_append_2 _ _) ?_
  unfold Builtin.«bytearray.append»
  refine wpG_eq (a := (.ref a, .int k t)) rfl ?_
  refine wpG_bindA (byteValue_int h0 h1 ?_)
  refine wpG_bind (wpG_checkResize hg ho ?_)
  refine wpG_bindA (wpAny_write_ba ho (by rw [Array.size_push]; exact hz) ?_)
  exact wpG_pure ⟨_, rfl, h⟩

theorem initG_start {Q : Bool → Shared → Prop} (hg : A.guards = some []) (ho : s.heap.get? a = some (baObj b)) (h : Q false s) :
    wpG (model prog w) A (Bytes.exported (.ref a) <||> (do return (← Bytes.exportsOf (.ref a)) > 0)) Q E s := by
  show wpG _ _ (Bytes.exported (.ref a) >>= fun r => _) _ _ _
  refine wpG_bind (wpG_exported hg ?_)
  exact wpG_of (wpAny_bind (wpAny_exportsOf_ba ho (wpAny_pure h)))

/-- bytearray() -/
theorem makeG0 {Q : Value → Shared → Prop} (hg : A.guards = some [])
    (h : ∀ h', h'.get? s.heap.objs.size = some (baObj #[]) → (∀ x o, s.heap.get? x = some o → h'.get? x = some o) → Q (.ref s.heap.objs.size) { s with heap := h' }) :
    wpG (model prog w) A (call (.type "bytearray") []) Q E s := by
  refine callTypeG (Q₁ := fun obj s₁ => obj = .ref s.heap.objs.size ∧ s₁ = { s with heap := s.heap.push (baObj #[]) }) bym_called bym_typeCall0 bym_entry_init rfl (code_ba_new bym_newCall0 ⟨rfl, rfl⟩) ?_
  rintro obj s₁ ⟨rfl, rfl⟩
  have ho : (s.heap.push (baObj #[])).get? s.heap.objs.size = some (baObj #[]) := Heap.get?_push_size _ rfl
  refine ⟨ba_type (s := { s with heap := s.heap.push (baObj #[]) }) ho, bym_args_init_1 _, ?_⟩
  unfold Builtin.«bytearray.__init__»
  dsimp only
  refine wpG_bindA (wpAny_ownRelease_ba (s := { s with heap := s.heap.push (baObj #[]) }) ho ?_)
  refine wpG_if_false rfl ?_
  refine wpG_eq bym_bind0 ?_
  refine wpG_eq (a := ()) rfl ?_
  refine wpG_eq (a := ()) rfl ?_
  refine wpG_bind (initG_start hg ho ?_)
  refine wpG_if_false rfl ?_
  refine wpG_bindA (wpAny_write_ba (s := { s with heap := s.heap.push (baObj #[]) }) ho (Nat.zero_le _) ?_)
  refine wpG_eq (a := ()) rfl ?_
  refine wpG_pure ⟨_, rfl, rfl, ?_⟩
  exact h _ (get_turned _ ho) fun x o e => (Heap.get?_update_other _ _ (Nat.ne_of_lt (Heap.lt_size e)).symm).trans (Heap.get?_push_of_some _ e)

theorem ints_good {vs : List Value} {ns : List Int} (hi : IntsAre vs ns) (hr : ∀ n ∈ ns, 0 ≤ n ∧ n < 256) :
    (vs.takeWhile fun | .int i _ => 0 ≤ i && i < 256 | _ => false) = vs ∧ (vs.filterMap fun | .int i _ => some i.toNat.toUInt8 | _ => none) = ns.map fun n => n.toNat.toUInt8 := by
  induction hi with
  | nil => exact ⟨rfl, rfl⟩
  | cons n t h ih =>
    have h1 := hr _ (List.mem_cons_self)
    have h2 := ih fun m hm => hr m (List.mem_cons_of_mem _ hm)
    constructor
    · rw [List.takeWhile_cons]
      simp only [h1.1, h1.2, decide_true, Bool.and_self, if_true]
      rw [h2.1]
    · simp only [List.filterMap_cons, List.map_cons]
      rw [h2.2]
end
end Mine
end

section
open PySem PySem.W PyProof.Rows
set_option Elab.async false
set_option maxRecDepth 100000
namespace Mine
open PySem.Builtin

section
variable {prog : Program} {w : World} {A : Around} {E : Value → Shared → Prop} {s : Shared} {a : Addr} {b : Array UInt8}

theorem takeWhile_ints {vs : List Value} {ns : List Int} (hi : IntsAre vs ns) (hr : ∀ n ∈ ns, 0 ≤ n ∧ n < 256) {p : Value → Bool} (hp : ∀ i t, 0 ≤ i → i < 256 → p (.int i t) = true) : vs.takeWhile p = vs := by
  induction hi with
  | nil => rfl
  | cons n t h ih =>
    have h1 := hr _ (List.mem_cons_self)
    rw [List.takeWhile_cons, hp n t h1.1 h1.2, if_pos rfl, ih fun m hm => hr m (List.mem_cons_of_mem _ hm)]
theorem filterMap_ints {vs : List Value} {ns : List Int} (hi : IntsAre vs ns) {g : Value → Option UInt8} (hg : ∀ i t, g (.int i t) = some i.toNat.toUInt8) : (vs.filterMap g).toArray = byteArr ns := by
  unfold byteArr
  congr 1
  induction hi with
  | nil => rfl
  | cons n t h ih => rw [List.filterMap_cons, hg]; simp only [List.map_cons]; rw [ih]

/-- bytearray(list of octets) -/
theorem makeG1 {l : Addr} {vs : List Value} {ns : List Int} {Q : Value → Shared → Prop} (hg : A.guards = some []) (hl : s.heap.IsList l vs.toArray) (hi : IntsAre vs ns) (hr : ∀ n ∈ ns, 0 ≤ n ∧ n < 256) (hz : ns.length ≤ sizeLine)
    (h : ∀ h', h'.get? s.heap.objs.size = some (baObj (byteArr ns)) → (∀ x o, s.heap.get? x = some o → h'.get? x = some o) → Q (.ref s.heap.objs.size) { s with heap := h' }) :
    wpG (model prog w) A (call (.type "bytearray") [.ref l]) Q E s := by
  refine callTypeG (Q₁ := fun obj s₁ => obj = .ref s.heap.objs.size ∧ s₁ = { s with heap := s.heap.push (baObj #[]) }) bym_called (bym_typeCall1 _) bym_entry_init rfl (code_ba_new (bym_newCall1 _) ⟨rfl, rfl⟩) ?_
  rintro obj s₁ ⟨rfl, rfl⟩
  have ho : (s.heap.push (baObj #[])).get? s.heap.objs.size = some (baObj #[]) := Heap.get?_push_size _ rfl
  refine ⟨ba_type (s := { s with heap := s.heap.push (baObj #[]) }) ho, bym_args_init_2 _ _, ?_⟩
  unfold Builtin.«bytearray.__init__»
  dsimp only
  refine wpG_bindA (wpAny_ownRelease_ba (s := { s with heap := s.heap.push (baObj #[]) }) ho ?_)
  refine wpG_if_false rfl ?_
  refine wpG_eq (bym_bind1 _) ?_
  refine wpG_eq (a := ()) rfl ?_
  refine wpG_eq (a := ()) rfl ?_
  refine wpG_bind (initG_start hg ho ?_)
  refine wpG_if_false rfl ?_
  refine wpG_bindA (wpAny_write_ba (s := { s with heap := s.heap.push (baObj #[]) }) ho (Nat.zero_le _) ?_)
  dsimp only
  have ho1 := get_turned (fun _ => #[]) ho
  have keep1 : ∀ x o, s.heap.get? x = some o → ((s.heap.push (baObj #[])).update s.heap.objs.size (Obj.mapBytearray fun _ => #[])).get? x = some o :=
    fun x o e => (Heap.get?_update_other _ _ (Nat.ne_of_lt (Heap.lt_size e)).symm).trans (Heap.get?_push_of_some _ e)
  generalize hH : (s.heap.push (baObj #[])).update s.heap.objs.size (Obj.mapBytearray fun _ => #[]) = H at ho1 keep1 ⊢
  obtain ⟨ol, hol, hoc, nl, hod⟩ := id hl
  have hol1 := keep1 _ _ hol
  have hl1 : H.IsList l vs.toArray := ⟨ol, hol1, hoc, nl, hod⟩
  have hT : ({ s with heap := H } : Shared).TypeIs (.ref l) "list" := Heap.IsList.typeIs (s := { s with heap := H }) hl1
  refine wpG_bindA (m := asStr? (.ref l)) ?_
  · show wpAny _ _ (load l >>= _) _ _ _
    refine wpAny_bind (wpAny_load hol1 ?_)
    rw [hod]
    refine wpAny_pure ?_
    refine wpG_if_false rfl ?_
    refine wpG_eq (a := ()) rfl ?_
    refine wpG_bindA (wpAny_specialOf hT F.bm_no_index ?_)
    refine wpG_if_false rfl ?_
    refine wpG_bindA (m := Bytes.buffer? "bytearray.__init__" (.ref l) true) ?_
    unfold Bytes.buffer?
    refine wpAny_bind (wpAny_specialOf hT F.bm_no_buffer ?_)
    refine wpAny_bind (wpAny_specialOf hT F.bm_no_buffer ?_)
    refine wpAny_pure ?_
    refine wpG_bindA (wpAny_typeOf hT ?_)
    refine wpG_if_true rfl ?_
    refine wpG_bindA (m := seqItems? (.ref l)) ?_
    show wpAny _ _ (load l >>= _) _ _ _
    refine wpAny_bind (wpAny_load hol1 ?_)
    rw [hod]
    refine wpAny_pure ?_
    dsimp only
    have hTW : ∀ {p : Value → Bool}, (∀ i t, 0 ≤ i → i < 256 → p (.int i t) = true) → vs.toArray.toList.takeWhile p = vs := fun hp => takeWhile_ints hi hr hp
    rw [takeWhile_ints hi hr (fun i t h0 h1 => by simp [h0, h1])]
    rw [show vs.toArray[vs.length]? = none from by simp]
    refine wpG_bindA (wpAny_rule ?_)
    rw [filterMap_ints hi (fun i t => rfl)]
    refine wpG_bindA (wpAny_write_ba (s := { s with heap := H }) ho1 ?_ ?_)
    · rw [byteArr_size]; exact hz
    · refine wpG_pure ⟨_, rfl, rfl, ?_⟩
      exact h _ (get_turned _ ho1) fun x o q => (Heap.get?_update_other _ _ (Nat.ne_of_lt (Heap.lt_size q)).symm).trans (keep1 x o q)
end
end Mine
end

section
open PySem PySem.W PyProof.Rows
set_option Elab.async false
set_option maxRecDepth 100000
namespace Mine
open PySem.Builtin

theorem bym_slotG_contains : SlotG "bytearray" "__contains__" "bytearray.__contains__" :=
  .of (owner := "bytearray") (n := "__contains__") (by rw [typeLookup_type, builtinLookup_eq_fast]; kernel_rfl) (by decide +kernel) (by decide +kernel) (by decide +kernel)
    (by first | exact .inl (by decide +kernel) | exact .inr (by decide +kernel)) (by rw [isSubtype_type]; kernel_rfl)
theorem bym_strips_none : isSubtype (.type "bytearray") (.type "str") = pure false := by rw [isSubtype_type]; kernel_rfl

section
variable {prog : Program} {w : World} {A : Around} {E : Value → Shared → Prop} {s : Shared} {a : Addr} {b : Array UInt8}

/-- len(v) of a bytearray -/
theorem ba_len {Q : Value → Shared → Prop} (ho : s.heap.get? a = some (baObj b)) (hz : b.size ≤ 1099511627776)
    (h : ∀ t k, Q (.int b.size t) { s with toks := k }) : wpAny (model prog w) A (call (.builtin "len") [.ref a]) Q E s := by
  refine Calls.call_function_entry kind_len plain_len entry_len (args_len1 _) ?_
  unfold Builtin.«len»
  refine wpAny_bind (m := oneArg "len" _) (wpAny_pure ?_)
  refine wpAny_bind (m := callSpecial? (.ref a) (Str.ofString "__len__")) (wpAny_callSpecial?_slot (name := Str.ofString "__len__") (ba_type ho) bym_slot_len ?_)
  refine call_meets (S := fun _ R s' => s'.heap.get? a = some (baObj b) ∧ R (.ok (.ret (.int b.size s'.toks))) { s' with toks := s'.toks + 1 }) bym_slot_len (ba_type ho) bym_entry_len (bym_args_len_1 _) ?_ ⟨ho, ?_⟩
  · refine .of_wp fun prog w A R s hS => ?_
    unfold Builtin.«bytearray.__len__»
    refine wpAny_bind (wpAny_of_eq (a := (.ref a, [])) rfl ?_)
    refine wpAny_bind (wpAny_payload_ba hS.1 ?_)
    exact wpAny_bind (wpAny_mkInt (wpAny_pure ⟨_, rfl, hS.2⟩))
  · show wpAny _ _ _ _ _ { s with toks := s.toks + 1 }
    refine wpAny_bind (wpAny_holding (wpAny_pure ?_))
    refine wpAny_bind (wpAny_letGo ?_)
    show wpAny _ _ (if (b.size : Int) < 0 then _ else _) _ _ _
    rw [if_neg (by omega)]
    show wpAny _ _ (if (b.size : Int) ≥ 2 ^ 63 then _ else _) _ _ _
    rw [if_neg (by omega)]
    exact wpAny_bind (wpAny_mkInt (wpAny_pure ⟨_, rfl, h _ _⟩))

theorem subscript_int {M : Model} {i : Int} {u : Tok} {Q : Option Int → Shared → Prop} (h0 : 0 ≤ i) (h1 : i < 1099511627776) (h : Q (some i) s) : wpAny M A (Bytes.subscript? (.int i u)) Q E s := by
  unfold Bytes.subscript?
  refine wpAny_bind (wpAny_specialOf (T := "int") (typeIs_int _ _ _) F.slot_int_index.lookup ?_)
  refine bm_if_false rfl ?_
  refine wpAny_bind (wpAny_of_eq (a := i) rfl ?_)
  refine bm_if_false ?_ (wpAny_pure h)
  have : Bytes.fitsIndex i = true := by
    unfold Bytes.fitsIndex
    rw [decide_eq_true (by omega), decide_eq_true (by omega)]; rfl
  rw [this]; rfl

theorem seqIndex_in {i : Int} {n : Nat} (h0 : 0 ≤ i) (h1 : i < (n : Int)) : seqIndex? i n = some i.toNat := by
  have h2 : ¬ i < 0 := by omega
  simp [seqIndex?, h2, h0, h1]

/-- v[i] of a bytearray -/
theorem ba_item {value slice : Expr} {i : Int} {u : Tok} {Q : Value → Shared → Prop} (ho : s.heap.get? a = some (baObj b)) (hz : b.size ≤ 1099511627776) (h0 : 0 ≤ i) (h1 : i < (b.size : Int))
    (h : ∀ t k, Q (.int (b.getD i.toNat 0).toNat t) { s with toks := k })
    (hs : subscripted slice false (.ref a) (.int i u) = operate [.ref a, .int i u] (getItem (.ref a) (.int i u)) := by with_unfolding_all rfl) :
    wpAny (model prog w) A (subscriptTail value slice (.ref a) (.int i u)) Q E s := by
  refine tail_any (ba_type ho) bym_slot_getitem.lookup ?_ hs
  refine getItem_meets (S := fun _ R s' => s'.heap.get? a = some (baObj b) ∧ R (.ok (.ret (.int (b.getD i.toNat 0).toNat s'.toks))) { s' with toks := s'.toks + 1 }) (ba_type ho) (by decide) bym_slot_getitem bym_entry_getitem (bym_args_getitem_2 _ _) ?_ ⟨ho, h _ _⟩
  refine .of_wp fun prog w A R s hS => ?_
  unfold Builtin.«bytearray.__getitem__»
  refine wpAny_bind (wpAny_of_eq (a := (.ref a, [.int i u])) rfl ?_)
  refine wpAny_bind (subscript_int h0 (by omega) ?_)
  dsimp only
  refine wpAny_bind (wpAny_payload_ba hS.1 ?_)
  rw [seqIndex_in h0 h1]
  have hlt : i.toNat < b.size := by omega
  have e : (some i.toNat).bind (fun x => b[x]?) = some (b.getD i.toNat 0) := by
    simp [hlt]
  rw [e]
  exact wpAny_bind (wpAny_mkInt (wpAny_pure ⟨_, rfl, hS.2⟩))

theorem part_int {M : Model} {i : Int} {u : Tok} {Q : Value → Shared → Prop} (h : Q (rawInt i) s) :
    wpAny M A (do
      if (Value.int i u == .none) = true then return .none
      if (← specialOf (Value.int i u) "__index__").isNone then
        rule "bytes.slice.part-no-index"; raiseError "TypeError" "slice indices must be integers or None or have an __index__ method"
      return rawInt (← asIndex (Value.int i u))) Q E s := by
  refine bm_if_false rfl ?_
  refine wpAny_bind (wpAny_specialOf (T := "int") (typeIs_int _ _ _) F.slot_int_index.lookup ?_)
  refine bm_if_false rfl ?_
  exact wpAny_bind (wpAny_of_eq (a := i) rfl (wpAny_pure h))

/-- v[lo:hi] of a bytearray -/
theorem ba_slice {value slice : Expr} {sl : Addr} {lo hi : Int} {tl th : Tok} {Q : Value → Shared → Prop} (ho : s.heap.get? a = some (baObj b)) (hsl : s.heap.IsSliceOf sl (.int lo tl) (.int hi th) .none) (hz : b.size ≤ sizeLine)
    (h : Q (.ref s.heap.objs.size) { s with heap := s.heap.push (baObj (KBy.picked b (some lo) (some hi))) })
    (hs : subscripted slice false (.ref a) (.ref sl) = operate [.ref sl, .ref a] (getItem (.ref a) (.ref sl)) := by with_unfolding_all rfl) :
    wpAny (model prog w) A (subscriptTail value slice (.ref a) (.ref sl)) Q E s := by
  refine tail_any (ba_type ho) bym_slot_getitem.lookup ?_ hs
  refine getItem_meets (S := fun _ R s' => s'.heap.get? a = some (baObj b) ∧ s'.heap.IsSliceOf sl (.int lo tl) (.int hi th) .none ∧ R (.ok (.ret (.ref s'.heap.objs.size))) { s' with heap := s'.heap.push (baObj (KBy.picked b (some lo) (some hi))) })
    (ba_type ho) (by decide) bym_slot_getitem bym_entry_getitem (bym_args_getitem_2 _ _) ?_ ⟨ho, hsl, h⟩
  refine .of_wp fun prog w A R s hS => ?_
  obtain ⟨ho, ⟨o, hso, hc, hd⟩, h⟩ := hS
  have hT : s.TypeIs (.ref sl) "slice" := ⟨o, hso, hc⟩
  unfold Builtin.«bytearray.__getitem__»
  refine wpAny_bind (wpAny_of_eq (a := (.ref a, [.ref sl])) rfl ?_)
  refine wpAny_bind ?_
  unfold Bytes.subscript?
  refine wpAny_bind (wpAny_specialOf hT slice_no_index (wpAny_pure ?_))
  refine wpAny_bind (wpAny_typeOf hT ?_)
  refine bm_if_false rfl ?_
  refine wpAny_bind ?_
  unfold Bytes.sliceParts
  refine wpAny_bind (wpAny_field (x := .none) hso hd rfl ?_)
  refine wpAny_bind (wpAny_of_eq (a := Value.none) rfl ?_)
  refine wpAny_ite (KBy.ite_no (show ¬ ((Value.none == rawInt 0) = true) from Bool.false_ne_true) ?_)
  refine wpAny_bind (wpAny_field (x := .int lo tl) hso hd rfl ?_)
  refine wpAny_bind (part_int ?_)
  refine wpAny_bind (wpAny_field (x := .int hi th) hso hd rfl ?_)
  refine wpAny_bind (part_int ?_)
  refine wpAny_pure ?_
  dsimp only
  refine wpAny_bind (wpAny_payload_ba ho ?_)
  refine wpAny_bind (wpAny_of_eq (sliceIndices_raw (some lo) (some hi) none b.size (fun e => nomatch e)) ?_)
  refine wpAny_bind ?_
  unfold Bytes.newBytearray
  refine wpAny_newObj_type ?_ (Nat.le_trans (KBc.size_picked_le b (some lo) (some hi)) hz)
  exact wpAny_pure ⟨_, rfl, h⟩

theorem containsIn_ba {M : Model} {id : String} {k : Int} {t : Tok} {Q : Bool → Shared → Prop} (ho : s.heap.get? a = some (baObj b)) (h0 : 0 ≤ k) (h1 : k < 256) (h : Q (b.contains k.toNat.toUInt8) s) :
    wpAny M A (Bytes.containsIn id (.ref a) (.int k t)) Q E s := by
  unfold Bytes.containsIn
  refine wpAny_bind (wpAny_attempt (wpAny_of_eq (a := k) rfl ?_))
  refine wpAny_bind (wpAny_buffer_ba ho ?_)
  dsimp only
  have e : (decide (k < 0) || decide (k ≥ 256)) = false := by
    rw [decide_eq_false (by omega), decide_eq_false (by omega)]; rfl
  refine bm_if_false e ?_
  exact wpAny_pure h

theorem containsIn_bytes {M : Model} {id : String} {k : Int} {t u : Tok} {Q : Bool → Shared → Prop} (h0 : 0 ≤ k) (h1 : k < 256) (h : Q (b.contains k.toNat.toUInt8) s) :
    wpAny M A (Bytes.containsIn id (.bytes b u) (.int k t)) Q E s := by
  unfold Bytes.containsIn
  refine wpAny_bind (wpAny_attempt (wpAny_of_eq (a := k) rfl ?_))
  refine wpAny_bind (wpAny_of_eq KBy.buffer_eq ?_)
  dsimp only
  have e : (decide (k < 0) || decide (k ≥ 256)) = false := by
    rw [decide_eq_false (by omega), decide_eq_false (by omega)]; rfl
  refine bm_if_false e ?_
  exact wpAny_pure h

/-- k in v, v a bytearray -/
theorem ba_in {k : Int} {t : Tok} {Q : Value → Shared → Prop} (ho : s.heap.get? a = some (baObj b)) (h0 : 0 ≤ k) (h1 : k < 256) (h : Q (.bool (b.contains k.toNat.toUInt8)) s) :
    wpAny (model prog w) A (compareOp .In (.int k t) (.ref a)) Q E s := by
  show wpAny _ _ (do return .bool (← contains (.ref a) (.int k t))) Q E s
  refine wpAny_bind ?_
  unfold contains
  refine wpAny_holding ?_
  rw [stdlibNamesSay?_of_typeIs (ba_type ho)]
  refine wpAny_bind (wpAny_specialOf (ba_type ho) bym_slotG_contains.lookup ?_)
  refine bm_if_false rfl ?_
  refine wpAny_bind ?_
  unfold callSpecialUnlessNone?
  refine wpAny_bind (wpAny_specialOf (ba_type ho) bym_slotG_contains.lookup ?_)
  refine wpAny_holding ?_
  refine wpAny_bind (wpAny_of_eq (bym_slotG_contains.bind _) ?_)
  refine bm_if_false rfl ?_
  refine wpAny_bind (wpAny_call (codeAny_call_builtin_at (Code.quiet_builtin _ (by decide +kernel)) bym_entry_contains (bym_slotG_contains.check _ _ _ _ _ _ _ _ (ba_type ho) (bym_args_contains_2 _ _) ?_)))
  unfold Builtin.«bytearray.__contains__»
  refine wpAny_bind (wpAny_of_eq (a := (.ref a, [.int k t])) rfl ?_)
  refine wpAny_bind (containsIn_ba ho h0 h1 ?_)
  refine wpAny_pure ?_
  exact wpAny_pure (wpAny_pure (wpAny_pure h))

/-- k in v, v bytes -/
theorem bytes_in {k : Int} {t u : Tok} {Q : Value → Shared → Prop} (h0 : 0 ≤ k) (h1 : k < 256) (h : Q (.bool (b.contains k.toNat.toUInt8)) s) :
    wpAny (model prog w) A (compareOp .In (.int k t) (.bytes b u)) Q E s := by
  show wpAny _ _ (do return .bool (← contains (.bytes b u) (.int k t))) Q E s
  refine wpAny_bind (wpAny_contains_slot (PySem.W.typeIs_bytes _ _ _) FB.slot_bytes_contains ?_)
  refine call_meets (S := fun _ R s' => R (.ok (.ret (.bool (b.contains k.toNat.toUInt8)))) s') FB.slot_bytes_contains (PySem.W.typeIs_bytes _ _ _) FB.entry_bytes_contains (FB.args_bytes_contains_2 _ _) ?_ ?_
  · refine .of_wp fun prog w A R s hS => ?_
    unfold Builtin.«bytes.__contains__»
    refine wpAny_bind (wpAny_of_eq (a := (.bytes b u, [.int k t])) rfl ?_)
    exact wpAny_bind (containsIn_bytes h0 h1 (wpAny_pure ⟨_, rfl, hS⟩))
  · exact wpAny_pure (wpAny_pure h)
end
end Mine
end

section
open PySem PySem.W PyProof.Rows
set_option Elab.async false
set_option maxRecDepth 100000
namespace Mine
open PySem.Builtin

section
variable {prog : Program} {w : World} {A : Around} {E : Value → Shared → Prop} {s : Shared} {a : Addr} {b : Array UInt8}

theorem bytes_new_ba {Q : Value → Shared → Prop} (ho : s.heap.get? a = some (baObj b)) (hz : b.size ≤ sizeLine)
    (hQ : ∀ t k, Q (.bytes b t) { s with toks := k }) :
    codeAny (model prog w) A (.call (.builtin "bytes.__new__") ⟨[.type "bytes", .ref a], []⟩) (wants Q E) s := by
  refine codeAny_of_tree ?_
  show wpAny _ A.in1 (do checkBuiltinCall "bytes.__new__" ⟨[.type "bytes", .ref a], []⟩; again (.builtin "bytes.__new__" ⟨[.type "bytes", .ref a], []⟩)) _ _ s
  refine wpAny_bind (wpAny_of_eq (F.bm_newCall _) (wpAny_pure ⟨plainId_quiet F.bm_plain _, codeAny_builtin F.bm_entry ?_⟩))
  rw [Around.under_plainId F.bm_plain _]
  unfold Builtin.«bytes.__new__»
  refine wpAny_bind (wpAny_of_eq (a := true) rfl ?_)
  refine bm_if_false rfl ?_
  refine wpAny_bind (wpAny_of_eq F.bm_sub ?_)
  refine bm_if_false rfl ?_
  refine wpAny_bind (wpAny_of_eq (F.bm_bind _) ?_)
  refine wpAny_bind (wpAny_of_eq (a := ()) rfl ?_)
  refine wpAny_bind (wpAny_of_eq (a := ()) rfl ?_)
  refine bm_if_false rfl ?_
  refine wpAny_bind (wpAny_specialOf (ba_type ho) bym_bytes ?_)
  refine wpAny_bind (wpAny_bind ?_)
  show wpAny _ _ (load a >>= _) _ _ _
  refine wpAny_bind (wpAny_load ho ?_)
  refine wpAny_pure (wpAny_pure ?_)
  refine bm_if_false rfl ?_
  refine wpAny_bind (wpAny_specialOf (ba_type ho) bym_index ?_)
  refine bm_if_true rfl ?_
  first
    | show wpAny _ _ (Bytes.buffer? "bytes.__new__" (.ref a) true >>= _) _ _ _
    | (refine wpAny_bind ?_; show wpAny _ _ (Bytes.buffer? "bytes.__new__" (.ref a) true >>= _) _ _ _)
  refine wpAny_bind (wpAny_buffer_ba ho ?_)
  dsimp only
  refine wpAny_bind (wpAny_rule ?_)
  refine wpAny_bind (wpAny_mkBytes ?_ hz)
  first
    | exact wpAny_pure (wpAny_pure (hQ _ _))
    | exact wpAny_pure (hQ _ _)
    | exact wpAny_bind (wpAny_pure (wpAny_pure (hQ _ _)))

/-- bytes(v) of a bytearray -/
theorem ba_bytes {Q : Value → Shared → Prop} (ho : s.heap.get? a = some (baObj b)) (hz : b.size ≤ sizeLine)
    (hQ : ∀ t k, Q (.bytes b t) { s with toks := k }) : wpAny (model prog w) A (call (.type "bytes") [.ref a]) Q E s := by
  refine callType_codes (Q₁ := fun obj s₁ => s₁.TypeIs obj "bytes" ∧ Q obj s₁) F.bm_called (F.bm_typeCall _) F.entry_object_init
    (bytes_new_ba ho hz fun t k => ⟨PySem.W.typeIs_bytes _ _ _, hQ t k⟩) fun obj s₁ h₁ => ?_
  exact ⟨h₁.1, F.args_object_init_2 obj _, object_init_meets F.bm_called.init.lookup F.bm_called.made (by decide) prog w A.in1 _ s₁ ⟨h₁.1, rfl, h₁.2⟩⟩
end
end Mine
end

section
open PySem PySem.W PyProof.Rows
set_option Elab.async false
set_option maxRecDepth 100000
namespace Mine
open PySem.Builtin

theorem bai_slot_next : Slot "bytearray_iterator" "__next__" "bytearray_iterator.__next__" :=
  .of (owner := "bytearray_iterator") (n := "__next__") (by rw [typeLookup_type, builtinLookup_eq_fast]; kernel_rfl) (by decide +kernel) (by decide +kernel) (by decide +kernel)
    (by first | exact .inl (by decide +kernel) | exact .inr (by decide +kernel)) (by rw [isSubtype_type]; kernel_rfl)
theorem bai_slot_self : Slot "bytearray_iterator" "__iter__" "bytearray_iterator.__iter__" :=
  .of (owner := "bytearray_iterator") (n := "__iter__") (by rw [typeLookup_type, builtinLookup_eq_fast]; kernel_rfl) (by decide +kernel) (by decide +kernel) (by decide +kernel)
    (by first | exact .inl (by decide +kernel) | exact .inr (by decide +kernel)) (by rw [isSubtype_type]; kernel_rfl)
theorem bai_entry_next : entryFor table "bytearray_iterator.__next__" = some Builtin.«bytearray_iterator.__next__» := entryFor_of_tree (by kernel_rfl)
theorem bai_entry_self : entryFor table "bytearray_iterator.__iter__" = some Builtin.«dict_keyiterator.__iter__» := entryFor_alias (id' := "dict_keyiterator.__iter__") (by kernel_rfl) rfl (by decide +kernel) (by kernel_rfl)
theorem bai_args_next (a : Value) : argsOk "bytearray_iterator.__next__" ⟨[a], []⟩ := by unfold argsOk; kernel_rfl
theorem bai_args_self (a : Value) : argsOk "bytearray_iterator.__iter__" ⟨[a], []⟩ := by unfold argsOk; kernel_rfl

def IsBaIter (h : Heap) (I a : Addr) (i : Nat) : Prop := ∃ o, h.get? I = some o ∧ o.cls = .type "bytearray_iterator" ∧ o.data = .fields #[.ref a, .int i 0]
theorem bai_typeIs {s : Shared} {I a : Addr} {i : Nat} (y : IsBaIter s.heap I a i) : s.TypeIs (.ref I) "bytearray_iterator" := let ⟨o, ho, hc, _⟩ := y; ⟨o, ho, hc⟩

section
variable {prog : Program} {w : World} {A : Around} {E : Value → Shared → Prop} {s : Shared} {a : Addr} {b : Array UInt8}

theorem bai_iter {Q : Value → Shared → Prop} (ho : s.heap.get? a = some (baObj b)) (hQ : Q (.ref s.heap.objs.size) { s with heap := s.heap.push { cls := .type "bytearray_iterator", data := .fields #[.ref a, .int 0 0] } }) : wpAny (model prog w) A (pyIter (.ref a)) Q E s := by
  refine wpAny_pyIter_slot (ba_type ho) bym_slot_iter (wpAny_call_entry bym_slot_iter (ba_type ho) bym_entry_iter ?_ (bym_args_iter_1 _))
  show wpAny _ _ (do ret (← newFields "bytearray_iterator" [.ref a, rawInt 0])) _ _ s
  exact wpAny_bind (wpAny_newObj_type (wpAny_pure ⟨_, rfl, "bytearray_iterator", _, ⟨_, Heap.get?_push_size _ rfl, rfl⟩, bai_slot_next.lookup, hQ⟩))
theorem bai_self {it : Addr} {i : Nat} {Q : Value → Shared → Prop} (hit : IsBaIter s.heap it a i) (h : Q (.ref it) s) : wpAny (model prog w) A (pyIter (.ref it)) Q E s := by
  refine wpAny_pyIter_slot (bai_typeIs hit) bai_slot_self (wpAny_call_entry bai_slot_self (bai_typeIs hit) bai_entry_self ?_ (bai_args_self _))
  show wpAny _ _ (ret (.ref it)) _ _ s
  exact wpAny_pure ⟨_, rfl, "bytearray_iterator", _, bai_typeIs hit, bai_slot_next.lookup, h⟩

theorem bai_next {it : Addr} {i : Nat} {c : UInt8} {Q : Option Value → Shared → Prop} (hit : IsBaIter s.heap it a i) (ho : s.heap.get? a = some (baObj b)) (hx : b[i]? = some c)
    (hQ : ∀ h', IsBaIter h' it a (i + 1) → Heap.SameBut it s.heap h' → Q (some (.int (c.toNat : Int) s.toks)) { s with heap := h', toks := s.toks + 1 }) : wpAny (model prog w) A (pyNext (.ref it)) Q E s := by
  obtain ⟨o, hi, hc, hd⟩ := id hit
  unfold pyNext
  refine wpAny_bind (wpAny_attempt (wpAny_callSpecial?_slot (name := Str.ofString "__next__") (bai_typeIs hit) bai_slot_next
    (wpAny_call_entry bai_slot_next (bai_typeIs hit) bai_entry_next ?_ (bai_args_next _))))
  show wpAny _ _ (field (.ref it) 0 >>= _) _ _ s
  refine wpAny_bind (wpAny_field hi hd (x := .ref a) rfl ?_)
  show wpAny _ _ (load a >>= _) _ _ s
  refine wpAny_bind (wpAny_load ho ?_)
  show wpAny _ _ (field (.ref it) 1 >>= _) _ _ s
  refine wpAny_bind (wpAny_field hi hd (x := .int i 0) rfl ?_)
  simp only [Int.toNat_natCast, hx]
  refine wpAny_bind (wpAny_setField hi hd (by simp) (wpAny_bind (wpAny_mkInt (wpAny_pure ⟨_, rfl, wpAny_pure (hQ _ ?_ (Heap.SameBut.update ..))⟩))))
  exact ⟨_, Heap.get?_update_self _ hi (Obj.isFreed_of_fields (Obj.data_mapFields hd _)), (Obj.cls_mapFields ..).trans hc, by
    rw [Obj.data_mapFields hd]; simp [rawInt]⟩

theorem bai_end {it : Addr} {i : Nat} {Q : Option Value → Shared → Prop} (hh : A.handled = none) (hit : IsBaIter s.heap it a i) (ho : s.heap.get? a = some (baObj b)) (hx : b[i]? = none)
    (hQ : ∀ h', Heap.ExtBut it s.heap h' → Q none { s with heap := h' }) : wpAny (model prog w) A (pyNext (.ref it)) Q E s := by
  obtain ⟨o, hi, hc, hd⟩ := id hit
  unfold pyNext
  refine wpAny_bind (wpAny_attempt (wpAny_callSpecial?_slot (name := Str.ofString "__next__") (bai_typeIs hit) bai_slot_next
    (wpAny_call_entry bai_slot_next (bai_typeIs hit) bai_entry_next ?_ (bai_args_next _))))
  show wpAny _ _ (field (.ref it) 0 >>= _) _ _ s
  refine wpAny_bind (wpAny_field hi hd (x := .ref a) rfl ?_)
  show wpAny _ _ (load a >>= _) _ _ s
  refine wpAny_bind (wpAny_load ho ?_)
  show wpAny _ _ (field (.ref it) 1 >>= _) _ _ s
  refine wpAny_bind (wpAny_field hi hd (x := .int i 0) rfl ?_)
  simp only [Int.toNat_natCast, hx]
  refine wpAny_bind (wpAny_rule (wpAny_bind (wpAny_setField hi hd (by simp) ?_)))
  refine wpAny_bind (wpAny_letGo ?_)
  show wpAny _ _ (newExc (.type "StopIteration") [] >>= _) _ _ _
  refine wpAny_bind ?_
  simp only [newExc, newTuple]
  refine wpAny_bind (wpAny_newObj_type ?_ (by size_fits))
  refine wpAny_bind (m := firstArgMember _ _) (wpAny_of_eq (a := Value.none) (by first | rfl | (simp only [firstArgMember]; rfl)) ?_)
  refine wpAny_newObj_type ?_ (by size_fits)
  simp only [raiseNew]
  refine wpAny_bind (wpAny_handled ?_)
  rw [show A.in1.handled = none from hh]
  refine wpAny_bind (wpAny_pure (wpAny_throw ?_))
  refine wpAny_bind (wpAny_isInstance (T := "StopIteration") (b := true) ⟨_, Heap.get?_push_size _ rfl, rfl⟩ isSubtype_stop ?_)
  exact wpAny_pure (hQ _ (((Heap.SameBut.update ..).extBut.push _).push _))

theorem bai_walks (hh : A.handled = none) (I a : Addr) (hne : a ≠ I) (b : Array UInt8) :
    Walks prog w A I [I, a] [I] b.size (fun i v => ∃ c u, b[i]? = some c ∧ v = .int (c.toNat : Int) u) (fun i h => IsBaIter h I a i ∧ h.get? a = some (baObj b)) where
  sub := fun b hb => by simp at hb; simp [hb]
  frame := fun _ _ _ st hk => ⟨let ⟨o, ho, r⟩ := st.1; ⟨o, hk I (by simp) o ho, r⟩, hk a (by simp) _ st.2⟩
  item := fun i s Q E hi st hQ => by
    refine bai_next st.1 st.2 (c := b[i]) (by simp [hi]) fun h' hit' hs' => ?_
    exact hQ _ h' (s.toks + 1) ⟨_, _, by simp [hi], rfl⟩ ⟨hit', hs'.extBut a _ hne st.2⟩ fun b o hb e => hs'.extBut b o (fun h => hb (by simp [h])) e
  done := fun s Q E st hQ => bai_end hh st.1 st.2 (by simp) fun h' he' => hQ h' s.toks fun b o hb e => he' b o (fun h => hb (by simp [h])) e
  self := fun _ _ _ _ st hQ => bai_self st.1 hQ

/-- What iter(v) gives of bytes or of a bytearray. -/
theorem buf_iter {v : Value} {Q : Value → Shared → Prop} (hv : Buf s.heap v b)
    (h : ∀ (o : Obj) (fp : List Addr) (St : Nat → Heap → Prop), (∀ A' : Around, A'.handled = none → Walks prog w A' s.heap.objs.size fp [s.heap.objs.size] b.size (fun i v => ∃ c u, b[i]? = some c ∧ v = .int (c.toNat : Int) u) St) →
      (∀ x ∈ fp, x = s.heap.objs.size ∨ s.heap.get? x = some (baObj b)) → St 0 (s.heap.push o) → o.isFreed = false → Q (.ref s.heap.objs.size) { s with heap := s.heap.push o }) :
    wpAny (model prog w) A (pyIter v) Q E s := by
  rcases hv with ⟨t, rfl⟩ | ⟨a, rfl, ho⟩
  · refine KBw.pyIter_bytes ?_
    refine h _ [s.heap.objs.size] _ (fun A' hh => KBw.walks hh s.heap.objs.size b t) (fun x hx => .inl (List.mem_singleton.mp hx)) ⟨_, Heap.get?_push_size _ rfl, rfl, rfl⟩ rfl
  · refine bai_iter ho ?_
    refine h _ [s.heap.objs.size, a] _ (fun A' hh => bai_walks hh s.heap.objs.size a (Nat.ne_of_lt (Heap.lt_size ho)) b) (fun x hx => ?_) ⟨⟨_, Heap.get?_push_size _ rfl, rfl, rfl⟩, Heap.get?_push_of_some _ ho⟩ rfl
    rcases List.mem_cons.mp hx with e | hx
    · exact .inl e
    · rw [List.mem_singleton.mp hx]; exact .inr ho
end
end Mine
end

section
open PySem PySem.W PyProof.Rows
set_option Elab.async false
set_option maxRecDepth 100000
namespace Mine
open PySem.Builtin

theorem bytes_sub_self : isSubtype (.type "bytes") (.type "bytes") = pure true := by rw [isSubtype_type]; kernel_rfl

theorem ba_ne_list {b : Array UInt8} {o : Obj} {items : Array Value} {c : Nat} (h : o.data = .seq items c) : some (baObj b) ≠ some o := fun e => by
  have e' : baObj b = o := Option.some.inj e
  rw [← e'] at h
  cases h

section
variable {prog : Program} {w : World} {A : Around} {E : Value → Shared → Prop} {s : Shared} {a : Addr} {b : Array UInt8}

theorem Buf.keeps {h h' : Heap} {v : Value} (hv : Buf h v b) (hk : ∀ x o, h.get? x = some o → h'.get? x = some o) : Buf h' v b := by
  rcases hv with ⟨t, rfl⟩ | ⟨a, rfl, ho⟩
  · exact .inl ⟨t, rfl⟩
  · exact .inr ⟨a, rfl, hk _ _ ho⟩

theorem buf_hint {v : Value} {Q : Bool → Shared → Prop} (hv : Buf s.heap v b) (h : Q false s) : wpAny (model prog w) A (Builtin.List.listLengthHint v) Q E s := by
  unfold Builtin.List.listLengthHint
  rcases hv with ⟨t, rfl⟩ | ⟨a, rfl, ho⟩
  · refine wpAny_bind (wpAny_specialOf (PySem.W.typeIs_bytes _ _ _) FB.slot_bytes_len.lookup ?_)
    dsimp only
    rw [show splitId "bytes.__len__" = some ("bytes", "__len__") from by decide +kernel]
    dsimp only
    refine wpAny_bind (wpAny_isInstance (PySem.W.typeIs_bytes _ _ _) bytes_sub_self ?_)
    refine bm_if_false rfl ?_
    refine bm_if_true (by decide +kernel) ?_
    refine wpAny_bind (wpAny_typeOf (PySem.W.typeIs_bytes _ _ _) ?_)
    exact wpAny_pure h
  · refine wpAny_bind (wpAny_specialOf (ba_type ho) bym_slot_len.lookup ?_)
    dsimp only
    rw [show splitId "bytearray.__len__" = some ("bytearray", "__len__") from by decide +kernel]
    dsimp only
    refine wpAny_bind (wpAny_isInstance (ba_type ho) bym_sub ?_)
    refine bm_if_false rfl ?_
    refine bm_if_true (by decide +kernel) ?_
    refine wpAny_bind (wpAny_typeOf (ba_type ho) ?_)
    exact wpAny_pure h

abbrev OctetAt (b : Array UInt8) : Nat → Value → Prop := fun i v => ∃ c u, b[i]? = some c ∧ v = .int (c.toNat : Int) u

theorem buf_extend {v : Value} {R : Result → Shared → Prop} (hh : A.handled = none) (hv : Buf s.heap v b) (S : Addr) (res : Value) (c₀ : Nat) (hS : s.heap.get? S = some { cls := .type "list", data := .seq #[] c₀ })
    (hR : ∀ h' tk acc' c', (∀ x o, x ≠ S → s.heap.get? x = some o → h'.get? x = some o) → h'.get? S = some { cls := .type "list", dict := none, data := .seq acc' c', slots := #[] } →
      ItemsOf (OctetAt b) acc' b.size → R (.ok (.ret res)) { s with heap := h', toks := tk }) (hn : b.size ≤ sizeLine) :
    wpAny (model prog w) A.in1 (Builtin.List.listExtendWith (.ref S) v res)
      (fun fin s' => match fin with | .done f => R (.ok f) s' | .again c' => c'.quiet = true ∧ codeAny (model prog w) A c' R s') (fun e s' => R (.error e) s') s := by
  obtain ⟨U, hU, h1, h2, h3, h4⟩ : ∃ U, s.TypeIs v U ∧ Builtin.List.listSameRef (.ref S) v = false ∧ (Value.type U == Value.type "list") = false ∧ (Value.type U == Value.type "tuple") = false ∧ (U = "bytes" ∨ U = "bytearray") := by
    rcases hv with ⟨t, rfl⟩ | ⟨a, rfl, ho⟩
    · exact ⟨"bytes", PySem.W.typeIs_bytes _ _ _, rfl, by decide, by decide, .inl rfl⟩
    · refine ⟨"bytearray", ba_type ho, ?_, by decide, by decide, .inr rfl⟩
      show (S == a) = false
      refine beq_eq_false_iff_ne.mpr fun e => ?_
      rw [e, ho] at hS
      exact ba_ne_list rfl hS
  unfold Builtin.List.listExtendWith
  refine wpAny_bind (wpAny_typeOf hU ?_)
  simp only [h1, h2, h3, Bool.or_false, Bool.false_eq_true, if_false]
  refine wpAny_bind (buf_iter hv fun o fp St W hfp hst hfr => ?_)
  refine wpAny_bind (wpAny_holding (buf_hint (s := { s with heap := s.heap.push o }) (hv.keeps fun x o e => Heap.get?_push_of_some _ e) ?_))
  have hSI : S ≠ s.heap.objs.size := Nat.ne_of_lt (Heap.lt_size hS)
  have hSf : S ∉ fp := fun hm => by
    rcases hfp S hm with e | e
    · exact hSI e
    · rw [e] at hS; exact ba_ne_list rfl hS
  have key : wpAny (model prog w) A.in1 (again (.builtin "list.extend.loop" ⟨[.ref S, .ref s.heap.objs.size, res], []⟩))
      (fun fin s' => match fin with | .done f => R (.ok f) s' | .again c' => c'.quiet = true ∧ codeAny (model prog w) A c' R s') (fun e s' => R (.error e) s') { s with heap := s.heap.push o } := by
    refine wpAny_pure ⟨plainId_quiet F.plain_extend_loop _, codeAny_extend_loopS (W A.in1 hh).toS hn _ hSf _ b.size 0 _ _ _ rfl (Nat.zero_le _) hst (Heap.get?_push_of_some _ hS) (ItemsOf.nil _) fun s' acc' c' hm hS' hacc => ?_⟩
    rw [Moved.eq_with hm]
    refine hR s'.heap s'.toks acc' c' (fun x ob hx e => hm.heap x ob (fun hmem => ?_) (Heap.get?_push_of_some _ e)) hS' hacc
    rcases List.mem_cons.mp hmem with e' | hmem
    · exact hx e'
    · exact absurd (Heap.lt_size e) (by rw [List.mem_singleton.mp hmem]; exact Nat.lt_irrefl _)
  rcases h4 with rfl | rfl
  · refine bm_if_false (by decide +kernel) ?_
    exact key
  · refine bm_if_false (by decide +kernel) ?_
    exact key

theorem buf_list_init {v : Value} {R : Result → Shared → Prop} (hh : A.handled = none) (hv : Buf s.heap v b) (S : Addr) (hS : s.heap.get? S = some { cls := .type "list", data := .seq #[] })
    (hR : ∀ h' tk acc' c', (∀ x o, x ≠ S → s.heap.get? x = some o → h'.get? x = some o) → h'.get? S = some { cls := .type "list", dict := none, data := .seq acc' c', slots := #[] } →
      ItemsOf (OctetAt b) acc' b.size → R (.ok (.ret .none)) { s with heap := h', toks := tk }) (hn : b.size ≤ sizeLine) :
    wpAny (model prog w) A.in1 (Builtin.«list.__init__» ⟨[.ref S, v], []⟩)
      (fun fin s' => match fin with | .done f => R (.ok f) s' | .again c' => c'.quiet = true ∧ codeAny (model prog w) A c' R s') (fun e s' => R (.error e) s') s := by
  show wpAny _ _ (do let old ← Builtin.List.listItems (.ref S); Builtin.List.listUpdate (.ref S) (fun _ => #[]); letGo old.toList.reverse; Builtin.List.listExtendWith (.ref S) v .none) _ _ s
  refine wpAny_bind ?_
  unfold Builtin.List.listItems
  refine wpAny_bind (wpAny_seqItems hS rfl (wpAny_pure ?_))
  show wpAny _ _ (updateSeq S (fun _ => #[]) >>= fun _ => letGo (#[] : Array Value).toList.reverse >>= fun _ => Builtin.List.listExtendWith (.ref S) v .none) _ _ s
  refine wpAny_bind (wpAny_updateSeq hS rfl ?_)
  have hS₂ := Heap.get?_update_self (Obj.mapSeq (fun _ => (#[] : Array Value))) hS rfl
  have oth : ∀ x o, x ≠ S → s.heap.get? x = some o → (s.heap.update S (Obj.mapSeq (fun _ => (#[] : Array Value)))).get? x = some o :=
    fun x o hx e => (Heap.get?_update_other _ _ (Ne.symm hx)).trans e
  refine wpAny_bind (wpAny_letGo ?_)
  have hv' : Buf (s.heap.update S (Obj.mapSeq (fun _ => (#[] : Array Value)))) v b := by
    rcases hv with ⟨t, rfl⟩ | ⟨a, rfl, ho⟩
    · exact .inl ⟨t, rfl⟩
    · exact .inr ⟨a, rfl, oth a _ (fun e => by rw [e, hS] at ho; exact ba_ne_list rfl ho.symm) ho⟩
  refine buf_extend (hn := hn) hh hv' S .none _ hS₂ fun h' tk acc' c' hk hS' hacc => ?_
  exact hR h' tk acc' c' (fun x o hx e => hk x o hx (oth x o hx e)) hS' hacc

/-- list(v) of bytes or of a bytearray -/
theorem buf_list {v : Value} {Q : Value → Shared → Prop} (hh : A.handled = none) (hv : Buf s.heap v b)
    (hQ : ∀ h' tk acc' c', (∀ x o, s.heap.get? x = some o → h'.get? x = some o) →
      h'.get? s.heap.objs.size = some { cls := .type "list", dict := none, data := .seq acc' c', slots := #[] } → ItemsOf (OctetAt b) acc' b.size → Q (.ref s.heap.objs.size) { s with heap := h', toks := tk }) (hn : b.size ≤ sizeLine) :
    wpAny (model prog w) A (call (.type "list") [v]) Q E s := by
  refine callType_codes (Q₁ := fun obj s₁ => obj = .ref s.heap.objs.size ∧ s₁ = { s with heap := s.heap.push { cls := .type "list", data := .seq #[] } }) F.called_list (F.typeCall_list_1 _) F.entry_list_init
    (code_list_new _ ⟨rfl, rfl⟩) fun obj s₁ h₁ => ?_
  obtain ⟨rfl, rfl⟩ := h₁
  have hS : (s.heap.push { cls := .type "list", data := .seq #[] }).get? s.heap.objs.size = some { cls := .type "list", data := .seq #[] } := Heap.get?_push_size _ rfl
  refine ⟨⟨_, hS, rfl⟩, F.args_list_init_2 _ _, buf_list_init (A := A.in1) (hn := hn) hh (hv.keeps fun x o e => Heap.get?_push_of_some _ e) _ hS fun h' tk acc' c' hk hS' hacc => ?_⟩
  exact ⟨rfl, hQ h' tk acc' c' (fun x o e => hk x o (Nat.ne_of_lt (Heap.lt_size e)) (Heap.get?_push_of_some _ e)) hS' hacc⟩

theorem ints_of_items {b : Array UInt8} {acc : Array Value} (h : ItemsOf (OctetAt b) acc b.size) : IntsAre acc.toList (KBw.bInts b) := by
  obtain ⟨hs, hp⟩ := h
  obtain ⟨l⟩ := acc
  obtain ⟨m⟩ := b
  have key : ∀ (l : List Value) (m : List UInt8), l.length = m.length → (∀ (j : Nat) (v : Value), l[j]? = some v → ∃ (c : UInt8) (u : Tok), m[j]? = some c ∧ v = Value.int (c.toNat : Int) u) → IntsAre l (m.map fun c => (c.toNat : Int)) := by
    intro l
    induction l with
    | nil =>
      intro m hl _
      cases m with
      | nil => exact .nil
      | cons _ _ => cases hl
    | cons x l ih =>
      intro m hl hv
      cases m with
      | nil => cases hl
      | cons c m =>
        obtain ⟨c', u, hc, rfl⟩ := hv 0 x rfl
        cases hc
        exact .cons _ _ (ih m (Nat.succ.inj hl) fun j v hj => hv (j + 1) v hj)
  exact key l m (by simpa using hs) fun j v hj => by
    obtain ⟨c, u, h1, h2⟩ := hp j v (by simpa using hj)
    exact ⟨c, u, by simpa using h1, h2⟩
end
end Mine
end

section
open PySem PySem.W PyProof.Rows
set_option Elab.async false
set_option maxRecDepth 100000
namespace Mine
open PySem.Builtin

theorem bym_ga_slot : Slot "bytearray" "__getattribute__" "bytearray.__getattribute__" :=
  .of (owner := "bytearray") (n := "__getattribute__") (by rw [typeLookup_type, builtinLookup_eq_fast]; kernel_rfl) (by decide +kernel) (by decide +kernel) (by decide +kernel)
    (by first | exact .inl (by decide +kernel) | exact .inr (by decide +kernel)) (by rw [isSubtype_type]; kernel_rfl)
theorem bym_ga_args (a b : Value) : argsOk "bytearray.__getattribute__" ⟨[a, b], []⟩ := by
  unfold argsOk; rw [signature?_of (id := "bytearray.__getattribute__") (n := ['_', '_', 'e', 't', 'u', 'b', 'i', 'r', 't', 't', 'a', 't', 'e', 'g', '_', '_']) (o := ['y', 'a', 'r', 'r', 'a', 'e', 't', 'y', 'b']) (by kernel_rfl) bym_rows]; kernel_rfl
theorem bym_ga_entry : entryFor table "bytearray.__getattribute__" = some Builtin.«object.__getattribute__» :=
  entryFor_alias (id' := "object.__getattribute__") (by kernel_rfl) (by first | rfl | decide +kernel) (by decide +kernel) (by kernel_rfl)
theorem bym_lk_class : typeLookup (.type "bytearray") "__class__" = pure (some (.builtin "object.__class__")) := by rw [typeLookup_type, builtinLookup_eq_fast]; kernel_rfl
theorem bym_class_owner : isSubtype (.type "bytearray") (.type (".".intercalate ("object.__class__".cutAt '.').dropLast)) = pure true := by
  rw [F.owner_object_class, isSubtype_type]; kernel_rfl

section
variable {prog : Program} {w : World} {A : Around} {E : Value → Shared → Prop} {h : Heap} {g : Array GenState} {d : Drawn} {t : Nat} {os : OsState} {a : Addr} {o : Obj}

theorem bac_get {R : Result → Shared → Prop} (hx : h.get? a = some o) (hc : o.cls = .type "bytearray") (hq : R (.ok (.ret (.type "bytearray"))) ⟨h, g, d, t, os⟩) :
    codeAny (model prog w) A (.call (.builtin "getset_descriptor.__get__") ⟨[.builtin "object.__class__", .ref a, .type "bytearray"], []⟩) R ⟨h, g, d, t, os⟩ := by
  have hT : (⟨h, g, d, t, os⟩ : Shared).TypeIs (.ref a) "bytearray" := ⟨_, hx, hc⟩
  have hT5 : (⟨h, g, d, t, os⟩ : Shared).TypeIs (.builtin "object.__class__") "getset_descriptor" := F.typeOf_object_class
  have f8 := bym_class_owner
  refine codeAny_call_builtin F.slot_gs_get.plain F.entry_gs_get (F.slot_gs_get.check _ _ _ _ _ _ _ _ hT5 (F.args_gs_get _ _ _) ?_)
  repeat (any_goals (first | assumption | wp_step))
  refine ⟨Code.quiet_builtin _ (by decide +kernel), codeAny_builtin F.entry_object_class ?_⟩
  repeat (any_goals (first | assumption | wp_step))

theorem bac_entry {tk : Tok} {Q : Fin → Shared → Prop} (hx : h.get? a = some o) (hc : o.cls = .type "bytearray") (hq : Q (.done (.ret (.type "bytearray"))) ⟨h, g, d, t, os⟩) :
    wpAny (model prog w) A (Builtin.«object.__getattribute__» ⟨[.ref a, .str "__class__" tk], []⟩) Q E ⟨h, g, d, t, os⟩ := by
  have hT : (⟨h, g, d, t, os⟩ : Shared).TypeIs (.ref a) "bytearray" := ⟨_, hx, hc⟩
  have hT5 : (⟨h, g, d, t, os⟩ : Shared).TypeIs (.builtin "object.__class__") "getset_descriptor" := F.typeOf_object_class
  have f4 := bym_lk_class
  have f5 := F.typeOf_object_class
  have f6 := F.slot_gs_get.lookup
  have f7 := F.slot_gs_set.lookup
  repeat (any_goals (first | assumption | wp_step))
  refine bac_get hx hc ?_
  repeat (any_goals (first | assumption | wp_step))

theorem bac_call {tk : Tok} {R : Result → Shared → Prop} (hx : h.get? a = some o) (hc : o.cls = .type "bytearray") (hq : R (.ok (.ret (.type "bytearray"))) ⟨h, g, d, t, os⟩) :
    codeAny (model prog w) A (.call (.builtin "bytearray.__getattribute__") ⟨[.ref a, .str "__class__" tk], []⟩) R ⟨h, g, d, t, os⟩ :=
  codeAny_call_builtin bym_ga_slot.plain bym_ga_entry (bym_ga_slot.check _ _ _ _ _ _ _ _ (show (⟨h, g, d, t, os⟩ : Shared).TypeIs (.ref a) "bytearray" from ⟨_, hx, hc⟩) (bym_ga_args _ _) (bac_entry hx hc hq))

theorem bac_by {tk : Tok} {Q : Value → Shared → Prop} (hx : h.get? a = some o) (hc : o.cls = .type "bytearray") (hq : Q (.type "bytearray") ⟨h, g, d, t, os⟩) : wpAny (model prog w) A (getAttrBy (.ref a) (.str "__class__" tk) false) Q E ⟨h, g, d, t, os⟩ := by
  have hT : (⟨h, g, d, t, os⟩ : Shared).TypeIs (.ref a) "bytearray" := ⟨_, hx, hc⟩
  have f2 := bym_ga_slot.lookup
  have f3 := bym_ga_slot.bind (.ref a)
  repeat (any_goals (first | assumption | wp_step))
  refine bac_call hx hc ?_
  repeat (any_goals (first | assumption | wp_step))

theorem bac_attr {Q : Option Value → Shared → Prop} (hx : h.get? a = some o) (hc : o.cls = .type "bytearray") (hq : Q (some (.type "bytearray")) ⟨h, g, d, t + 1, os⟩) : wpAny (model prog w) A (getAttr? (.ref a) "__class__") Q E ⟨h, g, d, t, os⟩ := by
  unfold getAttr? getAttrBy?
  repeat (any_goals (first | assumption | with_reducible apply bac_by hx hc | wp_step))

theorem bac_nested {T : String} {dep : Int} {tk : Tok} {Q : Fin → Shared → Prop} (hx : h.get? a = some o) (hc : o.cls = .type "bytearray") (hne : (Value.type "bytearray" == Value.type T) = false) (hty : typeOf (.type T) = pure (.type "type"))
    (hsub : isSubtype (.type "bytearray") (.type T) = pure false) (hq : Q (.done (.ret (.bool false))) ⟨h, g, d, t + 1, os⟩) :
    wpAny (model prog w) A (Builtin.«isinstance.nested» ⟨[.ref a, .type T, .int dep tk], []⟩) Q E ⟨h, g, d, t, os⟩ := by
  have hT : (⟨h, g, d, t, os⟩ : Shared).TypeIs (.ref a) "bytearray" := ⟨_, hx, hc⟩
  repeat (any_goals (first | assumption | with_reducible apply bac_attr hx hc | wp_step))
end

section
variable {prog : Program} {w : World} {A : Around} {E : Value → Shared → Prop} {s : Shared} {a : Addr} {b : Array UInt8}
/-- isinstance(v, str) of a bytearray -/
theorem ba_not_str {Q : Value → Shared → Prop} (ho : s.heap.get? a = some (baObj b)) (h : ∀ k, Q (.bool false) { s with toks := k }) : wpAny (model prog w) A (call (.builtin "isinstance") [.ref a, .type "str"]) Q E s := by
  refine call_isinstance (S := fun _ R s => (∃ o, s.heap.get? a = some o ∧ o.cls = .type "bytearray") ∧ R (.ok (.ret (.bool false))) { s with toks := s.toks + 1 }) (fun _ _ _ _ s hs => ?_) ⟨⟨_, ho, rfl⟩, h _⟩
  obtain ⟨h, g, d, t, os⟩ := s
  obtain ⟨⟨o, hx, hc⟩, hq⟩ := hs
  exact isinstance_outer (bac_nested hx hc (by decide +kernel) F.isi_meta_str bym_strips_none hq)
/-- isinstance(v, str) of bytes -/
theorem bytes_not_str {t : Tok} {Q : Value → Shared → Prop} (h : ∀ k, Q (.bool false) { s with toks := k }) : wpAny (model prog w) A (call (.builtin "isinstance") [.bytes b t, .type "str"]) Q E s := by
  refine call_isinstance (S := fun _ R s => R (.ok (.ret (.bool false))) { s with toks := s.toks + 1 }) (fun _ _ _ _ s hq => ?_) (h _)
  obtain ⟨h, g, d, t, os⟩ := s
  exact isinstance_outer (isinstance_nested_false_bytes (by decide +kernel) F.isi_meta_str (by rw [isSubtype_type]; kernel_rfl) hq)
/-- isinstance(told, bytes) of bytes -/
theorem bytes_is_bytes {t : Tok} {Q : Value → Shared → Prop} (h : Q (.bool true) s) : wpAny (model prog w) A (call (.builtin "isinstance") [.bytes b t, .type "bytes"]) Q E s :=
  call_isinstance (isinstance_true (Tx := "bytes") F.isi_meta_bytes bytes_sub_self) ⟨PySem.W.typeIs_bytes _ _ _, h⟩
end
end Mine
end

section
open PySem PySem.W PyProof.Rows
set_option Elab.async false
namespace Mine
section
variable {prog : Program} {w : World} {A : Around} {E : Value → Shared → Prop} {s : Shared} {K : Frag} {L : Addr} {h₀ : Heap} {m : Str → Option Value}

theorem codeG_enter {R : Result → Shared → Prop} {name qual : Str} {params : Arguments} {body : List Stmt} {scope : Scope} {dV kV doc pm cdv ct oc : Value} {an od : Option Addr} {osl : Array (Option Value)} {f : Addr} {args : Args} {binds : List (Str × Value)}
    (F : Fr h₀ L s.heap m) (X₀ : K.In h₀) (hlim : h₀.NoLimit)
    (ho : K.lookup f = some ⟨oc, od, .func (fnOf name qual params body scope dV kV doc pm an cdv ct), osl⟩) (hcd : codeIn K cdv qual = true) (hroom : A.depth < recursionLimit)
    (hbind : BindsTo s (fnOf name qual params body scope dV kV doc pm an cdv ct) args binds) (hloc : ∀ y ∈ binds, scope.names.lookup y.1 = some .local)
    (h : ∀ h₁, Fr s.heap s.heap.objs.size h₁ (fun y => binds.reverse.lookup y) →
      wpG (model prog w) (A.deeper (envOf qual scope s.heap.objs.size f cdv)) (execs body (envOf qual scope s.heap.objs.size f cdv))
        (fun fl s' => R (.ok (.ret (match fl with | .ret v => v | _ => .none))) s')
        (fun e s' => wpAny (model prog w) (A.deeper (envOf qual scope s.heap.objs.size f cdv)) (leaving (envOf qual scope s.heap.objs.size f cdv) e) (fun _ s'' => R (.error e) s'') (fun e' s'' => R (.error e') s'') s')
        { s with heap := h₁, toks := s.toks + binds.length })
    (hco : scope.isCoroutine = false) (hgen : scope.isGenerator = false) (hk : scope.kind = .function)
    (hcell : ∀ x ∈ scope.names, x.2 ≠ .cell) : codeG (model prog w) A (.call (.ref f) args) R s := by
  refine codeG_call_def (fd := fnOf name qual params body scope dV kV doc pm an cdv ct) (body := body) (binds := binds) hroom ((X₀.keeps F.keep) _ _ ho) rfl (hlim.keeps F.keep) (codeRec_of (X₀.keeps F.keep) hcd) rfl hbind hcell hloc (fun h₁ hns hk₁ => ?_) hco hgen hk
  exact h h₁ ⟨hns, hk₁, Nat.le_refl _⟩
end
end Mine
end

section
set_option Elab.async false
namespace Mine

/-- What the reduced reader gives of a row of octets: none where it refuses it. -/
noncomputable def dec (l : List UInt8) : Option (List UInt8) :=
  match l with
  | [] => some []
  | c :: r =>
    if c = 0 then none
    else if (0 : UInt8) ∈ r.take (c.toNat - 1) then none
    else if r.length < c.toNat - 1 then some (r.take (c.toNat - 1) ++ [c])
    else if c.toNat - 1 < r.length then (dec (r.drop (c.toNat - 1))).map fun t => r.take (c.toNat - 1) ++ ((if c < 255 then [0] else []) ++ t)
    else some (r.take (c.toNat - 1))
termination_by l.length
decreasing_by
  simp only [List.length_drop, List.length_cons]
  omega

/-- The law's own reader: the text, the last code, the octets still wanted. -/
structure Rd where
  text : List Int
  last : Int
  wanted : Int

def Rd.start : Rd := ⟨[], 0, 0⟩
def Rd.take (s : Rd) (x : Int) : Rd :=
  if 0 < s.wanted then ⟨s.text ++ [x], s.last, s.wanted - 1⟩
  else ⟨if 0 < s.last ∧ s.last < 255 then s.text ++ [0] else s.text, x, x - 1⟩
def Rd.told (s : Rd) : List Int := if 0 < s.wanted then s.text ++ [s.last] else s.text

def octets (ns : List Int) : List UInt8 := ns.map fun n => n.toNat.toUInt8
def toInts (l : List UInt8) : List Int := l.map fun c => (c.toNat : Int)

theorem dec_zero : ∀ (n : Nat) (l : List UInt8), l.length = n → (0 : UInt8) ∈ l → dec l = none := by
  intro n
  induction n using Nat.strongRecOn with
  | ind n ih =>
    intro l hl h0
    cases l with
    | nil => cases h0
    | cons c r =>
      rw [dec]
      by_cases hc : c = 0
      · rw [if_pos hc]
      rw [if_neg hc]
      by_cases ht : (0 : UInt8) ∈ r.take (c.toNat - 1)
      · rw [if_pos ht]
      rw [if_neg ht]
      have hr : (0 : UInt8) ∈ r := by
        rcases List.mem_cons.mp h0 with e | e
        · exact absurd e.symm hc
        · exact e
      have hd : (0 : UInt8) ∈ r.drop (c.toNat - 1) := by
        rw [← List.take_append_drop (c.toNat - 1) r] at hr
        rcases List.mem_append.mp hr with e | e
        · exact absurd e ht
        · exact e
      have hlt : c.toNat - 1 < r.length := by
        rcases Nat.lt_or_ge (c.toNat - 1) r.length with e | e
        · exact e
        · rw [List.drop_of_length_le e] at hd; cases hd
      rw [if_neg (by omega), if_pos hlt]
      rw [ih (r.drop (c.toNat - 1)).length (by simp only [List.length_drop]; simp only [List.length_cons] at hl; omega) _ rfl hd]
      rfl

/-- Reading octets of text only. -/
theorem take_many : ∀ (l : List Int) (T : List Int) (a k : Int), (l.length : Int) ≤ k → l.foldl Rd.take ⟨T, a, k⟩ = ⟨T ++ l, a, k - l.length⟩
  | [], T, a, k, _ => by simp
  | x :: l, T, a, k, h => by
    have h' : (l.length : Int) + 1 ≤ k := by simpa using h
    rw [List.foldl_cons]
    have e : Rd.take ⟨T, a, k⟩ x = ⟨T ++ [x], a, k - 1⟩ := by
      unfold Rd.take
      rw [if_pos (by show (0 : Int) < k; omega)]
    rw [e, take_many l (T ++ [x]) a (k - 1) (by omega)]
    simp only [List.append_assoc, List.singleton_append, List.length_cons, Rd.mk.injEq, true_and]
    push_cast
    omega

theorem toInts_append (a b : List UInt8) : toInts (a ++ b) = toInts a ++ toInts b := List.map_append
theorem toInts_length (a : List UInt8) : (toInts a).length = a.length := List.length_map _

theorem u8_pos {c : UInt8} (h : c ≠ 0) : 0 < c.toNat := by
  rcases Nat.eq_zero_or_pos c.toNat with e | e
  · exact absurd (UInt8.toNat_inj.mp e) h
  · exact e

theorem read_parts : ∀ (n : Nat) (l : List UInt8), l.length = n → l ≠ [] → (0 : UInt8) ∉ l → ∀ (T : List Int) (a k : Int), k ≤ 0 →
    ∃ d, dec l = some d ∧ ((toInts l).foldl Rd.take ⟨T, a, k⟩).told = (if 0 < a ∧ a < 255 then T ++ [0] else T) ++ toInts d := by
  intro n
  induction n using Nat.strongRecOn with
  | ind n ih =>
    intro l hl hne h0 T a k hk
    cases l with
    | nil => exact absurd rfl hne
    | cons c r =>
      have hc : c ≠ 0 := fun e => h0 (by rw [e]; exact List.mem_cons_self)
      have hr : (0 : UInt8) ∉ r := fun e => h0 (List.mem_cons_of_mem _ e)
      have hpos := u8_pos hc
      have ht : ¬ (0 : UInt8) ∈ r.take (c.toNat - 1) := fun e => hr (List.mem_of_mem_take e)
      have step : Rd.take ⟨T, a, k⟩ (c.toNat : Int) = ⟨if 0 < a ∧ a < 255 then T ++ [0] else T, (c.toNat : Int), (c.toNat : Int) - 1⟩ := by
        unfold Rd.take
        rw [if_neg (by show ¬ (0 : Int) < k; omega)]
      generalize hT : (if 0 < a ∧ a < 255 then T ++ [0] else T) = T' at step ⊢
      rw [dec, if_neg hc, if_neg ht]
      show ∃ d, _ ∧ ((toInts r).foldl Rd.take (Rd.take ⟨T, a, k⟩ (c.toNat : Int))).told = _
      rw [step]
      rcases Nat.lt_trichotomy r.length (c.toNat - 1) with h | h | h
      · rw [if_pos h]
        refine ⟨_, rfl, ?_⟩
        rw [take_many _ _ _ _ (by rw [toInts_length]; omega), List.take_of_length_le (by omega), toInts_append]
        unfold Rd.told
        rw [if_pos (by show (0 : Int) < (c.toNat : Int) - 1 - (toInts r).length; rw [toInts_length]; omega)]
        simp [toInts]
      · rw [if_neg (by omega), if_neg (by omega)]
        refine ⟨_, rfl, ?_⟩
        rw [take_many _ _ _ _ (by rw [toInts_length]; omega), List.take_of_length_le (by omega)]
        unfold Rd.told
        rw [if_neg (by show ¬ (0 : Int) < (c.toNat : Int) - 1 - (toInts r).length; rw [toInts_length]; omega)]
      · rw [if_neg (by omega), if_pos h]
        have hd : r.drop (c.toNat - 1) ≠ [] := fun e => by
          have := congrArg List.length e
          simp only [List.length_drop, List.length_nil] at this
          omega
        have split : toInts r = toInts (r.take (c.toNat - 1)) ++ toInts (r.drop (c.toNat - 1)) := by
          rw [← toInts_append, List.take_append_drop]
        have hlt : (r.take (c.toNat - 1)).length = c.toNat - 1 := by rw [List.length_take]; omega
        obtain ⟨d, h1, h2⟩ := ih (r.drop (c.toNat - 1)).length (by simp only [List.length_drop]; simp only [List.length_cons] at hl; omega) _ rfl hd (fun e => hr (List.mem_of_mem_drop e)) (T' ++ toInts (r.take (c.toNat - 1))) (c.toNat : Int) ((c.toNat : Int) - 1 - (toInts (r.take (c.toNat - 1))).length) (by rw [toInts_length, hlt]; omega)
        rw [h1]
        refine ⟨_, rfl, ?_⟩
        rw [split, List.foldl_append, take_many (toInts (r.take (c.toNat - 1))) T' (c.toNat : Int) ((c.toNat : Int) - 1) (by rw [toInts_length, hlt]; omega), h2, toInts_append, toInts_append]
        have hlt255 : (c < 255) ↔ (c.toNat : Int) < 255 := by
          rw [UInt8.lt_iff_toNat_lt]
          show c.toNat < 255 ↔ _
          omega
        by_cases hc5 : c < 255
        · rw [if_pos ⟨by omega, hlt255.mp hc5⟩, if_pos hc5]
          simp [toInts]
        · rw [if_neg (fun q => hc5 (hlt255.mpr q.2)), if_neg hc5]
          simp [toInts]

theorem octets_mem {ns : List Int} (hr : ∀ n ∈ ns, 0 ≤ n ∧ n < 256) : (0 : UInt8) ∈ octets ns ↔ (0 : Int) ∈ ns := by
  unfold octets
  rw [List.mem_map]
  constructor
  · rintro ⟨n, hn, e⟩
    have := hr n hn
    have e' := congrArg UInt8.toNat e
    have : n = 0 := by
      rw [show (n.toNat.toUInt8).toNat = n.toNat % 256 from rfl] at e'
      simp only [UInt8.toNat_ofNat] at e'
      omega
    exact this ▸ hn
  · intro h
    exact ⟨0, h, rfl⟩

theorem toInts_octets {ns : List Int} (hr : ∀ n ∈ ns, 0 ≤ n ∧ n < 256) : toInts (octets ns) = ns := by
  unfold toInts octets
  rw [List.map_map]
  refine (List.map_congr_left fun n hn => ?_).trans (List.map_id _)
  have := hr n hn
  show ((n.toNat.toUInt8.toNat : Nat) : Int) = n
  rw [show (n.toNat.toUInt8).toNat = n.toNat % 256 from rfl]
  omega

/-- THE LAW, plain: refused just where a nought is in the row, else the own reader's text. -/
theorem law_plain {ns : List Int} (hr : ∀ n ∈ ns, 0 ≤ n ∧ n < 256) :
    ((0 : Int) ∈ ns → dec (octets ns) = none) ∧ ((0 : Int) ∉ ns → ∃ d, dec (octets ns) = some d ∧ toInts d = (ns.foldl Rd.take Rd.start).told) := by
  constructor
  · intro h
    exact dec_zero _ _ rfl ((octets_mem hr).mpr h)
  · intro h
    cases ns with
    | nil => exact ⟨[], by unfold octets; rw [List.map_nil, dec], rfl⟩
    | cons n r =>
      obtain ⟨d, h1, h2⟩ := read_parts _ (octets (n :: r)) rfl (by unfold octets; simp) (fun q => h ((octets_mem hr).mp q)) [] 0 0 (Int.le_refl _)
      refine ⟨d, h1, ?_⟩
      rw [toInts_octets hr, if_neg (by omega)] at h2
      rw [show Rd.start = (⟨[], 0, 0⟩ : Rd) from rfl, h2, List.nil_append]
end Mine
end

section
open PySem PySem.W PyProof.Rows
set_option Elab.async false
set_option maxRecDepth 100000
namespace Mine
section
variable {prog : Program} {w : World} {A : Around} {E : Value → Shared → Prop} {s : Shared} {env : Env}

theorem evalG_Call {id : Str} {p pos : Pos} {args : List Expr} {Q : Value → Shared → Prop}
    (h : wpAny (model prog w) A (eval (.Name id p) env) (fun f s₁ => wpG (model prog w) A (callWith pos f [] (backTo pos (starEach args env)) []) Q E s₁) E s) :
    wpG (model prog w) A (eval (.Call (.Name id p) args [] pos) env) Q E s := by
  rw [arm_eval_Call_Name']
  exact wpG_bindA h

theorem callWithG_type0 {pos : Pos} {T : String} {Q : Value → Shared → Prop} (h : wpG (model prog w) A (call (.type T) []) Q E s) : wpG (model prog w) A (callWith pos (.type T) [] [] []) Q E s := by
  unfold callWith
  refine wpG_bind (wpG_holding (wpG_of (evalArgs_kw_nil rfl (wpAny_evalAll_nil ?_))))
  refine wpG_bindA (wpAny_standAt ?_)
  refine wpG_bindA (m := keeperOf (.type T)) (wpAny_pure ?_)
  exact tailG h

theorem callWithG_type1 {pos : Pos} {T : String} {t : Sem Value} {Q : Value → Shared → Prop} (h : wpAny (model prog w) A t (fun v s₁ => wpG (model prog w) A (call (.type T) [v]) Q E s₁) E s) : wpG (model prog w) A (callWith pos (.type T) [] [(false, t)] []) Q E s := by
  unfold callWith
  refine wpG_bind (wpG_holding (wpG_of (evalArgs_kw rfl (Calls.spliced_cons (wpAny_mono h (fun v s₁ h₁ => Calls.spliced_nil (wpAny_evalAll_nil ?_)) fun _ _ x => x)))))
  refine wpG_bindA (wpAny_standAt ?_)
  refine wpG_bindA (m := keeperOf (.type T)) (wpAny_pure ?_)
  exact tailG h₁

theorem callWithG_method {pos : Pos} {id : String} {self : Value} {t : Sem Value} {Q : Value → Shared → Prop} (h : wpAny (model prog w) A t (fun v s₁ => wpG (model prog w) A (call (.builtin id) [self, v]) Q E s₁) E s) :
    wpG (model prog w) A (callWith pos (.builtin id) [self] [(false, t)] []) Q E s := by
  unfold callWith
  refine wpG_bind (wpG_holding (wpG_of (evalArgs_kw rfl (Calls.spliced_cons (wpAny_mono h (fun v s₁ h₁ => Calls.spliced_nil (wpAny_evalAll_nil ?_)) fun _ _ x => x)))))
  refine wpG_bindA (wpAny_standAt ?_)
  refine wpG_bindA (m := keeperOf (.builtin id)) (wpAny_pure ?_)
  exact tailG h₁

theorem bym_plainAttrs : PlainAttrs "bytearray" :=
  ⟨⟨"bytearray.__getattribute__", bym_ga_slot.lookup, by decide +kernel⟩, by rw [typeLookup_type, builtinLookup_eq_fast]; kernel_rfl⟩
theorem bym_append_kind : typeOf (.builtin "bytearray.append") = pure (.type "method_descriptor") := by kernel_rfl

/-- v is the bytearray at a, of the octets b, and P of both. -/
def AtBa (h : Heap) (v : Value) (P : Addr → Array UInt8 → Prop) : Prop := ∃ a b, v = .ref a ∧ h.get? a = some (baObj b) ∧ P a b

theorem execG_append {x : Str} {p p1 p2 p3 : Pos} {arg : Expr} {Q : Flow → Shared → Prop}
    (h : wpAny (model prog w) A (eval (.Name x p) env) (fun ov s₁ => AtBa s₁.heap ov fun a _ =>
      wpAny (model prog w) A (eval arg env) (fun v s₂ => wpG (model prog w) A (call (.builtin "bytearray.append") [.ref a, v]) (fun r s₃ => r = .none ∧ Q .next s₃) E s₂) E s₁) E s)
    (hl : (p1.endLine == p2.line) = true) (ha : starEach [arg] env = [(false, eval arg env)] := by rfl) (hi : interactive env = false := by rfl)
    (hs : swapsWith (.Call (.Attribute (.Name x p) (Str.ofString "append") p1) [arg] [] p2) none p3.line env = pure false := by rfl) :
    wpG (model prog w) A (exec (.Expr (.Call (.Attribute (.Name x p) (Str.ofString "append") p1) [arg] [] p2) p3) env) Q E s := by
  rw [exec_Expr env _ p3 hi hs]
  refine wpG_bindA (wpAny_standAt (wpG_bind ?_))
  refine wpG_mono (Q := fun r s₃ => r = .none ∧ Q .next s₃) ?_ (fun v s' hv => ?_) (fun _ _ x => x)
  · rw [arm_eval_Call]
    refine wpG_bindA (m := attributeBase (.Name x p) (Str.ofString "append") env (eval (.Name x p) env)) ?_
    show wpAny _ _ (eval (.Name x p) env) _ _ _
    refine wpAny_mono h (fun ov s₁ h₁ => ?_) fun _ _ x => x
    obtain ⟨a, b, rfl, ho, h₁⟩ := h₁
    refine wpG_bindA (wpAny_standAt ?_)
    rw [ha]
    unfold methodCall
    refine wpG_bindA (wpAny_holding ?_)
    show wpAny _ _ (getMethod (.ref a) (Str.ofString "append") _) _ _ _
    refine getMethod_builtin (ba_type ho) bym_plainAttrs bym_slot_append bym_append_kind (fun a' e => by cases e; exact ⟨_, ho, rfl⟩) ?_
    dsimp only
    have hp : ∀ few, methodCallPos few (.Name x p) env p1 p2 = pure p2 := fun few => by
      unfold methodCallPos
      rw [hl, Bool.or_true, if_pos rfl]
    refine wpG_eq (hp _) ?_
    exact callWithG_method h₁
  · obtain ⟨rfl, hq⟩ := hv
    rw [dropValue_plain (fun a e => by cases e)]
    exact wpG_pure hq
end
end Mine
end

section
open PySem PySem.W PyProof.Rows
set_option Elab.async false
set_option maxRecDepth 100000
namespace Mine
open PySem.Builtin
section
variable {prog : Program} {w : World} {A : Around} {E : Value → Shared → Prop} {s : Shared} {a : Addr} {b : Array UInt8} {h₀ g h : Heap} {L : Addr} {m : Str → Option Value} {news : List (Addr × Obj)}

theorem bytes_len {t : Tok} {Q : Value → Shared → Prop} (hz : b.size ≤ 1099511627776) (h : ∀ t k, Q (.int b.size t) { s with toks := k }) : wpAny (model prog w) A (call (.builtin "len") [.bytes b t]) Q E s :=
  len_bytes hz (h _ _)

theorem bytes_item {value slice : Expr} {i : Int} {t u : Tok} {Q : Value → Shared → Prop} (hz : b.size ≤ 1099511627776) (h0 : 0 ≤ i) (h1 : i < (b.size : Int))
    (h : ∀ t k, Q (.int (b.getD i.toNat 0).toNat t) { s with toks := k })
    (hs : subscripted slice false (.bytes b t) (.int i u) = operate [.bytes b t, .int i u] (getItem (.bytes b t) (.int i u)) := by with_unfolding_all rfl)
    (ht : ∀ r, letTemporaryGo value (.bytes b t) r = pure () := by intro _; with_unfolding_all rfl) :
    wpAny (model prog w) A (subscriptTail value slice (.bytes b t) (.int i u)) Q E s := by
  obtain ⟨l⟩ := b
  refine tail_of_ItemOn ⟨"bytes", _, FB.slot_bytes_getitem.lookup, PySem.W.typeIs_bytes _ _ _, getItem_bytes (by simpa using hz) h0 (by simpa using h1) ?_⟩ hs ht
  have := h s.toks (s.toks + 1)
  simpa using this

theorem picked_nat (b : Array UInt8) (lo hi : Nat) (hle : lo ≤ hi) (hlo : lo ≤ b.size) : KBy.picked b (some (lo : Int)) (some (hi : Int)) = ((b.toList.drop lo).take (hi - lo)).toArray := by
  rw [KBc.picked_eq]
  simp only [Option.elim]
  rw [clipAt_nat, clipAt_nat, Nat.min_eq_left hlo]
  congr 1
  rcases Nat.le_total hi b.size with h | h
  · rw [Nat.min_eq_left h]
  · rw [Nat.min_eq_right h, List.take_of_length_le (by simp), List.take_of_length_le (by simp; omega)]

/-- v[lo:hi] of bytes -/
theorem bytes_slice {value slice : Expr} {lo hi : Int} {t tl th : Tok} {Q : Value → Shared → Prop} (F : Fr h₀ L s.heap m) (N : News h₀ L s.heap news) (hz : b.size ≤ 16777216)
    (h : ∀ h' t' k, Fr h₀ L h' m → News h₀ L h' news → Q (.bytes (KBy.picked b (some lo) (some hi)) t') { s with heap := h', toks := k })
    (hs : subscripted slice false (.bytes b t) (.ref s.heap.objs.size) = operate [.ref s.heap.objs.size, .bytes b t] (getItem (.bytes b t) (.ref s.heap.objs.size)) := by with_unfolding_all rfl)
    (ht : ∀ r, letTemporaryGo value (.bytes b t) r = pure () := by intro _; with_unfolding_all rfl) :
    wpAny (model prog w) A (subscriptTail value slice (.bytes b t) (.ref s.heap.objs.size)) Q E { s with heap := s.heap.push { cls := .type "slice", data := .fields #[.int lo tl, .int hi th, .none] } } :=
  KBc.slice_K F N rfl (.int lo tl) (.int hi th) (by rw [KBw.ints_length]; exact hz) (fun h' t' k F' N' _ => h h' t' k F' N') hs ht

/-- v[lo:hi] of a bytearray, onto the ledger -/
theorem ba_sliceK {value slice : Expr} {lo hi : Int} {tl th : Tok} {Q : Value → Shared → Prop} (F : Fr h₀ L s.heap m) (N : News h₀ L s.heap news) (ho : s.heap.get? a = some (baObj b)) (hz : b.size ≤ sizeLine)
    (h : ∀ D h', Fr h₀ L h' m → News h₀ L h' ((D, baObj (KBy.picked b (some lo) (some hi))) :: news) → (∀ p ∈ news, p.1 ≠ D) → Q (.ref D) { s with heap := h' })
    (hs : subscripted slice false (.ref a) (.ref s.heap.objs.size) = operate [.ref s.heap.objs.size, .ref a] (getItem (.ref a) (.ref s.heap.objs.size)) := by with_unfolding_all rfl) :
    wpAny (model prog w) A (subscriptTail value slice (.ref a) (.ref s.heap.objs.size)) Q E { s with heap := s.heap.push { cls := .type "slice", data := .fields #[.int lo tl, .int hi th, .none] } } := by
  refine ba_slice (s := { s with heap := s.heap.push { cls := .type "slice", data := .fields #[.int lo tl, .int hi th, .none] } }) (Heap.get?_push_of_some _ ho) (Heap.IsSliceOf.new _ _ _ _) hz ?_ hs
  have F1 := F.push ({ cls := .type "slice", data := .fields #[.int lo tl, .int hi th, .none] } : Obj)
  have N1 : News h₀ L (s.heap.push { cls := .type "slice", data := .fields #[.int lo tl, .int hi th, .none] }) news := News.pushKeep N _
  refine h _ _ (F1.push _) (N1.push F1 _ rfl) fun p hp => Nat.ne_of_lt ?_
  rw [Heap.size_push]
  exact Nat.lt_succ_of_lt (Heap.lt_size (N p hp).1)

/-- The ledger's first bytearray turned. -/
theorem ba_turned {O : Addr} {ob : Array UInt8} {rest : List (Addr × Obj)} (f : Array UInt8 → Array UInt8) (F : Fr g L h m) (N : News g L h ((O, baObj ob) :: rest)) (hne : ∀ p ∈ rest, p.1 ≠ O) :
    Fr g L (h.update O (Obj.mapBytearray f)) m ∧ News g L (h.update O (Obj.mapBytearray f)) ((O, baObj (f ob)) :: rest) := by
  obtain ⟨hO, hOL, hOg⟩ := N _ (List.Mem.head _)
  have oth : ∀ x o, x ≠ O → h.get? x = some o → (h.update O (Obj.mapBytearray f)).get? x = some o := fun x o hx e => (Heap.get?_update_other _ _ (Ne.symm hx)).trans e
  obtain ⟨oL, es, ep, hL, r⟩ := F.ns
  refine ⟨⟨⟨oL, es, ep, oth L oL (Ne.symm hOL) hL, r⟩, fun x o e => oth x o (fun q => ?_) (F.keep x o e), F.above⟩, fun p hp => ?_⟩
  · rw [q, hOg] at e; cases e
  · rcases List.mem_cons.mp hp with rfl | hp'
    · exact ⟨get_turned f hO, hOL, hOg⟩
    · obtain ⟨q1, q2, q3⟩ := N p (List.mem_cons_of_mem _ hp')
      exact ⟨oth _ _ (hne p hp') q1, q2, q3⟩

theorem makeG0K {Q : Value → Shared → Prop} (hg : A.guards = some []) (F : Fr h₀ L s.heap m) (N : News h₀ L s.heap news)
    (h : ∀ O h', Fr h₀ L h' m → News h₀ L h' ((O, baObj #[]) :: news) → (∀ p ∈ news, p.1 ≠ O) → Q (.ref O) { s with heap := h' }) : wpG (model prog w) A (call (.type "bytearray") []) Q E s := by
  refine makeG0 hg fun h' ho hk => ?_
  exact h _ h' (F.keeps hk) (news_pushed F N hk ho rfl) fun p hp => Nat.ne_of_lt (Heap.lt_size (N p hp).1)

theorem makeG1K {l : Addr} {vs : List Value} {ns : List Int} {Q : Value → Shared → Prop} (hg : A.guards = some []) (F : Fr h₀ L s.heap m) (N : News h₀ L s.heap news) (hl : s.heap.IsList l vs.toArray) (hi : IntsAre vs ns) (hr : ∀ n ∈ ns, 0 ≤ n ∧ n < 256) (hz : ns.length ≤ sizeLine)
    (h : ∀ O h', Fr h₀ L h' m → News h₀ L h' ((O, baObj (byteArr ns)) :: news) → (∀ p ∈ news, p.1 ≠ O) → Q (.ref O) { s with heap := h' }) : wpG (model prog w) A (call (.type "bytearray") [.ref l]) Q E s := by
  refine makeG1 hg hl hi hr hz fun h' ho hk => ?_
  exact h _ h' (F.keeps hk) (news_pushed F N hk ho rfl) fun p hp => Nat.ne_of_lt (Heap.lt_size (N p hp).1)

theorem iaddGK {O : Addr} {ob c : Array UInt8} {v : Value} {Q : Value → Shared → Prop} (hg : A.guards = some []) (F : Fr g L s.heap m) (N : News g L s.heap [(O, baObj ob)]) (hv : Buf s.heap v c) (hne : v ≠ .ref O) (hz : ob.size + c.size ≤ sizeLine)
    (h : ∀ h', Fr g L h' m → News g L h' [(O, baObj (ob ++ c))] → Q (.ref O) { s with heap := h' }) : wpG (model prog w) A (inplaceOp .Add (.ref O) v) Q E s := by
  refine iaddG hg (N.get (List.Mem.head _)) hv hne hz ?_
  obtain ⟨F', N'⟩ := ba_turned (· ++ c) F N (fun p hp => nomatch hp)
  exact h _ F' N'

theorem appendGK {O : Addr} {ob : Array UInt8} {k : Int} {t : Tok} {Q : Value → Shared → Prop} (hg : A.guards = some []) (F : Fr g L s.heap m) (N : News g L s.heap [(O, baObj ob)]) (h0 : 0 ≤ k) (h1 : k < 256) (hz : ob.size + 1 ≤ sizeLine)
    (h : ∀ h', Fr g L h' m → News g L h' [(O, baObj (ob.push k.toNat.toUInt8))] → Q .none { s with heap := h' }) : wpG (model prog w) A (call (.builtin "bytearray.append") [.ref O, .int k t]) Q E s := by
  refine appendG hg (N.get (List.Mem.head _)) h0 h1 hz ?_
  obtain ⟨F', N'⟩ := ba_turned (·.push k.toNat.toUInt8) F N (fun p hp => nomatch hp)
  exact h _ F' N'

/-- A raise leaves the frame that a call has opened; the caller's ledger stands. -/
theorem raise_out {M : Model} {s s' : Shared} {env : Env} {f e : Addr} {mm : Str → Option Value} {name : Str} {scope : Scope} {cd : Value} {cls : Value} {vs : List Value} {Q : Unit → Shared → Prop}
    (B₀ : Below callerA h₀ [] h₀) (F₀ : Fr h₀ L s.heap m) (N₀ : News h₀ L s.heap news) (hf : env.frame = some L) (hke : env.scope.kind = .function)
    (kF : Fr s.heap s.heap.objs.size h mm) (hx : Heap.MadeExcOf h s'.heap e cls vs)
    (H : ∀ h' t g, Fr h₀ L g m → g.UpToSlots h' → RaisedK h₀ [env] e cls t vs news h' → Q () { s' with heap := h' }) (hk : scope.kind = .function := by rfl) :
    wpAny M ((callerA.deeper env).deeper (envOf name scope s.heap.objs.size f cd)) (leaving (envOf name scope s.heap.objs.size f cd) (.ref e)) Q E s' := by
  obtain ⟨FG, BG, st, _⟩ := groundX (A := callerA.deeper env) (R := fun _ _ => True) B₀ F₀ N₀ rfl hf hke
  have F1 : Fr (hideAll s.heap (news.map (·.1))) s.heap.objs.size h mm := ⟨kF.ns, fun b o e => kF.keep b o (of_hideAll _ e), Nat.le_of_eq (hideAll_size _ _)⟩
  have N1 : News (hideAll s.heap (news.map (·.1))) s.heap.objs.size h news := fun p hp => ⟨kF.keep _ _ (N₀ p hp).1, Nat.ne_of_lt (Heap.lt_size (N₀ p hp).1), hideAll_none _ (List.mem_map_of_mem hp)⟩
  exact leave_raiseK BG hx F1 N1 (fun h' t R' U' => H h' t _ FG U' R') hk

theorem fr_shape3 {x1 x2 x3 : Str} {v1 v2 v3 : Value} (F : Fr g L h m) (h1 : m x1 = some v1) (h2 : m x2 = some v2) (h3 : m x3 = some v3) :
    Fr g L h (fun y => if y = x1 then some v1 else if y = x2 then some v2 else if y = x3 then some v3 else m y) := by
  have e : (fun y => if y = x1 then some v1 else if y = x2 then some v2 else if y = x3 then some v3 else m y) = m := by
    funext y
    by_cases e1 : y = x1
    · rw [if_pos e1, e1, h1]
    rw [if_neg e1]
    by_cases e2 : y = x2
    · rw [if_pos e2, e2, h2]
    rw [if_neg e2]
    by_cases e3 : y = x3
    · rw [if_pos e3, e3, h3]
    rw [if_neg e3]
  rw [e]; exact F
theorem news_sub {rest rest' : List (Addr × Obj)} (N : News g L h rest) (hs : ∀ p ∈ rest', p ∈ rest) : News g L h rest' := fun p hp => N p (hs p hp)
end
end Mine
end

section
open PySem PySem.W PyProof.Rows
set_option Elab.async false
namespace Mine

/-- The part behind the code at place i. -/
def part (b : Array UInt8) (i : Nat) : List UInt8 := (b.toList.drop (i + 1)).take ((b.getD i 0).toNat - 1)

theorem part_def (b : Array UInt8) (i : Nat) : (b.toList.drop (i + 1)).take ((b.getD i 0).toNat - 1) = part b i := rfl

theorem drop_at {b : Array UInt8} {i : Nat} (h : i < b.size) : b.toList.drop i = b.getD i 0 :: b.toList.drop (i + 1) := by
  rw [List.drop_eq_getElem_cons (by simpa using h)]
  congr 1
  simp [h]

theorem part_size (b : Array UInt8) (i : Nat) : (part b i).length ≤ (b.getD i 0).toNat - 1 := by
  unfold part; rw [List.length_take]; omega
theorem part_size2 (b : Array UInt8) (i : Nat) : (part b i).length ≤ b.size - (i + 1) := by
  unfold part; rw [List.length_take, List.length_drop, Array.length_toList]; omega

theorem part_arr (b : Array UInt8) (i : Nat) : (part b i).toArray.size ≤ b.size - (i + 1) := by
  rw [List.size_toArray]; exact part_size2 b i

theorem part_arr2 (b : Array UInt8) (i : Nat) : (part b i).toArray.size ≤ (b.getD i 0).toNat - 1 := by
  rw [List.size_toArray]; exact part_size b i

theorem dec_code0 {b : Array UInt8} {i : Nat} (h : i < b.size) (h0 : (((b.getD i 0).toNat : Nat) : Int) = 0) : dec (b.toList.drop i) = none := by
  have e : b.getD i 0 = 0 := UInt8.toNat_inj.mp (by simpa using h0)
  rw [drop_at h, dec, if_pos e]

theorem code_ne {b : Array UInt8} {i : Nat} (h0 : ¬ (((b.getD i 0).toNat : Nat) : Int) = 0) : b.getD i 0 ≠ 0 := fun e => h0 (by rw [e]; rfl)

theorem dec_part0 {b : Array UInt8} {i : Nat} (h : i < b.size) (h0 : ¬ (((b.getD i 0).toNat : Nat) : Int) = 0) (hc : (part b i).toArray.contains (0 : Int).toNat.toUInt8 = true) : dec (b.toList.drop i) = none := by
  have hm : (0 : UInt8) ∈ part b i := by
    have : (0 : UInt8) ∈ (part b i).toArray := Array.contains_iff_mem.mp hc
    simpa using this
  rw [drop_at h, dec, part_def, if_neg (code_ne h0), if_pos hm]

theorem part_clean {b : Array UInt8} {i : Nat} (hc : ¬ (part b i).toArray.contains (0 : Int).toNat.toUInt8 = true) : ¬ (0 : UInt8) ∈ part b i := fun hm => by
  refine hc (Array.contains_iff_mem.mpr ?_)
  show (0 : UInt8) ∈ (part b i).toArray
  simpa using hm

theorem drop_len {b : Array UInt8} {i : Nat} : (b.toList.drop (i + 1)).length = b.size - (i + 1) := by rw [List.length_drop, Array.length_toList]

theorem dec_cut {b : Array UInt8} {i : Nat} (h : i < b.size) (h0 : ¬ (((b.getD i 0).toNat : Nat) : Int) = 0) (hc : ¬ (part b i).toArray.contains (0 : Int).toNat.toUInt8 = true)
    (hl : b.size < i + (b.getD i 0).toNat) : dec (b.toList.drop i) = some (part b i ++ [b.getD i 0]) := by
  have hp := u8_pos (code_ne h0)
  rw [drop_at h, dec, part_def, if_neg (code_ne h0), if_neg (part_clean hc), if_pos (by rw [drop_len]; omega)]

theorem dec_whole {b : Array UInt8} {i : Nat} (h : i < b.size) (h0 : ¬ (((b.getD i 0).toNat : Nat) : Int) = 0) (hc : ¬ (part b i).toArray.contains (0 : Int).toNat.toUInt8 = true)
    (hl : b.size = i + (b.getD i 0).toNat) : dec (b.toList.drop i) = some (part b i) := by
  have hp := u8_pos (code_ne h0)
  rw [drop_at h, dec, part_def, if_neg (code_ne h0), if_neg (part_clean hc), if_neg (by rw [drop_len]; omega), if_neg (by rw [drop_len]; omega)]

theorem dec_more {b : Array UInt8} {i : Nat} (h : i < b.size) (h0 : ¬ (((b.getD i 0).toNat : Nat) : Int) = 0) (hc : ¬ (part b i).toArray.contains (0 : Int).toNat.toUInt8 = true)
    (hl : i + (b.getD i 0).toNat < b.size) : dec (b.toList.drop i) = (dec (b.toList.drop (i + (b.getD i 0).toNat))).map fun t => part b i ++ ((if b.getD i 0 < 255 then [0] else []) ++ t) := by
  have hp := u8_pos (code_ne h0)
  rw [drop_at h, dec, part_def, if_neg (code_ne h0), if_neg (part_clean hc), if_neg (by rw [drop_len]; omega), if_pos (by rw [drop_len]; omega)]
  rw [List.drop_drop, show i + 1 + ((b.getD i 0).toNat - 1) = i + (b.getD i 0).toNat from by omega]

theorem picked_part {b : Array UInt8} {i : Nat} {lo hi : Int} (h : i < b.size) (h0 : ¬ (((b.getD i 0).toNat : Nat) : Int) = 0) (hlo : lo = (i : Int) + 1) (hhi : hi = (i : Int) + 1 + (((b.getD i 0).toNat : Nat) : Int) - 1) :
    KBy.picked b (some lo) (some hi) = (part b i).toArray := by
  have hp := u8_pos (code_ne h0)
  have e1 : lo = ((i + 1 : Nat) : Int) := by rw [hlo]; push_cast; rfl
  have e2 : hi = ((i + (b.getD i 0).toNat : Nat) : Int) := by rw [hhi]; push_cast; omega
  rw [e1, e2, picked_nat b (i + 1) (i + (b.getD i 0).toNat) (by omega) (by omega)]
  unfold part
  rw [show i + (b.getD i 0).toNat - (i + 1) = (b.getD i 0).toNat - 1 from by omega]

theorem lt255 {c : UInt8} : (((c.toNat : Nat) : Int) < 255) ↔ c < 255 := by
  rw [UInt8.lt_iff_toNat_lt]
  show _ ↔ c.toNat < 255
  omega
theorem back_u8 (c : UInt8) : (((c.toNat : Nat) : Int).toNat.toUInt8) = c := by
  rw [Int.toNat_natCast]
  exact UInt8.ofNat_toNat
end Mine
end

section
open PySem PySem.W PyProof.Rows
set_option Elab.async false
set_option pp.maxSteps 3000
namespace Mine
local macro_rules | `(tactic| walk_at "ba at") => `(tactic| first | assumption | exact Fr.keep (by k_asm) _ _ (by assumption))
local macro_rules | `(tactic| walk_at "call builtin:isinstance") => `(tactic| (k_here; (with_reducible show wpAny _ _ (call (Value.builtin "isinstance") [Value.ref _, Value.type "str"]) _ _ _); refine ba_not_str (by walk_at "ba at") ?_; intro _))
local macro_rules | `(tactic| walk_at "call builtin:isinstance") => `(tactic| (k_here; (with_reducible show wpAny _ _ (call (Value.builtin "isinstance") [Value.bytes _ _, Value.type "str"]) _ _ _); refine bytes_not_str ?_; intro _))
local macro_rules | `(tactic| walk_at "call builtin:len") => `(tactic| (k_here; (with_reducible show wpAny _ _ (call (Value.builtin "len") [Value.ref _]) _ _ _); refine ba_len (by walk_at "ba at") (by omega) ?_; intro _ _))
local macro_rules | `(tactic| walk_at "call builtin:len") => `(tactic| (k_here; (with_reducible show wpAny _ _ (call (Value.builtin "len") [Value.bytes _ _]) _ _ _); refine bytes_len (by omega) ?_; intro _ _))
local macro_rules | `(tactic| walk_at "subscriptTail") => `(tactic| (k_here; (with_reducible show wpAny _ _ (subscriptTail _ _ (Value.ref _) (Value.int _ _)) _ _ _); refine ba_item (by walk_at "ba at") (by omega) (by omega) (by omega) ?_; intro _ _))
local macro_rules | `(tactic| walk_at "subscriptTail") => `(tactic| (k_here; (with_reducible show wpAny _ _ (subscriptTail _ _ (Value.bytes _ _) (Value.int _ _)) _ _ _); refine bytes_item (by omega) (by omega) (by omega) ?_; intro _ _))
local macro_rules | `(tactic| walk_at "subscriptTail") => `(tactic| (k_here; (with_reducible show wpAny _ _ (subscriptTail _ (Expr.Slice _ _ none _) (Value.bytes _ _) (Value.ref _)) _ _ _); (with_reducible rename Fr _ _ _ _ => kF); (with_reducible rename News _ _ _ _ => kN); refine bytes_slice (s := ⟨_, _, _, _, _⟩) kF kN (by omega) ?_; intro h' _ _ F' N'))
local macro_rules | `(tactic| walk_at "subscriptTail") => `(tactic| (k_here; (with_reducible show wpAny _ _ (subscriptTail _ (Expr.Slice _ _ none _) (Value.ref _) (Value.ref _)) _ _ _); (with_reducible rename Fr _ _ _ _ => kF); (with_reducible rename News _ _ _ _ => kN); refine ba_sliceK (s := ⟨_, _, _, _, _⟩) kF kN (by walk_at "ba at") (by rw [sizeLine_eq]; omega) ?_; intro D' h' F' N' hD'))
local macro_rules | `(tactic| walk_at "compareOp In") => `(tactic| (k_here; (with_reducible show wpAny _ _ (compareOp CmpOp.In (Value.int _ _) (Value.bytes _ _)) _ _ _); refine bytes_in (by decide) (by decide) ?_))
local macro_rules | `(tactic| walk_at "compareOp In") => `(tactic| (k_here; (with_reducible show wpAny _ _ (compareOp CmpOp.In (Value.int _ _) (Value.ref _)) _ _ _); refine ba_in (by first | walk_at "ba at" | exact (News.get (by assumption) (List.Mem.head _))) (by decide) (by decide) ?_))
local macro_rules | `(tactic| walk_at "call type:bytes") => `(tactic| (k_here; (with_reducible show wpAny _ _ (call (Value.type "bytes") [Value.ref _]) _ _ _); refine ba_bytes (News.get (by assumption) (List.Mem.head _)) (by rw [sizeLine_eq]; first | (simp; done) | (simp only [Array.size_append, Array.size_push]; omega)) ?_; intro _ _))
set_option maxRecDepth 100000 in
set_option maxHeartbeats 8000000 in
theorem dec_call : ∀ (w : World) (s : Shared) (h₀ : Heap) (L : Addr) (m : Str → Option Value) (env : Env) (news : List (Addr × Obj)) (mg mb : Str → Option Value) (R : Result → Shared → Prop) (v : Value) (b : Array UInt8),
    (Mine.hd.heap_39 w.params).In h₀ → TopRead Mine.hd.view_39 (looseW Mine.hd.view_39 []) mg mb h₀ → Below callerA h₀ [] h₀ → Fr h₀ L s.heap m → News h₀ L s.heap news → env.frame = some L → env.scope.kind = .function →
    Buf s.heap v b → b.size ≤ 1000 →
    (∀ d h' tk t, dec b.toList = some d → (∀ x o, s.heap.get? x = some o → h'.get? x = some o) → R (.ok (.ret (.bytes d.toArray t))) { s with heap := h', toks := tk }) →
    (∀ h' tk e t vs g, dec b.toList = none → Fr h₀ L g m → g.UpToSlots h' → RaisedK h₀ [env] e (.ref 24) t vs news h' → R (.error (.ref e)) { s with heap := h', toks := tk }) →
    codeG (model Challenge.rw_nc0005_01.row.prog w) (callerA.deeper env) (.call (.ref 34) ⟨[v], []⟩) R s := by
  w_on
  k_fill
  intro w s h₀ L m env news mg mb R v b X₀ T₀ B₀ F₀ N₀ hf hke hv hz hok herr
  refine' codeG_enter (binds := [(Str.ofString "in_bytes", v)]) F₀ X₀ T₀.nolimit ?k6 ?k7 ?k8 ?k9 ?kB ?_ ?c2 ?c3 ?c4 ?c5
  case k6 => k_is
  case k7 => k_is
  case k8 => k_room
  case k9 => exact BindsTo.of_eq rfl
  case c5 => decide
  case kB => exact locs rfl
  case c2 => exact rfl
  case c3 => exact rfl
  case c4 => exact rfl
  intro h₁ F'
  have KX := X₀.keeps F₀.keep
  have T := T₀.keeps F₀.keep
  have N' : News s.heap s.heap.objs.size h₁ [] := News.nil
  clear X₀ T₀
  have hok2 : ∀ (X : Array UInt8) h' tk t, dec b.toList = some X.toList → (∀ x o, s.heap.get? x = some o → h'.get? x = some o) → R (.ok (.ret (.bytes X t))) { s with heap := h', toks := tk } := by
    intro X h' tk t h1 h2
    have := hok X.toList h' tk t h1 h2
    rwa [Array.toArray_toList] at this
  rcases hv with ⟨tv, rfl⟩ | ⟨a, rfl, hoa⟩

  · (refine execsG_cons (execG_If ?_)); k_fold; k_steps; (all_goals try clear qk); (all_goals try clear ek)
    refine execsG_nil ?_
    (refine execsG_consA ?_); k_fold; k_steps; (all_goals try clear qk); (all_goals try clear ek)
    (refine execsG_cons (execG_Assign_Name (evalG_Call ?_))); k_fold; k_steps; (all_goals try clear qk); (all_goals try clear ek)
    (with_reducible rename Fr s.heap _ _ _ => kF); (with_reducible rename News s.heap _ _ _ => kN)
    refine callWithG_type0 (makeG0K rfl kF kN ?_)
    intro O hO FO NO hOne
    clear kF kN
    k_fold; k_steps; (all_goals try clear qk); (all_goals try clear ek)
    (refine execsG_consA ?_); k_fold; k_steps; (all_goals try clear qk); (all_goals try clear ek)
    (refine execsG_cons (execG_If ?_)); k_fold; k_steps; (all_goals try clear qk); (all_goals try clear ek)
    · refine execsG_cons ?_
      refine execG_While (by passes_own) rfl (fun n s' => ∃ (h' : Heap) (tk : Nat) (i : Nat) (ob : Array UInt8) (u : Str → Option Value) (ti : Tok), s' = { s with heap := h', toks := tk } ∧ i < b.size ∧ n = b.size - i ∧
        Fr s.heap s.heap.objs.size h' (fun y => if y = Str.ofString "idx" then some (.int (i : Int) ti) else if y = Str.ofString "out_bytes" then some (.ref O) else if y = Str.ofString "in_bytes_mv" then some (Value.bytes b tv) else u y) ∧
        News s.heap s.heap.objs.size h' [(O, baObj ob)] ∧ ob.size ≤ 2 * i ∧ dec b.toList = (dec (b.toList.drop i)).map (ob.toList ++ ·)) ?_ b.size ?_
      · rintro n s' ⟨h', tk, i, ob, u, ti, rfl, hi, rfl, F', N', hsz, hdec⟩
        k_fold; k_steps; (all_goals try clear qk); (all_goals try clear ek)
        (refine execsG_consA ?_); k_fold; k_steps; (all_goals try clear qk); (all_goals try clear ek)
        simp only [Int.toNat_natCast] at *
        (refine execsG_cons (execG_If ?_)); k_fold; k_steps; (all_goals try clear qk); (all_goals try clear ek)
        · (refine execsG_consA ?_); k_fold; k_steps; (all_goals try clear qk); (all_goals try clear ek)
          (with_reducible rename Heap.MadeExcOf _ _ _ _ _ => hx); (with_reducible rename Fr s.heap _ _ _ => kF)
          refine raise_out B₀ F₀ N₀ hf hke kF hx fun h'' t g a1 a2 a3 => herr h'' _ _ t _ g ?_ a1 a2 a3
          rw [hdec, dec_code0 hi (by assumption)]; rfl
        · rename ((_ : Int) ≠ 0) => hlen
          refine execsG_nil ?_
          (refine execsG_consA ?_); k_fold; k_steps; (all_goals try clear qk); (all_goals try clear ek)
          (refine execsG_consA ?_); k_fold; k_steps; (all_goals try clear qk); (all_goals try clear ek)
          (refine execsG_consA ?_); k_fold; k_steps; (all_goals try clear qk); (all_goals try clear ek)
          have hpk := picked_part (b := b) (i := i) hi hlen rfl rfl
          simp only [hpk] at *
          have hpa := part_arr b i
          (refine execsG_cons (execG_If ?_)); k_fold; k_steps; (all_goals try clear qk); (all_goals try clear ek)
          · (refine execsG_consA ?_); k_fold; k_steps; (all_goals try clear qk); (all_goals try clear ek)
            (with_reducible rename Heap.MadeExcOf _ _ _ _ _ => hx); (with_reducible rename Fr s.heap _ _ _ => kF)
            refine raise_out B₀ F₀ N₀ hf hke kF hx fun h'' t g a1 a2 a3 => herr h'' _ _ t _ g ?_ a1 a2 a3
            rw [hdec, dec_part0 hi hlen (by assumption)]; rfl
          · rename (Array.contains _ _ = false) => hcl0
            have hcl := ne_true_of_eq_false hcl0
            refine execsG_nil ?_
            (refine execsG_cons (execG_AugAssign_Name ?_)); k_fold; k_steps; (all_goals try clear qk); (all_goals try clear ek)
            (with_reducible rename Fr s.heap _ _ _ => kF); (with_reducible rename News s.heap _ _ _ => kN)
            refine iaddGK (ob := ob) (c := (part b i).toArray) rfl kF (news_sub kN (fun p hp => hp)) (.inl ⟨_, rfl⟩) (fun e => by cases e) (by rw [sizeLine_eq]; have := part_arr b i; omega) ?_
            intro h'' F'' N''
            clear kF kN
            k_fold; k_steps; (all_goals try clear qk); (all_goals try clear ek)
            (refine execsG_consA ?_); k_fold; k_steps; (all_goals try clear qk); (all_goals try clear ek)
            (refine execsG_cons (execG_If ?_)); k_fold; k_steps; (all_goals try clear qk); (all_goals try clear ek)
            · refine execsG_cons (execG_append ?_ rfl)
              k_fold; k_steps; (all_goals try clear qk); (all_goals try clear ek)
              (with_reducible rename Fr s.heap _ _ _ => kF); (with_reducible rename News s.heap _ _ _ => kN)
              refine ⟨O, _, rfl, kN.get (List.Mem.head _), ?_⟩
              dsimp only
              k_fold; k_steps; (all_goals try clear qk); (all_goals try clear ek)
              (with_reducible rename Fr s.heap _ _ _ => kF); (with_reducible rename News s.heap _ _ _ => kN)
              refine appendGK rfl kF kN (by omega) (by have := (b.getD i 0).toNat_lt; omega) (by rw [sizeLine_eq, Array.size_append]; have := part_arr b i; omega) ?_
              intro h'' F'' N''
              clear kF kN
              refine ⟨rfl, ?_⟩
              (refine execsG_consA ?_); k_fold; k_steps; (all_goals try clear qk); (all_goals try clear ek)
              repeat refine execsG_nil ?_
              (refine execsG_consA ?_); k_fold; k_steps; (all_goals try clear qk); (all_goals try clear ek)
              (with_reducible rename Fr s.heap _ _ _ => kF)
              refine hok2 _ _ _ _ ?_ kF.keep
              rw [hdec, dec_cut hi hlen hcl (by omega), back_u8]
              simp
            · (refine execsG_cons (execG_If ?_)); k_fold; k_steps; (all_goals try clear qk); (all_goals try clear ek)
              · (refine execsG_cons (execG_If ?_)); k_fold; k_steps; (all_goals try clear qk); (all_goals try clear ek)
                · refine execsG_cons (execG_append ?_ rfl)
                  k_fold; k_steps; (all_goals try clear qk); (all_goals try clear ek)
                  (with_reducible rename Fr s.heap _ _ _ => kF); (with_reducible rename News s.heap _ _ _ => kN)
                  refine ⟨O, _, rfl, kN.get (List.Mem.head _), ?_⟩
                  dsimp only
                  k_fold; k_steps; (all_goals try clear qk); (all_goals try clear ek)
                  (with_reducible rename Fr s.heap _ _ _ => kF); (with_reducible rename News s.heap _ _ _ => kN)
                  refine appendGK rfl kF kN (by decide) (by decide) (by rw [sizeLine_eq, Array.size_append]; have := part_arr b i; omega) ?_
                  intro h'' F'' N''
                  clear kF kN
                  refine ⟨rfl, ?_⟩
                  repeat refine execsG_nil ?_
                  (with_reducible rename Fr s.heap _ _ _ => kF); (with_reducible rename News s.heap _ _ _ => kN)
                  refine ⟨b.size - (i + (b.getD i 0).toNat), by omega, _, _, i + (b.getD i 0).toNat, _, _, _, rfl, by omega, rfl, fr_shape3 kF (congrArg (fun k => some (Value.int k _)) (show (i : Int) + 1 + (((b.getD i 0).toNat : Nat) : Int) - 1 = ((i + (b.getD i 0).toNat : Nat) : Int) from by omega)) rfl rfl, kN, ?_, ?_⟩
                  · rw [Array.size_push, Array.size_append]
                    have h1 := part_arr2 b i
                    have h2 := u8_pos (code_ne hlen)
                    omega
                  · rw [hdec, dec_more hi hlen hcl (by omega), if_pos (lt255.mp (by assumption)), Option.map_map]
                    congr 1
                    funext t
                    simp
                · repeat refine execsG_nil ?_
                  (with_reducible rename Fr s.heap _ _ _ => kF); (with_reducible rename News s.heap _ _ _ => kN)
                  refine ⟨b.size - (i + (b.getD i 0).toNat), by omega, _, _, i + (b.getD i 0).toNat, _, _, _, rfl, by omega, rfl, fr_shape3 kF (congrArg (fun k => some (Value.int k _)) (show (i : Int) + 1 + (((b.getD i 0).toNat : Nat) : Int) - 1 = ((i + (b.getD i 0).toNat : Nat) : Int) from by omega)) rfl rfl, kN, ?_, ?_⟩
                  · rw [Array.size_append]
                    have h1 := part_arr2 b i
                    have h2 := u8_pos (code_ne hlen)
                    omega
                  · rw [hdec, dec_more hi hlen hcl (by omega), if_neg (fun q => by have := lt255.mpr q; omega), Option.map_map]
                    congr 1
                    funext t
                    simp
              · (refine execsG_consA ?_); k_fold; k_steps; (all_goals try clear qk); (all_goals try clear ek)
                repeat refine execsG_nil ?_
                (refine execsG_consA ?_); k_fold; k_steps; (all_goals try clear qk); (all_goals try clear ek)
                (with_reducible rename Fr s.heap _ _ _ => kF)
                refine hok2 _ _ _ _ ?_ kF.keep
                rw [hdec, dec_whole hi hlen hcl (by omega)]
                simp
      · (with_reducible rename Fr s.heap _ _ _ => kF); (with_reducible rename News s.heap _ _ _ => kN)
        exact ⟨_, _, 0, #[], _, _, rfl, by omega, rfl, kF, kN, Nat.le_refl _, by simp⟩
    · repeat refine execsG_nil ?_
      (refine execsG_consA ?_); k_fold; k_steps; (all_goals try clear qk); (all_goals try clear ek)
      (with_reducible rename Fr s.heap _ _ _ => kF); (with_reducible rename News s.heap _ _ _ => kN)
      refine hok2 _ _ _ _ ?_ kF.keep
      have hb0 : b = #[] := Array.eq_empty_of_size_eq_zero (by omega)
      rw [hb0, dec]
  · (refine execsG_cons (execG_If ?_)); k_fold; k_steps; (all_goals try clear qk); (all_goals try clear ek)
    refine execsG_nil ?_
    (refine execsG_consA ?_); k_fold; k_steps; (all_goals try clear qk); (all_goals try clear ek)
    (refine execsG_cons (execG_Assign_Name (evalG_Call ?_))); k_fold; k_steps; (all_goals try clear qk); (all_goals try clear ek)
    (with_reducible rename Fr s.heap _ _ _ => kF); (with_reducible rename News s.heap _ _ _ => kN)
    refine callWithG_type0 (makeG0K rfl kF kN ?_)
    intro O hO FO NO hOne
    clear kF kN
    k_fold; k_steps; (all_goals try clear qk); (all_goals try clear ek)
    (refine execsG_consA ?_); k_fold; k_steps; (all_goals try clear qk); (all_goals try clear ek)
    (refine execsG_cons (execG_If ?_)); k_fold; k_steps; (all_goals try clear qk); (all_goals try clear ek)
    · refine execsG_cons ?_
      refine execG_While (by passes_own) rfl (fun n s' => ∃ (h' : Heap) (tk : Nat) (i : Nat) (ob : Array UInt8) (u : Str → Option Value) (ti : Tok), s' = { s with heap := h', toks := tk } ∧ i < b.size ∧ n = b.size - i ∧
        Fr s.heap s.heap.objs.size h' (fun y => if y = Str.ofString "idx" then some (.int (i : Int) ti) else if y = Str.ofString "out_bytes" then some (.ref O) else if y = Str.ofString "in_bytes_mv" then some (Value.ref a) else u y) ∧
        News s.heap s.heap.objs.size h' [(O, baObj ob)] ∧ ob.size ≤ 2 * i ∧ dec b.toList = (dec (b.toList.drop i)).map (ob.toList ++ ·)) ?_ b.size ?_
      · rintro n s' ⟨h', tk, i, ob, u, ti, rfl, hi, rfl, F', N', hsz, hdec⟩
        k_fold; k_steps; (all_goals try clear qk); (all_goals try clear ek)
        (refine execsG_consA ?_); k_fold; k_steps; (all_goals try clear qk); (all_goals try clear ek)
        simp only [Int.toNat_natCast] at *
        (refine execsG_cons (execG_If ?_)); k_fold; k_steps; (all_goals try clear qk); (all_goals try clear ek)
        · (refine execsG_consA ?_); k_fold; k_steps; (all_goals try clear qk); (all_goals try clear ek)
          (with_reducible rename Heap.MadeExcOf _ _ _ _ _ => hx); (with_reducible rename Fr s.heap _ _ _ => kF)
          refine raise_out B₀ F₀ N₀ hf hke kF hx fun h'' t g a1 a2 a3 => herr h'' _ _ t _ g ?_ a1 a2 a3
          rw [hdec, dec_code0 hi (by assumption)]; rfl
        · rename ((_ : Int) ≠ 0) => hlen
          refine execsG_nil ?_
          (refine execsG_consA ?_); k_fold; k_steps; (all_goals try clear qk); (all_goals try clear ek)
          (refine execsG_consA ?_); k_fold; k_steps; (all_goals try clear qk); (all_goals try clear ek)
          (refine execsG_consA ?_); k_fold; k_steps; (all_goals try clear qk); (all_goals try clear ek)
          have hpk := picked_part (b := b) (i := i) hi hlen rfl rfl
          simp only [hpk] at *
          have hpa := part_arr b i
          (refine execsG_cons (execG_If ?_)); k_fold; k_steps; (all_goals try clear qk); (all_goals try clear ek)
          · (refine execsG_consA ?_); k_fold; k_steps; (all_goals try clear qk); (all_goals try clear ek)
            (with_reducible rename Heap.MadeExcOf _ _ _ _ _ => hx); (with_reducible rename Fr s.heap _ _ _ => kF)
            refine raise_out B₀ F₀ N₀ hf hke kF hx fun h'' t g a1 a2 a3 => herr h'' _ _ t _ g ?_ a1 a2 a3
            rw [hdec, dec_part0 hi hlen (by assumption)]; rfl
          · rename (Array.contains _ _ = false) => hcl0
            have hcl := ne_true_of_eq_false hcl0
            refine execsG_nil ?_
            (refine execsG_cons (execG_AugAssign_Name ?_)); k_fold; k_steps; (all_goals try clear qk); (all_goals try clear ek)
            (with_reducible rename Fr s.heap _ _ _ => kF); (with_reducible rename News s.heap _ _ _ => kN)
            refine iaddGK (ob := ob) (c := (part b i).toArray) rfl kF (news_sub kN (fun p hp => List.mem_cons_of_mem _ hp)) (.inr ⟨_, rfl, kN.get (List.Mem.head _)⟩) (fun e => by rename (∀ p ∈ [(O, baObj ob)], p.1 ≠ _) => hD; cases e; exact hD _ (List.Mem.head _) rfl) (by rw [sizeLine_eq]; have := part_arr b i; omega) ?_
            intro h'' F'' N''
            clear kF kN
            k_fold; k_steps; (all_goals try clear qk); (all_goals try clear ek)
            (refine execsG_consA ?_); k_fold; k_steps; (all_goals try clear qk); (all_goals try clear ek)
            (refine execsG_cons (execG_If ?_)); k_fold; k_steps; (all_goals try clear qk); (all_goals try clear ek)
            · refine execsG_cons (execG_append ?_ rfl)
              k_fold; k_steps; (all_goals try clear qk); (all_goals try clear ek)
              (with_reducible rename Fr s.heap _ _ _ => kF); (with_reducible rename News s.heap _ _ _ => kN)
              refine ⟨O, _, rfl, kN.get (List.Mem.head _), ?_⟩
              dsimp only
              k_fold; k_steps; (all_goals try clear qk); (all_goals try clear ek)
              (with_reducible rename Fr s.heap _ _ _ => kF); (with_reducible rename News s.heap _ _ _ => kN)
              refine appendGK rfl kF kN (by omega) (by have := (b.getD i 0).toNat_lt; omega) (by rw [sizeLine_eq, Array.size_append]; have := part_arr b i; omega) ?_
              intro h'' F'' N''
              clear kF kN
              refine ⟨rfl, ?_⟩
              (refine execsG_consA ?_); k_fold; k_steps; (all_goals try clear qk); (all_goals try clear ek)
              repeat refine execsG_nil ?_
              (refine execsG_consA ?_); k_fold; k_steps; (all_goals try clear qk); (all_goals try clear ek)
              (with_reducible rename Fr s.heap _ _ _ => kF)
              refine hok2 _ _ _ _ ?_ kF.keep
              rw [hdec, dec_cut hi hlen hcl (by omega), back_u8]
              simp
            · (refine execsG_cons (execG_If ?_)); k_fold; k_steps; (all_goals try clear qk); (all_goals try clear ek)
              · (refine execsG_cons (execG_If ?_)); k_fold; k_steps; (all_goals try clear qk); (all_goals try clear ek)
                · refine execsG_cons (execG_append ?_ rfl)
                  k_fold; k_steps; (all_goals try clear qk); (all_goals try clear ek)
                  (with_reducible rename Fr s.heap _ _ _ => kF); (with_reducible rename News s.heap _ _ _ => kN)
                  refine ⟨O, _, rfl, kN.get (List.Mem.head _), ?_⟩
                  dsimp only
                  k_fold; k_steps; (all_goals try clear qk); (all_goals try clear ek)
                  (with_reducible rename Fr s.heap _ _ _ => kF); (with_reducible rename News s.heap _ _ _ => kN)
                  refine appendGK rfl kF kN (by decide) (by decide) (by rw [sizeLine_eq, Array.size_append]; have := part_arr b i; omega) ?_
                  intro h'' F'' N''
                  clear kF kN
                  refine ⟨rfl, ?_⟩
                  repeat refine execsG_nil ?_
                  (with_reducible rename Fr s.heap _ _ _ => kF); (with_reducible rename News s.heap _ _ _ => kN)
                  refine ⟨b.size - (i + (b.getD i 0).toNat), by omega, _, _, i + (b.getD i 0).toNat, _, _, _, rfl, by omega, rfl, fr_shape3 kF (congrArg (fun k => some (Value.int k _)) (show (i : Int) + 1 + (((b.getD i 0).toNat : Nat) : Int) - 1 = ((i + (b.getD i 0).toNat : Nat) : Int) from by omega)) rfl rfl, kN, ?_, ?_⟩
                  · rw [Array.size_push, Array.size_append]
                    have h1 := part_arr2 b i
                    have h2 := u8_pos (code_ne hlen)
                    omega
                  · rw [hdec, dec_more hi hlen hcl (by omega), if_pos (lt255.mp (by assumption)), Option.map_map]
                    congr 1
                    funext t
                    simp
                · repeat refine execsG_nil ?_
                  (with_reducible rename Fr s.heap _ _ _ => kF); (with_reducible rename News s.heap _ _ _ => kN)
                  refine ⟨b.size - (i + (b.getD i 0).toNat), by omega, _, _, i + (b.getD i 0).toNat, _, _, _, rfl, by omega, rfl, fr_shape3 kF (congrArg (fun k => some (Value.int k _)) (show (i : Int) + 1 + (((b.getD i 0).toNat : Nat) : Int) - 1 = ((i + (b.getD i 0).toNat : Nat) : Int) from by omega)) rfl rfl, kN, ?_, ?_⟩
                  · rw [Array.size_append]
                    have h1 := part_arr2 b i
                    have h2 := u8_pos (code_ne hlen)
                    omega
                  · rw [hdec, dec_more hi hlen hcl (by omega), if_neg (fun q => by have := lt255.mpr q; omega), Option.map_map]
                    congr 1
                    funext t
                    simp
              · (refine execsG_consA ?_); k_fold; k_steps; (all_goals try clear qk); (all_goals try clear ek)
                repeat refine execsG_nil ?_
                (refine execsG_consA ?_); k_fold; k_steps; (all_goals try clear qk); (all_goals try clear ek)
                (with_reducible rename Fr s.heap _ _ _ => kF)
                refine hok2 _ _ _ _ ?_ kF.keep
                rw [hdec, dec_whole hi hlen hcl (by omega)]
                simp
      · (with_reducible rename Fr s.heap _ _ _ => kF); (with_reducible rename News s.heap _ _ _ => kN)
        exact ⟨_, _, 0, #[], _, _, rfl, by omega, rfl, kF, kN, Nat.le_refl _, by simp⟩
    · repeat refine execsG_nil ?_
      (refine execsG_consA ?_); k_fold; k_steps; (all_goals try clear qk); (all_goals try clear ek)
      (with_reducible rename Fr s.heap _ _ _ => kF); (with_reducible rename News s.heap _ _ _ => kN)
      refine hok2 _ _ _ _ ?_ kF.keep
      have hb0 : b = #[] := Array.eq_empty_of_size_eq_zero (by omega)
      rw [hb0, dec]
end Mine
end

section
open PySem PySem.W PyProof.Rows
set_option Elab.async false
namespace Mine
section
variable {prog : Program} {w : World} {A : Around} {E : Value → Shared → Prop} {s : Shared} {K : Frag} {L : Addr} {h₀ : Heap} {m : Str → Option Value}

theorem codeG_enter0 {R : Result → Shared → Prop} {name qual : Str} {params : Arguments} {body : List Stmt} {scope : Scope} {dV kV doc pm cdv ct oc : Value} {an od : Option Addr} {osl : Array (Option Value)} {f : Addr} {args : Args} {binds : List (Str × Value)}
    (X : K.In s.heap) (hlim : s.heap.NoLimit)
    (ho : K.lookup f = some ⟨oc, od, .func (fnOf name qual params body scope dV kV doc pm an cdv ct), osl⟩) (hcd : codeIn K cdv qual = true) (hroom : A.depth < recursionLimit)
    (hbind : BindsTo s (fnOf name qual params body scope dV kV doc pm an cdv ct) args binds) (hloc : ∀ y ∈ binds, scope.names.lookup y.1 = some .local)
    (h : ∀ h₁, Fr s.heap s.heap.objs.size h₁ (fun y => binds.reverse.lookup y) →
      wpG (model prog w) (A.deeper (envOf qual scope s.heap.objs.size f cdv)) (execs body (envOf qual scope s.heap.objs.size f cdv))
        (fun fl s' => R (.ok (.ret (match fl with | .ret v => v | _ => .none))) s')
        (fun e s' => wpAny (model prog w) (A.deeper (envOf qual scope s.heap.objs.size f cdv)) (leaving (envOf qual scope s.heap.objs.size f cdv) e) (fun _ s'' => R (.error e) s'') (fun e' s'' => R (.error e') s'') s')
        { s with heap := h₁, toks := s.toks + binds.length })
    (hco : scope.isCoroutine = false) (hgen : scope.isGenerator = false) (hk : scope.kind = .function)
    (hcell : ∀ x ∈ scope.names, x.2 ≠ .cell) : codeG (model prog w) A (.call (.ref f) args) R s := by
  refine codeG_call_def (fd := fnOf name qual params body scope dV kV doc pm an cdv ct) (body := body) (binds := binds) hroom (X _ _ ho) rfl hlim (codeRec_of X hcd) rfl hbind hcell hloc (fun h₁ hns hk₁ => ?_) hco hgen hk
  exact h h₁ ⟨hns, hk₁, Nat.le_refl _⟩
end
end Mine
end

section
open PySem PySem.W PyProof.Rows
set_option Elab.async false
namespace Mine
/-- A block of statements goes on, into P. -/
def Ends (P : Shared → Prop) (f : Flow) (s' : Shared) : Prop := f = .next ∧ P s'
section
variable {prog : Program} {w : World} {A : Around} {E : Value → Shared → Prop} {s : Shared} {env : Env}
theorem cut_wp (P : Shared → Prop) {rest : List Stmt} {Q : Flow → Shared → Prop} (h2 : ∀ s', P s' → wpG (model prog w) A (execs rest env) Q E s') {Γ : Ctx} (hΓ : Γ.In A) (g : Good Γ) :
    ∀ (l : List Stmt) (p : Pos) (s : Shared), Sem.wp (model prog w) Γ (execs l env) (fun f _ s' => Ends P f s') (fun e _ s' => E e s') p s → Sem.wp (model prog w) Γ (execs (l ++ rest) env) (fun f _ s' => Q f s') (fun e _ s' => E e s') p s
  | [], p, s, h => h2 _ h.2 Γ p hΓ g
  | st :: l, p, s, h => by
    rw [execs_cons, Sem.wp_bind'] at h
    show Sem.wp _ Γ (execs (st :: (l ++ rest)) env) _ _ p s
    rw [execs_cons, Sem.wp_bind']
    refine Sem.wp_mono _ Γ _ (fun f p' s' h' => ?_) (fun _ _ _ x => x) p s h
    cases f with
    | next => exact cut_wp P h2 hΓ g l p' s' h'
    | brk => exact absurd h'.1 (by intro e; cases e)
    | cont => exact absurd h'.1 (by intro e; cases e)
    | ret v => exact absurd h'.1 (by intro e; cases e)
theorem execsG_cut1 (P : Shared → Prop) {a : Stmt} {rest : List Stmt} {Q : Flow → Shared → Prop} (h1 : wpAny (model prog w) A (execs [a] env) (Ends P) E s)
    (h2 : ∀ s', P s' → wpG (model prog w) A (execs rest env) Q E s') : wpG (model prog w) A (execs (a :: rest) env) Q E s := fun Γ p hΓ g => cut_wp P h2 hΓ g [a] p s (h1 Γ p hΓ)
theorem execsG_cut4 (P : Shared → Prop) {a b c d : Stmt} {rest : List Stmt} {Q : Flow → Shared → Prop} (h1 : wpAny (model prog w) A (execs [a, b, c, d] env) (Ends P) E s)
    (h2 : ∀ s', P s' → wpG (model prog w) A (execs rest env) Q E s') : wpG (model prog w) A (execs (a :: b :: c :: d :: rest) env) Q E s := fun Γ p hΓ g => cut_wp P h2 hΓ g [a, b, c, d] p s (h1 Γ p hΓ)

/-- Where the row stands, its ints rs, as the law builds it. -/
def RowAt (s : Shared) (ns : List Int) (lim : Nat) (s' : Shared) : Prop :=
  ∃ (h' : Heap) (tk : Nat) (u : Str → Option Value) (R : Addr) (vs : List Value) (rs : List Int) (kr : Nat) (c fst : Int) (tc tf : Tok) (Nn : Addr) (nvs : List Value) (kn : Nat),
    s' = { s with heap := h', toks := tk } ∧
    Fr s.heap s.heap.objs.size h' (fun y => if y = Str.ofString "row" then some (.ref R) else if y = Str.ofString "code" then some (.int c tc) else if y = Str.ofString "first" then some (.int fst tf) else if y = Str.ofString "numbers" then some (.ref Nn) else u y) ∧
    News s.heap s.heap.objs.size h' [(R, W.listOf vs.toArray kr), (Nn, W.listOf nvs.toArray kn)] ∧ IntsAre vs rs ∧ IntsAre nvs (ns.take 16) ∧ (∀ n ∈ rs, 0 ≤ n ∧ n < 256) ∧ rs.length ≤ lim ∧ (0 < c → rs ≠ []) ∧ R ≠ Nn

theorem fr_shape4 {g h : Heap} {L : Addr} {m : Str → Option Value} {x1 x2 x3 x4 : Str} {v1 v2 v3 v4 : Value} (F : Fr g L h m) (h1 : m x1 = some v1) (h2 : m x2 = some v2) (h3 : m x3 = some v3) (h4 : m x4 = some v4) :
    Fr g L h (fun y => if y = x1 then some v1 else if y = x2 then some v2 else if y = x3 then some v3 else if y = x4 then some v4 else m y) := by
  have e : (fun y => if y = x1 then some v1 else if y = x2 then some v2 else if y = x3 then some v3 else if y = x4 then some v4 else m y) = m := by
    funext y
    by_cases e1 : y = x1
    · rw [if_pos e1, e1, h1]
    rw [if_neg e1]
    by_cases e2 : y = x2
    · rw [if_pos e2, e2, h2]
    rw [if_neg e2]
    by_cases e3 : y = x3
    · rw [if_pos e3, e3, h3]
    rw [if_neg e3]
    by_cases e4 : y = x4
    · rw [if_pos e4, e4, h4]
    rw [if_neg e4]
  rw [e]; exact F
end
end Mine
end

section
open PySem PySem.W PyProof.Rows
set_option Elab.async false
namespace Mine
section
variable {prog : Program} {w : World} {A : Around} {E : Value → Shared → Prop} {s : Shared} {h₀ : Heap} {L : Addr} {m : Str → Option Value} {news : List (Addr × Obj)}
theorem addK {a b : Addr} {v : Value} {xs ys : List Value} {Q : Value → Shared → Prop} (F : Fr h₀ L s.heap m) (N : News h₀ L s.heap news) (hl : s.heap.IsList a (v :: xs).toArray) (hb : s.heap.IsList b ys.toArray) (hsz : (v :: xs).length + ys.length ≤ sizeLine)
    (h : ∀ D h', Fr h₀ L h' m → News h₀ L h' ((D, W.listOf (v :: (xs ++ ys)).toArray 0) :: news) → (∀ p ∈ news, p.1 < D) → Q (.ref D) { s with heap := h' }) :
    wpAny (model prog w) A (binaryOp .Add (.ref a) (.ref b)) Q E s :=
  add_lists (vs := v :: xs) (ws := ys) (hsz := hsz) F N hl hb fun h' F' N' => h _ h' F' N' fun p hp => Heap.lt_size (N p hp).1
theorem ints_rep (x : Int) (t : Tok) : ∀ n : Nat, IntsAre (List.replicate n [Value.int x t]).flatten (List.replicate n [x]).flatten
  | 0 => .nil
  | n + 1 => by
    rw [List.replicate_succ, List.replicate_succ]
    exact .cons x t (ints_rep x t n)
theorem rep_len (x : Value) (n : Nat) : ((List.replicate n [x]).flatten).length = n := by
  induction n with
  | zero => rfl
  | succ n ih => rw [List.replicate_succ]; simp only [List.flatten_cons, List.length_append, List.length_singleton, ih]; omega
theorem rep_lenI (x : Int) (n : Nat) : ((List.replicate n [x]).flatten).length = n := by
  induction n with
  | zero => rfl
  | succ n ih => rw [List.replicate_succ]; simp only [List.flatten_cons, List.length_append, List.length_singleton, ih]; omega
theorem rep_mem {x y : Int} {n : Nat} (h : y ∈ (List.replicate n [x]).flatten) : y = x := by
  obtain ⟨l, h1, h2⟩ := List.mem_flatten.mp h
  rw [List.eq_of_mem_replicate h1] at h2
  exact List.mem_singleton.mp h2
/-- A code and its like octets. -/
theorem long_in {c x : Int} {n : Nat} (hc : 0 ≤ c ∧ c < 256) (hx : 0 ≤ x ∧ x < 256) : ∀ y ∈ c :: ([] ++ (List.replicate n [x]).flatten), 0 ≤ y ∧ y < 256 := by
  intro y hy
  rcases List.mem_cons.mp hy with rfl | hy
  · exact hc
  · have hy' : y ∈ (List.replicate n [x]).flatten := by simpa using hy
    have := rep_mem hy'
    subst this
    exact hx
end
end Mine
end

section
open PySem PySem.W PyProof.Rows
set_option Elab.async false
set_option maxRecDepth 100000
namespace Mine
theorem lm_rows : Manifest.owners.lookup (String.ofList ['t', 's', 'i', 'l'].reverse) = some Manifest.sig_list := by kernel_rfl
theorem lm_slot_iadd : Slot "list" "__iadd__" "list.__iadd__" :=
  .of (owner := "list") (n := "__iadd__") (by rw [typeLookup_type, builtinLookup_eq_fast]; kernel_rfl) (by decide +kernel) (by decide +kernel) (by decide +kernel)
    (by first | exact .inl (by decide +kernel) | exact .inr (by decide +kernel)) (by rw [isSubtype_type]; kernel_rfl)
theorem lm_args_iadd (a b : Value) : argsOk "list.__iadd__" ⟨[a, b], []⟩ := by
  unfold argsOk; rw [signature?_of (id := "list.__iadd__") (n := ['_', '_', 'd', 'd', 'a', 'i', '_', '_']) (o := ['t', 's', 'i', 'l']) (by kernel_rfl) lm_rows]; kernel_rfl
section
variable {prog : Program} {w : World} {A : Around} {E : Value → Shared → Prop} {s : Shared} {h₀ : Heap} {L : Addr} {m : Str → Option Value} {news news' : List (Addr × Obj)}
/-- row += other -/
theorem listIaddK {D C : Addr} {vs ws : List Value} {n : Nat} {k : Nat} {Q : Value → Shared → Prop} (F : Fr h₀ L s.heap m) (N : News h₀ L s.heap ((D, W.listOf vs.toArray n) :: news)) (hD : ∀ p ∈ news, p.1 ≠ D)
    (hC : s.heap.get? C = some (W.listOf ws.toArray k)) (hsz : vs.length + ws.length ≤ 1000)
    (h : ∀ h' n', Fr h₀ L h' m → News h₀ L h' ((D, W.listOf (vs ++ ws).toArray n') :: news) → Q (.ref D) { s with heap := h' }) :
    wpG (model prog w) A (inplaceOp .Add (.ref D) (.ref C)) Q E s := by
  have z := N (D, W.listOf vs.toArray n) (.head _)
  have hDo : s.heap.get? D = some (W.listOf vs.toArray n) := z.1
  have tD : s.TypeIs (.ref D) "list" := ⟨_, hDo, rfl⟩
  have tC : s.TypeIs (.ref C) "list" := ⟨_, hC, rfl⟩
  refine inplaceG_seq tD tC list_iadd_look list_iadd_seq list_noFill list_noFill ?_
  refine callG_slot lm_slot_iadd rfl tD PySem.F.entry_list_iadd (lm_args_iadd _ _) (wpG_of ?_)
  unfold Builtin.«list.__iadd__»
  refine wpAny_bind (wpAny_of_eq (a := (.ref D, [.ref C])) rfl ?_)
  dsimp only
  unfold Builtin.List.listExtendWith
  refine wpAny_bind (wpAny_typeOf tC ?_)
  have h1 : (Builtin.List.listSameRef (.ref D) (.ref C) || Value.type "list" == Value.type "list" || Value.type "list" == Value.type "tuple") = true := by simp
  simp only [h1, if_true]
  refine wpAny_bind ?_
  unfold Builtin.List.listItems
  refine wpAny_bind (wpAny_seqItems hC rfl (wpAny_pure ?_))
  refine wpAny_bind ?_
  refine wpAny_bind (wpAny_seqItems hDo rfl (wpAny_pure ?_))
  have hz : vs.length + ws.length ≤ sizeLine := Nat.le_trans hsz (by rw [sizeLine_eq]; decide)
  have hl : (!vs.toArray.isEmpty && Builtin.List.listTooLong (vs.toArray.size + ws.toArray.size)) = false := by
    have : Builtin.List.listTooLong (vs.toArray.size + ws.toArray.size) = false := by
      unfold Builtin.List.listTooLong
      simp only [List.size_toArray]
      exact decide_eq_false (Nat.not_lt.mpr hz)
    rw [this, Bool.and_false]
  refine bm_if_false hl ?_
  show wpAny _ A.in1 (updateSeq D (· ++ ws.toArray) >>= fun _ => ret (.ref D)) _ _ s
  refine wpAny_bind (wpAny_updateSeq hDo rfl ?_ (by simp only [List.size_toArray]; omega) (by simp only [Array.size_append, List.size_toArray]; omega))
  exact wpAny_pure ⟨_, rfl, h _ _ (F.change (Heap.SameBut.update ..) z.2.1 z.2.2) (ki_turn (pre := []) (its' := (vs ++ ws).toArray) (· ++ ws.toArray) N (fun _ q => nomatch q) hD (by simp) rfl)⟩
end
end Mine
end

section
open PySem PySem.W PyProof.Rows
set_option Elab.async false
namespace Mine
/-- The row and where its trials start. -/
def Row7 (s : Shared) (ns : List Int) (s' : Shared) : Prop :=
  ∃ (h' : Heap) (tk : Nat) (u : Str → Option Value) (R : Addr) (vs : List Value) (rs : List Int) (kr : Nat) (st : Int) (ts : Tok) (Nn : Addr) (nvs : List Value) (kn : Nat),
    s' = { s with heap := h', toks := tk } ∧
    Fr s.heap s.heap.objs.size h' (fun y => if y = Str.ofString "start" then some (.int st ts) else if y = Str.ofString "row" then some (.ref R) else if y = Str.ofString "numbers" then some (.ref Nn) else u y) ∧
    News s.heap s.heap.objs.size h' [(R, W.listOf vs.toArray kr), (Nn, W.listOf nvs.toArray kn)] ∧ IntsAre vs rs ∧ IntsAre nvs (ns.take 16) ∧ (∀ n ∈ rs, 0 ≤ n ∧ n < 256) ∧ rs.length ≤ 257 ∧ R ≠ Nn

/-- The trials' turn: the reading of l is in text, last and wanted. -/
def LoopAt (s : Shared) (rows l : List Int) (news : List (Addr × Obj)) (s' : Shared) : Prop :=
  ∃ (h' : Heap) (tk : Nat) (u : Str → Option Value) (R Tx : Addr) (vs tvs : List Value) (kr kt : Nat) (st : Int) (ts tl tw : Tok),
    s' = { s with heap := h', toks := tk } ∧
    Fr s.heap s.heap.objs.size h' (fun y => if y = Str.ofString "wanted" then some (.int (l.foldl Rd.take Rd.start).wanted tw) else if y = Str.ofString "last" then some (.int (l.foldl Rd.take Rd.start).last tl) else if y = Str.ofString "text" then some (.ref Tx) else if y = Str.ofString "row" then some (.ref R) else if y = Str.ofString "start" then some (.int st ts) else u y) ∧
    News s.heap s.heap.objs.size h' ((Tx, W.listOf tvs.toArray kt) :: (R, W.listOf vs.toArray kr) :: news) ∧ IntsAre vs rows ∧ IntsAre tvs (l.foldl Rd.take Rd.start).text ∧ R < Tx ∧ ∀ p ∈ news, p.1 ≠ R ∧ p.1 ≠ Tx

theorem fr_shape5 {g h : Heap} {L : Addr} {m : Str → Option Value} {x1 x2 x3 x4 x5 : Str} {v1 v2 v3 v4 v5 : Value} (F : Fr g L h m) (h1 : m x1 = some v1) (h2 : m x2 = some v2) (h3 : m x3 = some v3) (h4 : m x4 = some v4) (h5 : m x5 = some v5) :
    Fr g L h (fun y => if y = x1 then some v1 else if y = x2 then some v2 else if y = x3 then some v3 else if y = x4 then some v4 else if y = x5 then some v5 else m y) := by
  have e : (fun y => if y = x1 then some v1 else if y = x2 then some v2 else if y = x3 then some v3 else if y = x4 then some v4 else if y = x5 then some v5 else m y) = m := by
    funext y
    by_cases e1 : y = x1
    · rw [if_pos e1, e1, h1]
    rw [if_neg e1]
    by_cases e2 : y = x2
    · rw [if_pos e2, e2, h2]
    rw [if_neg e2]
    by_cases e3 : y = x3
    · rw [if_pos e3, e3, h3]
    rw [if_neg e3]
    by_cases e4 : y = x4
    · rw [if_pos e4, e4, h4]
    rw [if_neg e4]
    by_cases e5 : y = x5
    · rw [if_pos e5, e5, h5]
    rw [if_neg e5]
  rw [e]; exact F
section
variable {prog : Program} {w : World} {A : Around} {E : Value → Shared → Prop} {s : Shared} {env : Env}
theorem execsG_cut3 (P : Shared → Prop) {a b c : Stmt} {rest : List Stmt} {Q : Flow → Shared → Prop} (h1 : wpAny (model prog w) A (execs [a, b, c] env) (Ends P) E s)
    (h2 : ∀ s', P s' → wpG (model prog w) A (execs rest env) Q E s') : wpG (model prog w) A (execs (a :: b :: c :: rest) env) Q E s := fun Γ p hΓ g => cut_wp P h2 hΓ g [a, b, c] p s (h1 Γ p hΓ)
end
end Mine
end

section
open PySem PySem.W PyProof.Rows
set_option Elab.async false
namespace Mine
def riObj (x left : Int) : Obj := { cls := .type "range_iterator", dict := none, data := .fields #[rawInt x, rawInt left, rawInt 1], slots := #[] }
section
variable {prog : Program} {w : World} {A : Around} {E : Value → Shared → Prop} {s : Shared} {h₀ : Heap} {L : Addr} {m : Str → Option Value} {news : List (Addr × Obj)} {env : Env}
theorem rng_small {n : Nat} (hn : n ≤ 1000) : Builtin.Range.small 0 ((n : Int) + 1) 1 = true ∧ Builtin.Range.rangeSize 0 ((n : Int) + 1) 1 = (n : Int) + 1 := by
  have e : Builtin.Range.rangeSize 0 ((n : Int) + 1) 1 = (n : Int) + 1 := by
    unfold Builtin.Range.rangeSize
    simp
  refine ⟨?_, e⟩
  unfold Builtin.Range.small
  rw [e]
  unfold Builtin.Range.rangeFitsLong
  simp
  omega
theorem rngIterK {r : Addr} {n : Nat} {t u v : Tok} {Q : Value → Shared → Prop} (hn : n ≤ 1000) (hr : IsRange s.heap r 0 ((n : Int) + 1) 1 t u v) (F : Fr h₀ L s.heap m) (N : News h₀ L s.heap news)
    (h : ∀ I h', Fr h₀ L h' m → News h₀ L h' ((I, riObj 0 ((n : Int) + 1)) :: news) → (∀ p ∈ news, p.1 < I) → Q (.ref I) { s with heap := h' }) : wpAny (model prog w) A (pyIter (.ref r)) Q E s := by
  refine wpAny_pyIter_range hr (rng_small hn).1 (h _ _ (F.push _) ?_ fun p hp => Heap.lt_size (N p hp).1)
  rw [(rng_small hn).2]
  intro p hp
  rcases List.mem_cons.mp hp with rfl | hp
  · exact ⟨Heap.get?_push_size _ rfl, (Nat.ne_of_lt F.ns.lt).symm, next_is_new F⟩
  · exact ⟨Heap.get?_push_of_some _ (N p hp).1, (N p hp).2⟩
theorem rngNextK {I : Addr} {x left : Int} {Q : Option Value → Shared → Prop} (F : Fr h₀ L s.heap m) (N : News h₀ L s.heap ((I, riObj x left) :: news)) (hI : ∀ p ∈ news, p.1 ≠ I) (hl : 0 < left)
    (h : ∀ h', Fr h₀ L h' m → News h₀ L h' ((I, riObj (x + 1) (left - 1)) :: news) → Q (some (.int x s.toks)) { s with heap := h', toks := s.toks + 1 }) : wpAny (model prog w) A (pyNext (.ref I)) Q E s := by
  have z := N _ (.head _)
  refine wpAny_pyNext_range_item z.1 hl fun h' hit hs => h h' (F.change hs z.2.1 z.2.2) ?_
  intro p hp
  rcases List.mem_cons.mp hp with rfl | hp
  · exact ⟨hit, z.2⟩
  · have q := N p (.tail _ hp)
    exact ⟨(hs.2 _ (hI p hp)).trans q.1, q.2⟩
theorem rngEndK {I : Addr} {x left : Int} {Q : Option Value → Shared → Prop} (hh : A.handled = none) (F : Fr h₀ L s.heap m) (N : News h₀ L s.heap ((I, riObj x left) :: news)) (hl : left ≤ 0)
    (h : ∀ h', (∀ b o, h₀.get? b = some o → h'.get? b = some o) → Q none { s with heap := h' }) : wpAny (model prog w) A (pyNext (.ref I)) Q E s := by
  have z := N _ (.head _)
  refine wpAny_pyNext_range_end hh z.1 hl fun h' he => h h' fun b o e => he b o ?_ (F.keep b o e)
  rintro rfl
  rw [z.2.2] at e; cases e
theorem execsG_cut1G (P : Shared → Prop) {a : Stmt} {rest : List Stmt} {Q : Flow → Shared → Prop} (h1 : wpG (model prog w) A (exec a env) (Ends P) E s)
    (h2 : ∀ s', P s' → wpG (model prog w) A (execs rest env) Q E s') : wpG (model prog w) A (execs (a :: rest) env) Q E s := by
  refine execsG_cons (wpG_mono h1 (fun f s' h' => ?_) fun _ _ x => x)
  cases f with
  | next => exact h2 _ h'.2
  | brk => exact absurd h'.1 (by intro e; cases e)
  | cont => exact absurd h'.1 (by intro e; cases e)
  | ret v => exact absurd h'.1 (by intro e; cases e)
end
/-- A turn of the trials: the reading of l is in text, last and wanted; the iterator stands at k. -/
def LoopAt2 (s : Shared) (rows l : List Int) (R Tx I : Addr) (vs : List Value) (kr : Nat) (st : Int) (ts : Tok) (k : Nat) (s' : Shared) : Prop :=
  ∃ (h' : Heap) (tk : Nat) (u : Str → Option Value) (tvs : List Value) (kt : Nat) (tl tw : Tok),
    s' = { s with heap := h', toks := tk } ∧
    Fr s.heap s.heap.objs.size h' (fun y => if y = Str.ofString "wanted" then some (.int (l.foldl Rd.take Rd.start).wanted tw) else if y = Str.ofString "last" then some (.int (l.foldl Rd.take Rd.start).last tl) else if y = Str.ofString "text" then some (.ref Tx) else if y = Str.ofString "row" then some (.ref R) else if y = Str.ofString "start" then some (.int st ts) else u y) ∧
    News s.heap s.heap.objs.size h' [(I, riObj (k : Int) ((rows.length : Int) + 1 - k)), (Tx, W.listOf tvs.toArray kt), (R, W.listOf vs.toArray kr)] ∧ IntsAre tvs (l.foldl Rd.take Rd.start).text
/-- The same, with its count. -/
def TurnAt (s : Shared) (l : List Int) (R Tx I : Addr) (vs : List Value) (kr : Nat) (st : Int) (ts : Tok) (oI : Obj) (tc : Tok) (i : Int) (s' : Shared) : Prop :=
  ∃ (h' : Heap) (tk : Nat) (u : Str → Option Value) (tvs : List Value) (kt : Nat) (tl tw : Tok),
    s' = { s with heap := h', toks := tk } ∧
    Fr s.heap s.heap.objs.size h' (fun y => if y = Str.ofString "count" then some (.int i tc) else if y = Str.ofString "wanted" then some (.int (l.foldl Rd.take Rd.start).wanted tw) else if y = Str.ofString "last" then some (.int (l.foldl Rd.take Rd.start).last tl) else if y = Str.ofString "text" then some (.ref Tx) else if y = Str.ofString "row" then some (.ref R) else if y = Str.ofString "start" then some (.int st ts) else u y) ∧
    News s.heap s.heap.objs.size h' [(I, oI), (Tx, W.listOf tvs.toArray kt), (R, W.listOf vs.toArray kr)] ∧ IntsAre tvs (l.foldl Rd.take Rd.start).text
theorem fr_shape6 {g h : Heap} {L : Addr} {m : Str → Option Value} {x1 x2 x3 x4 x5 x6 : Str} {v1 v2 v3 v4 v5 v6 : Value} (F : Fr g L h m) (h1 : m x1 = some v1) (h2 : m x2 = some v2) (h3 : m x3 = some v3) (h4 : m x4 = some v4) (h5 : m x5 = some v5) (h6 : m x6 = some v6) :
    Fr g L h (fun y => if y = x1 then some v1 else if y = x2 then some v2 else if y = x3 then some v3 else if y = x4 then some v4 else if y = x5 then some v5 else if y = x6 then some v6 else m y) := by
  have e : (fun y => if y = x1 then some v1 else if y = x2 then some v2 else if y = x3 then some v3 else if y = x4 then some v4 else if y = x5 then some v5 else if y = x6 then some v6 else m y) = m := by
    funext y
    by_cases e1 : y = x1
    · rw [if_pos e1, e1, h1]
    rw [if_neg e1]
    by_cases e2 : y = x2
    · rw [if_pos e2, e2, h2]
    rw [if_neg e2]
    by_cases e3 : y = x3
    · rw [if_pos e3, e3, h3]
    rw [if_neg e3]
    by_cases e4 : y = x4
    · rw [if_pos e4, e4, h4]
    rw [if_neg e4]
    by_cases e5 : y = x5
    · rw [if_pos e5, e5, h5]
    rw [if_neg e5]
    by_cases e6 : y = x6
    · rw [if_pos e6, e6, h6]
    rw [if_neg e6]
  rw [e]; exact F
theorem fold_step {rows : List Int} {i : Nat} (hi : i < rows.length) : (rows.take (i + 1)).foldl Rd.take Rd.start = Rd.take ((rows.take i).foldl Rd.take Rd.start) (rows.getD i 0) := by
  have e : rows.take (i + 1) = rows.take i ++ [rows.getD i 0] := by
    rw [List.take_add_one]
    simp [List.getD, hi]
  rw [e, List.foldl_append]; rfl
section
variable {prog : Program} {w : World} {A : Around} {E : Value → Shared → Prop} {s : Shared} {h₀ : Heap} {L D : Addr} {m : Str → Option Value} {news news' : List (Addr × Obj)}
theorem appendLK {vs : List Value} {n : Nat} {x : Value} {Q : Value → Shared → Prop} (F : Fr h₀ L s.heap m) (N : News h₀ L s.heap news) (U : Upd D (W.listOf vs.toArray n) (W.listOf (vs ++ [x]).toArray (n + 1)) news news') (hz : vs.length ≤ 1000)
    (h : ∀ h', Fr h₀ L h' m → News h₀ L h' news' → Q .none { s with heap := h' }) : wpAny (model prog w) A (call (.builtin "list.append") [.ref D, x]) Q E s := by
  have e : (vs ++ [x]).toArray = vs.toArray.push x := by simp
  rw [e] at U
  refine append_K F N U h (by rw [List.size_toArray, sizeLine_eq]; exact Nat.le_trans hz (by decide))
end
theorem rd_len : ∀ (l : List Int) (r : Rd), (l.foldl Rd.take r).text.length ≤ r.text.length + l.length
  | [], r => Nat.le_refl _
  | x :: l, r => by
    have h := rd_len l (r.take x)
    have h2 : (r.take x).text.length ≤ r.text.length + 1 := by
      unfold Rd.take
      split
      · simp
      · dsimp only
        split <;> simp
    rw [List.foldl_cons, List.length_cons]
    omega
theorem take_w {r : Rd} {x : Int} (h : 0 < r.wanted) : r.take x = ⟨r.text ++ [x], r.last, r.wanted - 1⟩ := by unfold Rd.take; rw [if_pos h]
theorem take_z {r : Rd} {x : Int} (h : ¬ 0 < r.wanted) (h1 : 0 < r.last) (h2 : r.last < 255) : r.take x = ⟨r.text ++ [0], x, x - 1⟩ := by unfold Rd.take; rw [if_neg h, if_pos ⟨h1, h2⟩]
theorem take_n {r : Rd} {x : Int} (h : ¬ 0 < r.wanted) (h1 : ¬ (0 < r.last ∧ r.last < 255)) : r.take x = ⟨r.text, x, x - 1⟩ := by unfold Rd.take; rw [if_neg h, if_neg h1]
end Mine
end

section
open PySem PySem.W PyProof.Rows
set_option Elab.async false
namespace Mine
section
variable {prog : Program} {w : World} {A : Around} {E : Value → Shared → Prop} {s : Shared} {h₀ : Heap} {L : Addr} {m : Str → Option Value} {news : List (Addr × Obj)}
theorem bufListK {v : Value} {b : Array UInt8} {Q : Value → Shared → Prop} (hh : A.handled = none) (hv : Buf s.heap v b) (hz : b.size ≤ 1000) (F : Fr h₀ L s.heap m) (N : News h₀ L s.heap news)
    (h : ∀ D h' tk acc n', Fr h₀ L h' m → News h₀ L h' ((D, W.listOf acc.toArray n') :: news) → IntsAre acc (KBw.bInts b) → (∀ p ∈ news, p.1 < D) → Q (.ref D) { s with heap := h', toks := tk }) :
    wpAny (model prog w) A (call (.type "list") [v]) Q E s := by
  refine buf_list hh hv (fun h' tk acc' c' hk ho hi => ?_) (Nat.le_trans hz (by rw [sizeLine_eq]; decide))
  exact h _ h' tk acc'.toList c' (F.keeps hk) (news_pushed F N hk ho rfl) (ints_of_items hi) fun p hp => Heap.lt_size (N p hp).1
theorem callWithG_fnK {K : Frag} {pos : Pos} {a : Addr} {oc : Value} {od : Option Addr} {osl : Array (Option Value)} {fd : FuncData} {t : Sem Value} {Q : Value → Shared → Prop} (X : K.In h₀) (ho : K.lookup a = some ⟨oc, od, .func fd, osl⟩)
    (h : wpAny (model prog w) A t (fun v s₁ => (∀ b o, h₀.get? b = some o → s₁.heap.get? b = some o) ∧ wpG (model prog w) A (call (.ref a) [v]) Q E s₁) E s) :
    wpG (model prog w) A (callWith pos (.ref a) [] [(false, t)] []) Q E s :=
  callWithG_fn (o := ⟨oc, od, .func fd, osl⟩) (fd := fd) (wpAny_mono h (fun v s₁ h₁ => ⟨⟨(X.keeps h₁.1) _ _ ho, rfl⟩, h₁.2⟩) fun _ _ x => x)
end
theorem decK {w : World} {s : Shared} {h₀ : Heap} {L : Addr} {m : Str → Option Value} {env : Env} {news : List (Addr × Obj)} {mg mb : Str → Option Value} {Q E : _} {v : Value} {b : Array UInt8}
    (X : (Mine.hd.heap_39 w.params).In h₀) (T : TopRead Mine.hd.view_39 (looseW Mine.hd.view_39 []) mg mb h₀) (F : Fr h₀ L s.heap m) (N : News h₀ L s.heap news) (hf : env.frame = some L) (hke : env.scope.kind = .function)
    (hv : Buf s.heap v b) (hz : b.size ≤ 1000)
    (hok : ∀ d h' tk t, dec b.toList = some d → Fr h₀ L h' m → News h₀ L h' news → Q (.bytes d.toArray t) { s with heap := h', toks := tk })
    (herr : ∀ h' tk e t vs g, dec b.toList = none → Fr h₀ L g m → g.UpToSlots h' → RaisedK h₀ [env] e (.ref 24) t vs news h' → E (.ref e) { s with heap := h', toks := tk }) :
    wpG (model Challenge.rw_nc0005_01.row.prog w) (callerA.deeper env) (call (.ref 34) [v]) Q E s :=
  wpG_call (dec_call w s h₀ L m env news mg mb _ v b X T (below_caller _) F N hf hke hv hz (fun d h' tk t q hk => hok d h' tk t q (F.keeps hk) fun p hp => ⟨hk _ _ (N p hp).1, (N p hp).2⟩) fun h' tk e t vs g q1 q2 q3 q4 => herr h' tk e t vs g q1 q2 q3 q4)
theorem bInts_octets {ns : List Int} (hr : ∀ n ∈ ns, 0 ≤ n ∧ n < 256) : KBw.bInts (byteArr ns) = ns := toInts_octets hr
theorem byteArr_octets (ns : List Int) : (byteArr ns).toList = octets ns := rfl
theorem bInts_toArray (d : List UInt8) : KBw.bInts d.toArray = toInts d := rfl
theorem any_zero {ps : List Int} (h : (ps.any fun x => x == 0) = true) : (0 : Int) ∈ ps := by
  obtain ⟨x, hx, e⟩ := List.any_eq_true.mp h
  rw [beq_iff_eq] at e; subst e; exact hx
theorem zero_any {ps : List Int} (h : (0 : Int) ∈ ps) : ¬ (ps.any fun x => x == 0) = false := fun e => by
  rw [List.any_eq_true.mpr ⟨0, h, rfl⟩] at e; cases e
theorem told_w {r : Rd} (h : 0 < r.wanted) : r.told = r.text ++ [r.last] := by unfold Rd.told; rw [if_pos h]
theorem told_n {r : Rd} (h : ¬ 0 < r.wanted) : r.told = r.text := by unfold Rd.told; rw [if_neg h]
theorem turn_shape {s : Shared} {ps : List Int} {rd : Rd} {R Tx I : Addr} {vs tvs : List Value} {kr kt : Nat} {st i : Int} {ts tc tl tw : Tok} {oI : Obj} {h' : Heap} {tk : Nat} {m : Str → Option Value} (hrd : ps.foldl Rd.take Rd.start = rd) (F : Fr s.heap s.heap.objs.size h' m)
    (h1 : m (Str.ofString "count") = some (.int i tc)) (h2 : m (Str.ofString "wanted") = some (.int rd.wanted tw)) (h3 : m (Str.ofString "last") = some (.int rd.last tl)) (h4 : m (Str.ofString "text") = some (.ref Tx)) (h5 : m (Str.ofString "row") = some (.ref R)) (h6 : m (Str.ofString "start") = some (.int st ts))
    (N : News s.heap s.heap.objs.size h' [(I, oI), (Tx, W.listOf tvs.toArray kt), (R, W.listOf vs.toArray kr)]) (ht : IntsAre tvs rd.text) : TurnAt s ps R Tx I vs kr st ts oI tc i { s with heap := h', toks := tk } := by
  unfold TurnAt
  rw [hrd]
  exact ⟨_, _, _, _, _, _, _, rfl, fr_shape6 F h1 h2 h3 h4 h5 h6, N, ht⟩
end Mine
end

section
open PySem PySem.W PyProof.Rows
set_option Elab.async false
namespace Mine
local macro_rules | `(tactic| walk_at "binaryOp Add ref ref") => `(tactic| (k_here; (with_reducible show wpAny _ _ (binaryOp _ (Value.ref _) (Value.ref _)) _ _ _); k_dflt (refine' addK ?F ?N ?a ?b ?z ?_; (case F => k_asm); (case N => k_asm); (case a => is_list); (case b => is_list); (case z => rw [sizeLine_eq]; first | (simp only [rep_len, List.length_cons, List.length_nil]; omega) | (simp only [rep_len, List.length_cons, List.length_nil]; decide)); k_whole); intro D' h' F' N' l1; (try k_lt l1); (try k_sweep)))
local macro_rules | `(tactic| walk_at "setItem ref int") => `(tactic| (k_here; (with_reducible show wpAny _ _ (setItem (Value.ref _) (Value.int _ _) (Value.int _ _)) _ _ _); k_dflt (refine' ksa_set ?F ?N ?U ?i ?a ?b ?z ?_; (case F => k_asm); (case N => k_asm); (case U => k_upd); (case i => assumption); (case a => exact fmod_lo _ (by omega)); (case b => exact fmod_hi _ (by omega)); (case z => exact Int.lt_of_lt_of_le (fmod_hi _ (by omega)) (by omega)); k_whole); intro h' F' N'; (try k_sweep)))
local macro_rules | `(tactic| walk_at "call builtin:list.append") => `(tactic| (k_here; (with_reducible show wpAny _ _ (call (Value.builtin _) [Value.ref _, _]) _ _ _); k_dflt (refine' appendLK ?F ?N ?U ?z ?_; (case F => k_asm); (case N => k_asm); (case U => k_upd); (case z => omega); k_whole); intro h' F' N'; (try k_sweep)))
local macro_rules | `(tactic| walk_at "call type:list") => `(tactic| (k_here; (with_reducible show wpAny _ _ (call (Value.type _) [_]) _ _ _); (with_reducible rename News _ _ _ _ => nX); k_dflt (refine' bufListK rfl ?v ?z ?F ?N ?_; (case v => first | exact .inl ⟨_, rfl⟩ | exact .inr ⟨_, rfl, (nX _ (.head _)).1⟩); (case z => first | (rw [byteArr_size]; omega) | (simp only [List.size_toArray]; omega)); (case F => k_asm); (case N => exact nX); k_whole); clear nX; intro D' h' tk' acc' n' F' N' hi' l1; (try k_lt l1); (try rw [bInts_octets $(Lean.mkIdent `hli)] at hi'); (try rw [bInts_toArray, ($(Lean.mkIdent `hdt):ident)] at hi'); (try k_sweep)))
set_option maxRecDepth 100000 in
set_option maxHeartbeats 8000000 in
theorem law_call : ∀ (w : World) (s : Shared) (mg mb : Str → Option Value) (sc : Addr) (vals : List Value) (ns : List Int),
    (Mine.hd.heap_39 w.params).In s.heap → TopRead Mine.hd.view_39 (looseW Mine.hd.view_39 []) mg mb s.heap → s.heap.IsList sc vals.toArray → IntsAre vals ns → ns.length ≤ 63 →
    codeG (model Challenge.rw_nc0005_01.row.prog w) callerA (.call (.ref 39) ⟨[.ref sc], []⟩) (fun r s' => r = .ok (.ret (.bool true)) ∧ (∀ b o, s.heap.get? b = some o → s'.heap.get? b = some o) ∧ s'.os = s.os ∧ s'.gens = s.gens) s := by
  w_on
  k_fill
  intro w s mg mb sc vals ns KX T hsc hns hlen
  refine' codeG_enter0 (binds := [(Str.ofString "script", .ref sc)]) KX T.nolimit ?k6 ?k7 ?k8 ?k9 ?kB ?_ ?c2 ?c3 ?c4 ?c5
  case k6 => k_is
  case k7 => k_is
  case k8 => k_room
  case k9 => exact BindsTo.of_eq rfl
  case c5 => decide
  case kB => exact locs rfl
  case c2 => exact rfl
  case c3 => exact rfl
  case c4 => exact rfl
  intro h₁ F'
  have N' : News s.heap s.heap.objs.size h₁ [] := News.nil
  refine execsG_cut4 (RowAt s ns 255) ?_ ?_
  · k_fold; k_steps; (all_goals try clear qk); (all_goals try clear ek)
    all_goals ((with_reducible rename Fr s.heap _ _ _ => kF); (with_reducible rename News s.heap _ _ _ => kN))
    · exact ⟨rfl, _, _, _, _, [], [], _, _, _, _, _, _, _, _, rfl, fr_shape4 kF rfl rfl rfl rfl, news_sub kN (List.forall_mem_cons.mpr ⟨by k_mem, List.forall_mem_cons.mpr ⟨by k_mem, List.forall_mem_nil _⟩⟩), .nil, by assumption, by simp, by simp, by decide, by k_ne⟩
    all_goals exact ⟨rfl, _, _, _, _, _, _, _, _, _, _, _, _, _, _, rfl, fr_shape4 kF rfl rfl rfl rfl, news_sub kN (List.forall_mem_cons.mpr ⟨by k_mem, List.forall_mem_cons.mpr ⟨by k_mem, List.forall_mem_nil _⟩⟩), .cons _ _ (ints_rep _ _ _), by assumption, long_in (by decide) ⟨by have := fmod_lo ((ns.take 16 ++ [0]).getD (Int.toNat 0) 0) (n := 255) (by decide); omega, by have := fmod_hi ((ns.take 16 ++ [0]).getD (Int.toNat 0) 0) (n := 255) (by decide); omega⟩, by simp only [List.length_cons, List.nil_append, rep_lenI]; omega, fun _ => List.cons_ne_nil _ _, by k_ne⟩
  intro s' hs'
  obtain ⟨h', tk, u, R, vs, rs, kr, c, fst, tc, tf, Nn, nvs, kn, rfl, F', N', hvs, hnv, hin, hle, hne, hRN⟩ := hs'
  have hvl := hvs.length
  refine execsG_cut1 (RowAt s ns 257) ?_ ?_
  · k_fold; k_steps; (all_goals try clear qk); (all_goals try clear ek)
    all_goals ((with_reducible rename Fr s.heap _ _ _ => kF); (with_reducible rename News s.heap _ _ _ => kN))
    · refine ⟨rfl, _, _, _, _, _, _, _, _, _, _, _, _, _, _, rfl, fr_shape4 kF rfl rfl rfl rfl, news_sub kN (List.forall_mem_cons.mpr ⟨by k_mem, List.forall_mem_cons.mpr ⟨by k_mem, List.forall_mem_nil _⟩⟩), .cons 2 _ (.cons 1 _ hvs), hnv, ?_, ?_, fun _ => List.cons_ne_nil _ _, by k_ne⟩
      · intro n hn
        rcases List.mem_cons.mp hn with rfl | hn
        · decide
        rcases List.mem_cons.mp hn with rfl | hn
        · decide
        exact hin n hn
      · simp only [List.length_cons]; omega
    all_goals exact ⟨rfl, _, _, _, _, _, _, _, _, _, _, _, _, _, _, rfl, fr_shape4 kF rfl rfl rfl rfl, news_sub kN (List.forall_mem_cons.mpr ⟨by k_mem, List.forall_mem_cons.mpr ⟨by k_mem, List.forall_mem_nil _⟩⟩), hvs, hnv, hin, by omega, hne, hRN⟩
  clear F' N' hvs hnv hin hle hne hRN hvl
  clear h' tk u R vs rs kr c fst tc tf Nn nvs kn
  intro s' hs'
  obtain ⟨h', tk, u, R, vs, rs, kr, c, fst, tc, tf, Nn, nvs, kn, rfl, F', N', hvs, hnv, hin, hle, hne, hRN⟩ := hs'
  have hvl := hvs.length
  have hne2 : 0 < c → 0 < rs.length := fun q => List.length_pos_iff.mpr (hne q)
  refine execsG_cut1 (RowAt s ns 257) ?_ ?_
  · k_fold; k_steps; (all_goals try clear qk); (all_goals try clear ek)
    · refine' ksa_set F' N' (Upd.head (List.forall_mem_cons.mpr ⟨fun e => hRN e.symm, List.forall_mem_nil _⟩)) hvs ?a ?b ?z ?_
      case a => exact fmod_lo _ (by omega)
      case b => exact fmod_hi _ (by omega)
      case z => exact Int.lt_of_lt_of_le (fmod_hi _ (by omega)) (by omega)
      intro h' F' N' hI' hL' hS'
      k_fold; k_steps; (all_goals try clear qk); (all_goals try clear ek)
      (with_reducible rename Fr s.heap _ _ _ => kF); (with_reducible rename News s.heap _ _ _ => kN)
      refine ⟨rfl, _, _, _, _, _, _, _, _, _, _, _, _, _, _, rfl, fr_shape4 kF rfl rfl rfl rfl, news_sub kN (List.forall_mem_cons.mpr ⟨by k_mem, List.forall_mem_cons.mpr ⟨by k_mem, List.forall_mem_nil _⟩⟩), ints_set hvs _, hnv, ?_, ?_, ?_, hRN⟩
      · intro n hn
        rcases List.mem_or_eq_of_mem_set hn with hn | rfl
        · exact hin n hn
        · decide
      · rw [List.length_set]; exact hle
      · intro q e
        have := congrArg List.length e
        rw [List.length_set] at this
        simp only [List.length_nil] at this
        have := hne2 q
        omega
    all_goals ((with_reducible rename Fr s.heap _ _ _ => kF); (with_reducible rename News s.heap _ _ _ => kN))
    all_goals exact ⟨rfl, _, _, _, _, _, _, _, _, _, _, _, _, _, _, rfl, fr_shape4 kF rfl rfl rfl rfl, news_sub kN (List.forall_mem_cons.mpr ⟨by k_mem, List.forall_mem_cons.mpr ⟨by k_mem, List.forall_mem_nil _⟩⟩), hvs, hnv, hin, by omega, hne, hRN⟩
  clear F' N' hvs hnv hin hle hne hRN hvl hne2
  clear h' tk u R vs rs kr c fst tc tf Nn nvs kn
  intro s' hs'
  obtain ⟨h', tk, u, R, vs, rs, kr, c, fst, tc, tf, Nn, nvs, kn, rfl, F', N', hvs, hnv, hin, hle, hne, hRN⟩ := hs'
  have hvl := hvs.length
  have hnl := hnv.length
  refine execsG_cut1 (Row7 s ns) ?_ ?_
  · (try with_reducible show wpAny _ _ _ _ _ _); k_fold; k_steps; (all_goals try clear qk); (all_goals try clear ek)
    (with_reducible rename Fr s.heap _ _ _ => kF); (with_reducible rename News s.heap _ _ _ => kN)
    exact ⟨rfl, _, _, _, _, _, _, _, _, _, _, _, _, rfl, fr_shape3 kF rfl rfl rfl, kN, hvs, hnv, hin, hle, hRN⟩
  clear F' N' hvs hnv hin hle hne hRN hvl hnl
  clear h' tk u R vs rs kr c fst tc tf Nn nvs kn
  intro s' hs'
  obtain ⟨h', tk, u, R, vs, rs, kr, st, ts, Nn, nvs, kn, rfl, F', N', hvs, hnv, hin, hle, hRN⟩ := hs'
  have hvl := hvs.length
  have hnl := hnv.length
  have h16 : (ns.take 16).length ≤ 16 := by rw [List.length_take]; exact Nat.min_le_left _ _
  refine execsG_cons (execG_AugAssign_Name ?_)
  (try with_reducible show wpAny _ _ _ _ _ _); k_fold; k_steps; (all_goals try clear qk); (all_goals try clear ek)
  rename_i D0 h9 tk9 F9 N9 o9
  refine' listIaddK (D := R) (C := D0) (ws := ys) (k := ys.length) (news := [(Nn, W.listOf nvs.toArray kn)]) F9 (news_sub N9 ?q1) ?q2 ?q3 ?q4 ?_
  case q1 => exact List.forall_mem_cons.mpr ⟨by k_mem, List.forall_mem_cons.mpr ⟨by k_mem, List.forall_mem_nil _⟩⟩
  case q2 => exact List.forall_mem_cons.mpr ⟨fun e => hRN e.symm, List.forall_mem_nil _⟩
  case q3 => exact (N9 _ (.head _)).1
  case q4 => 
    have : ys.length = (List.map (fun k' => (k' + 1).fmod 256) (ns.take 16)).length := by assumption
    rw [List.length_map] at this
    omega
  intro h' n' F' N'
  have hall : ∀ n ∈ rs ++ (ns.take 16).map (fun k' => (k' + 1).fmod 256), 0 ≤ n ∧ n < 256 := by
    intro n hn
    rcases List.mem_append.mp hn with hn | hn
    · exact hin n hn
    · obtain ⟨k, _, rfl⟩ := List.mem_map.mp hn
      exact ⟨fmod_lo _ (by decide), fmod_hi _ (by decide)⟩
  have hrow : IntsAre (vs ++ ys) (rs ++ (ns.take 16).map (fun k' => (k' + 1).fmod 256)) := IntsAre.append hvs (by assumption)
  have hrl : (rs ++ (ns.take 16).map (fun k' => (k' + 1).fmod 256)).length ≤ 280 := by
    rw [List.length_append, List.length_map]; omega
  generalize (rs ++ (ns.take 16).map (fun k' => (k' + 1).fmod 256)) = rows at hall hrow hrl
  generalize vs ++ ys = rvs at N' hrow
  have N2 : News s.heap s.heap.objs.size h' [(R, W.listOf rvs.toArray n')] := news_sub N' (List.forall_mem_cons.mpr ⟨by k_mem, List.forall_mem_nil _⟩)
  clear N' N9 F9
  with_reducible show wpAny _ _ _ _ _ _
  (try with_reducible show wpAny _ _ _ _ _ _); k_fold; k_steps; (all_goals try clear qk); (all_goals try clear ek)
  refine execsG_cut3 (LoopAt s rows [] []) ?_ ?_
  · (try with_reducible show wpAny _ _ _ _ _ _); k_fold; k_steps; (all_goals try clear qk); (all_goals try clear ek)
    (with_reducible rename Fr s.heap _ _ _ => kF); (with_reducible rename News s.heap _ _ _ => kN)
    exact ⟨rfl, _, _, _, _, _, _, [], _, _, _, _, _, _, rfl, fr_shape5 kF rfl rfl rfl rfl rfl, kN, hrow, .nil, by assumption, List.forall_mem_nil _⟩
  clear hvs hnv hin hle hRN hvl hnl h16
  intro s' hs'
  obtain ⟨h', tk, u, R, Tx, vs, tvs, kr, kt, st, ts, tl, tw, rfl, F', N', hvs, htv, hRT, -⟩ := hs'
  have hvl := hvs.length
  refine execsG_cons (execG_For ?_)
  (try with_reducible show wpAny _ _ _ _ _ _); k_fold; k_steps; (all_goals try clear qk); (all_goals try clear ek)
  (with_reducible rename Fr s.heap _ _ _ => kF); (with_reducible rename News s.heap _ _ _ => kN)
  refine' rngIterK (n := rows.length) ?q1 ?q2 kF kN ?_
  case q1 => omega
  case q2 => assumption
  intro I h'' F'' N'' hI
  have hI1 : @LT.lt Nat _ Tx I := hI (Tx, _) (.head _)
  have hI2 : @LT.lt Nat _ R I := hI (R, _) (.tail _ (.head _))
  replace hRT : @LT.lt Nat _ R Tx := hRT
  clear hI kF kN
  refine' codeG_forLoop (by passes_own) (fun n s' => ∃ i : Nat, n + i = rows.length + 1 ∧ LoopAt2 s rows (rows.take i) R Tx I vs kr st ts i s') ?_ (rows.length + 1) ?q3
  case q3 => exact ⟨0, rfl, _, _, _, _, _, _, _, rfl, F'', N'', htv⟩
  clear F'' N'' htv
  repeat ((with_reducible rename Fr _ _ _ _ => zz); clear zz)
  repeat ((with_reducible rename News _ _ _ _ => zz); clear zz)
  (rename IsRange _ _ _ _ _ _ _ _ => zz); clear zz
  rintro n s' ⟨i, hni, h', tk, u, tvs, kt, tl, tw, rfl, F', N', htv⟩
  have hend : ∀ p ∈ [(Tx, W.listOf tvs.toArray kt), (R, W.listOf vs.toArray kr)], p.1 ≠ I := List.forall_mem_cons.mpr ⟨Nat.ne_of_lt hI1, List.forall_mem_cons.mpr ⟨Nat.ne_of_lt hI2, List.forall_mem_nil _⟩⟩
  rcases Nat.lt_or_ge rows.length i with hi | hi
  · refine rngEndK rfl F' N' (by omega) ?_
    intro h'' hk
    dsimp only
    refine execsG_consA ?_
    (try with_reducible show wpAny _ _ _ _ _ _); k_fold; k_steps; (all_goals try clear qk); (all_goals try clear ek)
    all_goals exact hk _ _ (by assumption)
  refine rngNextK F' N' hend (by omega) ?_
  intro h'' F'' N''
  clear F' N' hend
  dsimp only
  (try with_reducible show wpAny _ _ _ _ _ _); k_fold; k_steps; (all_goals try clear qk); (all_goals try clear ek)
  (with_reducible rename Fr s.heap _ _ _ => kF); (with_reducible rename News s.heap _ _ _ => kN)
  generalize hoI : riObj ((i : Int) + 1) _ = oI at kN
  refine execsG_cut1G (TurnAt s (rows.take i) R Tx I vs kr st ts oI tk i) ?_ ?_
  · have hbd := rd_len (rows.take i) Rd.start
    have hti : (rows.take i).length ≤ 280 := Nat.le_trans (by rw [List.length_take]; exact Nat.min_le_right _ _) hrl
    have h00 : Rd.start.text.length = 0 := rfl
    have htl := htv.length
    have hli : ∀ n ∈ rows.take i, 0 ≤ n ∧ n < 256 := fun n hn => hall n (List.mem_of_mem_take hn)
    have hlaw := law_plain hli
    generalize hrd : (rows.take i).foldl Rd.take Rd.start = rd at kF htv htl hbd hlaw
    refine execG_If ?_
    (try with_reducible show wpAny _ _ _ _ _ _); k_fold; k_steps; (all_goals try clear qk); (all_goals try clear ek)
    rotate_left
    · (with_reducible rename Fr s.heap _ _ _ => kF); (with_reducible rename News s.heap _ _ _ => kN)
      refine execsG_nil ⟨rfl, ?_⟩
      unfold TurnAt
      rw [hrd]
      exact ⟨_, _, _, _, _, _, _, rfl, kF, kN, htv⟩
    refine execsG_consA ?_
    (try with_reducible show wpAny _ _ _ _ _ _); k_fold; k_steps; (all_goals try clear qk); (all_goals try clear ek)
    rename_i hst H hw _ hhd _ _ hlt _ kF kN
    simp only [Int.toNat_natCast] at hhd
    generalize hps : rows.take i = ps at hti hli hlaw hbd hhd hrd
    have hhl := hhd.length
    clear hps
    refine execsG_cons (execG_Assign_Name (evalG_IfExp ?_))
    (try with_reducible show wpAny _ _ _ _ _ _); k_fold; k_steps; (all_goals try clear qk); (all_goals try clear ek)
    · refine evalG_Call ?_
      (try with_reducible show wpAny _ _ _ _ _ _); k_fold; k_steps; (all_goals try clear qk); (all_goals try clear ek)
      (with_reducible rename Fr s.heap _ _ _ => kF); (with_reducible rename News s.heap _ _ _ => kN)
      refine callWithG_type1 ?_
      rw [if_neg Bool.false_ne_true]
      (try with_reducible show wpAny _ _ _ _ _ _); k_fold; k_steps; (all_goals try clear qk); (all_goals try clear ek)
      (with_reducible rename Fr s.heap _ _ _ => kF); (with_reducible rename News s.heap _ _ _ => kN)
      refine' makeG1K (vs := hw) (ns := ps) rfl kF kN ?q1 hhd hli ?q2 ?_
      case q1 => is_list
      case q2 => rw [sizeLine_eq]; omega
      intro O hO FO NO hOne
      have hO1 : (@Ne Nat H O) ∧ (@Ne Nat I O) ∧ (@Ne Nat Tx O) ∧ (@Ne Nat R O) := ⟨hOne (H, _) (.head _), hOne (I, _) (.tail _ (.head _)), hOne (Tx, _) (.tail _ (.tail _ (.head _))), hOne (R, _) (.tail _ (.tail _ (.tail _ (.head _))))⟩
      clear kF kN hOne
      (try with_reducible show wpAny _ _ _ _ _ _); k_fold; k_steps; (all_goals try clear qk); (all_goals try clear ek)
      refine execsG_cons (execG_Try ?_)
      refine execsG_cons (execG_Assign_Name (evalG_Call ?_))
      (try with_reducible show wpAny _ _ _ _ _ _); k_fold; k_steps; (all_goals try clear qk); (all_goals try clear ek)
      refine' callWithG_fnK (h₀ := s.heap) KX ?q3 ?_
      case q3 => k_is
      rw [if_neg Bool.false_ne_true]
      (try with_reducible show wpAny _ _ _ _ _ _); k_fold; k_steps; (all_goals try clear qk); (all_goals try clear ek)
      (with_reducible rename Fr s.heap _ _ _ => kF); (with_reducible rename News s.heap _ _ _ => kN)
      refine' decK KX T kF kN rfl rfl (.inr ⟨O, rfl, (kN _ (.head _)).1⟩) ?q5 ?qok ?qerr
      case q5 => rw [byteArr_size]; omega
      case qok =>
        intro d h5 tk5 t5 hd5 F5 N5
        rw [byteArr_octets] at hd5
        clear kF kN
        obtain ⟨hz, hdt⟩ : 0 ∉ ps ∧ toInts d = rd.told := by
          by_cases hz : (0 : Int) ∈ ps
          · rw [hlaw.1 hz] at hd5; cases hd5
          · obtain ⟨d', e1, e2⟩ := hlaw.2 hz
            rw [e1] at hd5; cases hd5; exact ⟨hz, e2⟩
        have hdl : d.length ≤ 290 := by
          have e1 := congrArg List.length hdt
          rw [toInts_length] at e1
          have e2 : rd.told.length ≤ rd.text.length + 1 := by unfold Rd.told; split <;> simp
          omega
        (try with_reducible show wpAny _ _ _ _ _ _); k_fold; k_steps; (all_goals try clear qk); (all_goals try clear ek)
        repeat refine execsG_nil ?_
        dsimp only
        refine wpG_of ?_
        (try with_reducible show wpAny _ _ _ _ _ _); k_fold; k_steps; (all_goals try clear qk); (all_goals try clear ek)
        all_goals ((with_reducible rename Fr s.heap _ _ _ => kF); (with_reducible rename News s.heap _ _ _ => kN))
        · exact absurd (any_zero (by assumption)) hz
        · exact ⟨rfl, turn_shape hrd kF rfl rfl rfl rfl rfl rfl (news_sub kN (List.forall_mem_cons.mpr ⟨by k_mem, List.forall_mem_cons.mpr ⟨by k_mem, List.forall_mem_cons.mpr ⟨by k_mem, List.forall_mem_nil _⟩⟩⟩)) htv⟩
        · exact absurd (told_w (by assumption)) (by assumption)
        · exact ⟨rfl, turn_shape hrd kF rfl rfl rfl rfl rfl rfl (news_sub kN (List.forall_mem_cons.mpr ⟨by k_mem, List.forall_mem_cons.mpr ⟨by k_mem, List.forall_mem_cons.mpr ⟨by k_mem, List.forall_mem_nil _⟩⟩⟩)) htv⟩
        · exact absurd (told_n (by assumption)) (by assumption)
      case qerr =>
        intro h5 tk5 e5 t5 vs5 g5 hd5 F5 U5 R5
        rw [byteArr_octets] at hd5
        clear kF kN
        have hz : 0 ∈ ps := by
          by_cases hz : (0 : Int) ∈ ps
          · exact hz
          · obtain ⟨d', e1, e2⟩ := hlaw.2 hz
            rw [e1] at hd5; cases hd5
        have B0 := below_caller s.heap
        (try with_reducible show wpAny _ _ _ _ _ _); k_fold; k_steps; (all_goals try clear qk); (all_goals try clear ek)
        dsimp only
        (try clear R5); (try clear U5)
        refine wpG_of ?_
        (try with_reducible show wpAny _ _ _ _ _ _); k_fold; k_steps; (all_goals try clear qk); (all_goals try clear ek)
        all_goals (with_reducible rename Fr s.heap _ _ _ => kF; with_reducible rename News s.heap _ _ _ => kN)
        · exact ⟨rfl, turn_shape hrd kF rfl rfl rfl rfl rfl rfl (news_sub kN (List.forall_mem_cons.mpr ⟨by k_mem, List.forall_mem_cons.mpr ⟨by k_mem, List.forall_mem_cons.mpr ⟨by k_mem, List.forall_mem_nil _⟩⟩⟩)) htv⟩
        · exact absurd (by assumption) (zero_any hz)
    · refine wpG_of ?_
      (try with_reducible show wpAny _ _ _ _ _ _); k_fold; k_steps; (all_goals try clear qk); (all_goals try clear ek)
      refine execsG_cons (execG_Try ?_)
      refine execsG_cons (execG_Assign_Name (evalG_Call ?_))
      (try with_reducible show wpAny _ _ _ _ _ _); k_fold; k_steps; (all_goals try clear qk); (all_goals try clear ek)
      refine' callWithG_fnK (h₀ := s.heap) KX ?q3 ?_
      case q3 => k_is
      rw [if_neg Bool.false_ne_true]
      (try with_reducible show wpAny _ _ _ _ _ _); k_fold; k_steps; (all_goals try clear qk); (all_goals try clear ek)
      (with_reducible rename Fr s.heap _ _ _ => kF); (with_reducible rename News s.heap _ _ _ => kN)
      refine' decK KX T kF kN rfl rfl (.inl ⟨_, rfl⟩) ?q5 ?qok ?qerr
      case q5 => rw [byteArr_size]; omega
      case qok =>
        intro d h5 tk5 t5 hd5 F5 N5
        rw [byteArr_octets] at hd5
        clear kF kN
        obtain ⟨hz, hdt⟩ : 0 ∉ ps ∧ toInts d = rd.told := by
          by_cases hz : (0 : Int) ∈ ps
          · rw [hlaw.1 hz] at hd5; cases hd5
          · obtain ⟨d', e1, e2⟩ := hlaw.2 hz
            rw [e1] at hd5; cases hd5; exact ⟨hz, e2⟩
        have hdl : d.length ≤ 290 := by
          have e1 := congrArg List.length hdt
          rw [toInts_length] at e1
          have e2 : rd.told.length ≤ rd.text.length + 1 := by unfold Rd.told; split <;> simp
          omega
        (try with_reducible show wpAny _ _ _ _ _ _); k_fold; k_steps; (all_goals try clear qk); (all_goals try clear ek)
        repeat refine execsG_nil ?_
        dsimp only
        refine wpG_of ?_
        (try with_reducible show wpAny _ _ _ _ _ _); k_fold; k_steps; (all_goals try clear qk); (all_goals try clear ek)
        all_goals ((with_reducible rename Fr s.heap _ _ _ => kF); (with_reducible rename News s.heap _ _ _ => kN))
        · exact absurd (any_zero (by assumption)) hz
        · exact ⟨rfl, turn_shape hrd kF rfl rfl rfl rfl rfl rfl (news_sub kN (List.forall_mem_cons.mpr ⟨by k_mem, List.forall_mem_cons.mpr ⟨by k_mem, List.forall_mem_cons.mpr ⟨by k_mem, List.forall_mem_nil _⟩⟩⟩)) htv⟩
        · exact absurd (told_w (by assumption)) (by assumption)
        · exact ⟨rfl, turn_shape hrd kF rfl rfl rfl rfl rfl rfl (news_sub kN (List.forall_mem_cons.mpr ⟨by k_mem, List.forall_mem_cons.mpr ⟨by k_mem, List.forall_mem_cons.mpr ⟨by k_mem, List.forall_mem_nil _⟩⟩⟩)) htv⟩
        · exact absurd (told_n (by assumption)) (by assumption)
      case qerr =>
        intro h5 tk5 e5 t5 vs5 g5 hd5 F5 U5 R5
        rw [byteArr_octets] at hd5
        clear kF kN
        have hz : 0 ∈ ps := by
          by_cases hz : (0 : Int) ∈ ps
          · exact hz
          · obtain ⟨d', e1, e2⟩ := hlaw.2 hz
            rw [e1] at hd5; cases hd5
        have B0 := below_caller s.heap
        (try with_reducible show wpAny _ _ _ _ _ _); k_fold; k_steps; (all_goals try clear qk); (all_goals try clear ek)
        dsimp only
        (try clear R5); (try clear U5)
        refine wpG_of ?_
        (try with_reducible show wpAny _ _ _ _ _ _); k_fold; k_steps; (all_goals try clear qk); (all_goals try clear ek)
        all_goals (with_reducible rename Fr s.heap _ _ _ => kF; with_reducible rename News s.heap _ _ _ => kN)
        · exact ⟨rfl, turn_shape hrd kF rfl rfl rfl rfl rfl rfl (news_sub kN (List.forall_mem_cons.mpr ⟨by k_mem, List.forall_mem_cons.mpr ⟨by k_mem, List.forall_mem_cons.mpr ⟨by k_mem, List.forall_mem_nil _⟩⟩⟩)) htv⟩
        · exact absurd (by assumption) (zero_any hz)
  clear kF kN htv
  clear h' h'' u tvs kt tl tw
  intro s' hs'
  obtain ⟨h', tk, u, tvs, kt, tl, tw, rfl, F', N', htv⟩ := hs'
  have hbd := rd_len (rows.take i) Rd.start
  have hti : (rows.take i).length ≤ 280 := Nat.le_trans (by rw [List.length_take]; exact Nat.min_le_right _ _) hrl
  have h00 : Rd.start.text.length = 0 := rfl
  have hoI2 : oI = riObj ((i + 1 : Nat) : Int) ((rows.length : Int) + 1 - ((i + 1 : Nat) : Int)) := by rw [← hoI]; congr 1; push_cast; omega
  have hL3 : ¬ i < rows.length → (rows.take (i + 1)).foldl Rd.take Rd.start = (rows.take i).foldl Rd.take Rd.start := fun q => by rw [List.take_of_length_le (Nat.not_lt.mp q), List.take_of_length_le (Nat.le_succ_of_le (Nat.not_lt.mp q))]
  have hL2 : i < rows.length → (rows.take (i + 1)).foldl Rd.take Rd.start = _ := fold_step
  generalize (rows.take i).foldl Rd.take Rd.start = rd at F' htv hL2 hL3 hbd
  have htl := htv.length
  refine execsG_consA ?_
  (try with_reducible show wpAny _ _ _ _ _ _); k_fold; k_steps; (all_goals try clear qk); (all_goals try clear ek)
  all_goals ((with_reducible rename Fr s.heap _ _ _ => kF); (with_reducible rename News s.heap _ _ _ => kN); refine execsG_nil ⟨n - 1, by omega, i + 1, by omega, ?_⟩; unfold LoopAt2; rw [hoI2] at kN)
  · rw [hL2 (by omega), take_w (by omega)]
    exact ⟨_, _, _, _, _, _, _, rfl, fr_shape5 kF rfl rfl rfl rfl rfl, kN, IntsAre.append htv (.cons _ _ .nil)⟩
  · rw [hL2 (by omega), take_z (by omega) (by omega) (by omega)]
    exact ⟨_, _, _, _, _, _, _, rfl, fr_shape5 kF rfl rfl rfl rfl rfl, kN, IntsAre.append htv (.cons _ _ .nil)⟩
  · rw [hL2 (by omega), take_n (by omega) (by omega)]
    exact ⟨_, _, _, _, _, _, _, rfl, fr_shape5 kF rfl rfl rfl rfl rfl, kN, htv⟩
  · rw [hL2 (by omega), take_n (by omega) (by omega)]
    exact ⟨_, _, _, _, _, _, _, rfl, fr_shape5 kF rfl rfl rfl rfl rfl, kN, htv⟩
  · rw [hL3 (by omega)]
    exact ⟨_, _, _, _, _, _, _, rfl, fr_shape5 kF rfl rfl rfl rfl rfl, kN, htv⟩
end Mine
end

section
open PySem PySem.W PyProof.Rows
set_option Elab.async false
namespace Mine
theorem post_true (args : List WData) : PySem.Challenge.rw_nc0005_01.row.claim.post args (.bool true) args = true := by
  show (WShape.has [] (WData.bool true) .bool && WTm.holds [] (.eq .res (.lit (.bool true))) { args := args, res := some (.bool true), after := args }) = true
  have h1 : WShape.has [] (WData.bool true) .bool = true := by simp [WShape.has, WShape.arms]
  have h2 : WTm.holds [] (.eq .res (.lit (.bool true))) { args := args, res := some (.bool true), after := args } = true := by
    simp [WTm.holds, WTm.value, same_self]
  rw [h1, h2]; rfl
end Mine
end

section
open PySem PySem.W PyProof.Rows
set_option Elab.async false
namespace Mine
theorem codeG_mono {M : Model} {A : Around} {c : Code} {R R' : Result → Shared → Prop} {s : Shared} (h : codeG M A c R s) (hR : ∀ r s', R r s' → R' r s') : codeG M A c R' s :=
  fun Γ p hc hΓ g => wpCode_mono hR (h Γ p hc hΓ g)
set_option maxRecDepth 100000 in
set_option maxHeartbeats 8000000 in
theorem main : PySem.Challenge.rw_nc0005_01.Holds := hd (by
  w_on
  k_fill
  intro w s₀ s₁ mg mb G Y fa o pm cd doc dV kV ho hd hcd hD hmg hg args vals as hpre hlay hrd hwl hlo
  have KX := kIn_of Y
  refine Ground.open G ?_
  intro T B D TE TW
  clear hd hcd hD B D TE TW
  wrow_args hpre hlay hrd hwl hlo
  rename_i ni _ _ _ _ _ _ _ la lv _ hL _ _ _ hI _ hc _
  have h39 : mg (Str.ofString "law") = some (.ref 39) := mg_of KX T.g (by k_is)
  have hfa : fa = 39 := by
    have e := h39.symm.trans hmg
    exact (Value.ref.inj (Option.some.inj e)).symm
  clear ho hmg
  subst hfa
  have fin : ∀ s' : Shared, (∀ b o, s₁.heap.get? b = some o → s'.heap.get? b = some o) → s'.os = s₁.os → s'.gens = s₁.gens → GoodWG Challenge.rw_nc0005_01.row.claim (classAt s₀.heap) (ExcName.means s₀.heap) [ofPy (PyData.list (List.map PyData.int ni))] s₁ (.ok (.ret (.bool true))) s' := by
    intro s' hk hos hgn
    refine' GoodW.toG ⟨.inl ⟨_, .bool true, [], rfl, ?n, .bool true, ?p, unshared_nil⟩, hk, hos, hgn.trans hg⟩
    case n => exact raisesW_false allW_false_nil
    case p => exact post_true _
  intro Γ p hΓ
  unfold callG
  rw [Sem.wp_stack]
  by_cases hcl : clean ((Γ.code, p) :: Γ.below) = true
  · rw [if_pos hcl]
    have hgood : Good Γ := by
      unfold clean at hcl
      rw [List.all_cons, Bool.and_eq_true] at hcl
      exact hcl
    refine wpG_call ?_ Γ p hΓ hgood
    refine codeG_mono (law_call w s₁ mg mb la lv ni KX (topRead_of T) hL hI (by omega)) ?_
    rintro r s' ⟨rfl, hk, hos, hgn⟩
    exact fin s' hk hos hgn
  · rw [if_neg hcl]
    exact fin s₁ (fun _ _ e => e) rfl rfl)
end Mine
end

theorem PySem.Challenge.cw_nc0005_01_holds : PySem.Challenge.rw_nc0005_01.Holds := by
  exact Mine.main
