import PyProof.Rows.All
import Wide.All
import OpenK.AllK
import Wide.FinOn
import PySem.Challenge.RW_il0133_01
set_option Elab.async false
section
set_option hygiene false in
local macro_rules | `(tactic| walk_at "CON enter") => `(tactic| (
  unfold Con; k_fill;
  intro dp un gd cn cs a ccd cl outer A₀ base h₀ L m s Q E B F X N T hk hd hu hret;
  refine wpAny_call ?_;
  k_dflt (refine' code_defG ?k1 ?k2 ?k3 ?k4 ?k5 ?kA ?kF ?kK ?k6 ?k7 ?k8 ?k9 ?kB ?_ ?c2 ?c3 ?c4 ?c5; (case kA => exact rfl); (case kF => exact rfl); (case kK => assumption); (case k1 => k_asm); (case k2 => k_asm); (case k3 => k_asm); (case k4 => k_asm); (case k5 => k_asm); (case k6 => k_is); (case k7 => k_is); (case k8 => ktr_room); (case k9 => exact BindsTo.of_eq rfl); (case c5 => decide); (case kB => exact locs rfl); (case c2 => exact rfl); (case c3 => exact rfl); (case c4 => exact rfl); k_whole; intro g' L' h' FG' F' N' B' X' T' kG'; (try dsimp only); (try k_fold))))
set_option hygiene false in
local macro_rules | `(tactic| walk_at "CONC enter") => `(tactic| (
  unfold Con; k_fill;
  intro dp un gd cn cs a ccd cl outer A₀ base h₀ L m s Q E B F X N T hk hd hu hret;
  refine wpAny_call ?_;
  k_dflt (refine' code_defCG ?k1 ?k2 ?k3 ?k4 ?k5 ?kA ?kF ?kK ?k6 ?k7 ?k8 ?k9 ?kB ?kD ?_ ?c2 ?c3 ?c4; (case kA => exact rfl); (case kF => exact rfl); (case kK => assumption); (case k1 => k_asm); (case k2 => k_asm); (case k3 => k_asm); (case k4 => k_asm); (case k5 => k_asm); (case k6 => k_is); (case k7 => k_is); (case k8 => ktr_room); (case k9 => exact BindsTo.of_eq rfl); (case kB => exact rfl); (case kD => decide +kernel); (case c2 => exact rfl); (case c3 => exact rfl); (case c4 => exact rfl); k_whole; intro g' L' h' tk' cells' FG' F' N' Y' B' X' T' l1 kG'; (try k_lt l1); k_cells Y'; (try simp only [List.cons_append, List.nil_append] at N'); (try dsimp only); (try k_fold))))
section
open PySem PySem.W PyProof.Rows
set_option Elab.async false
namespace Mine
open Sem (wp)
/-! Trees in a context that stands on the claim's caller. -/
noncomputable def hasCaller (l : List (Code × Pos)) : Bool := l.any fun x => x.1.isCaller

noncomputable def wpH {α : Type} (M : Model) (A : Around) (t : Sem α) (Q : α → Shared → Prop) (E : Value → Shared → Prop) (s : Shared) : Prop :=
  ∀ Γ p, Γ.In A → (∀ p, hasCaller ((Γ.code, p) :: Γ.below) = true) → wp M Γ t (fun a _ s' => Q a s') (fun e _ s' => E e s') p s

noncomputable def codeH (M : Model) (A : Around) (c : Code) (R : Result → Shared → Prop) (s : Shared) : Prop :=
  ∀ Γ p, Γ.code = c → Γ.Below A → hasCaller Γ.below = true → wpCode M Γ R p s

section
variable {α β : Type} {M : Model} {A : Around} {E : Value → Shared → Prop} {s : Shared}

theorem wpH_of_any {t : Sem α} {Q : α → Shared → Prop} (h : wpAny M A t Q E s) : wpH M A t Q E s := fun Γ p hΓ _ => h Γ p hΓ
theorem codeH_of_any {c : Code} {R : Result → Shared → Prop} (h : codeAny M A c R s) : codeH M A c R s := fun Γ p hc hΓ _ => h Γ p hc hΓ
theorem wpH_mono {t : Sem α} {Q Q' : α → Shared → Prop} {E' : Value → Shared → Prop} (h : wpH M A t Q E s)
    (hQ : ∀ a s, Q a s → Q' a s) (hE : ∀ e s, E e s → E' e s) : wpH M A t Q' E' s :=
  fun Γ p hΓ hc => Sem.wp_mono M Γ t (fun a _ s => hQ a s) (fun e _ s => hE e s) p s (h Γ p hΓ hc)
theorem wpH_pure {a : α} {Q : α → Shared → Prop} (h : Q a s) : wpH M A (pure a) Q E s := fun _ _ _ _ => h
/-- a prefix in any context, then what needs the caller -/
theorem wpH_pre {m : Sem α} {f : α → Sem β} {Q : β → Shared → Prop} (h : wpAny M A m (fun a s' => wpH M A (f a) Q E s') E s) :
    wpH M A (m >>= f) Q E s := fun Γ p hΓ hc => by
  rw [Sem.wp_bind']
  exact Sem.wp_mono M Γ m (fun a p' s' h' => h' Γ p' hΓ hc) (fun _ _ _ h' => h') p s (h Γ p hΓ)
theorem wpH_bind {m : Sem α} {f : α → Sem β} {Q : β → Shared → Prop} (h : wpH M A m (fun a s' => wpH M A (f a) Q E s') E s) :
    wpH M A (m >>= f) Q E s := fun Γ p hΓ hc => by
  rw [Sem.wp_bind']
  exact Sem.wp_mono M Γ m (fun a p' s' h' => h' Γ p' hΓ hc) (fun _ _ _ h' => h') p s (h Γ p hΓ hc)
theorem wpH_map {m : Sem α} {f : α → β} {Q : β → Shared → Prop} (h : wpH M A m (fun a s' => Q (f a) s') E s) :
    wpH M A (f <$> m) Q E s := fun Γ p hΓ hc => by rw [Sem.wp_map]; exact h Γ p hΓ hc
theorem wpH_tryCatch {m : Sem α} {k : Value → Sem α} {Q : α → Shared → Prop} (h : wpH M A m Q (fun e s' => wpH M A (k e) Q E s') s) :
    wpH M A (tryCatch m k) Q E s := fun Γ p hΓ hc => by
  rw [Sem.wp_tryCatch']
  exact Sem.wp_mono M Γ m (fun _ _ _ h' => h') (fun e p' s' h' => h' Γ p' hΓ hc) p s (h Γ p hΓ hc)
theorem wpH_onRaise {m : Sem α} {k : Value → Sem Unit} {Q : α → Shared → Prop}
    (h : wpH M A m Q (fun e s' => wpH M A (k e) (fun _ s'' => E e s'') E s') s) : wpH M A (m.onRaise k) Q E s := fun Γ p hΓ hc => by
  rw [Sem.wp_onRaise]
  exact Sem.wp_mono M Γ m (fun _ _ _ h' => h') (fun e p' s' h' => h' Γ p' hΓ hc) p s (h Γ p hΓ hc)
theorem wpH_attempt {m : Sem α} {Q : Except Value α → Shared → Prop} (h : wpH M A m (fun a => Q (.ok a)) (fun e => Q (.error e)) s) :
    wpH M A m.attempt Q E s := fun Γ p hΓ hc => by rw [Sem.wp_attempt]; exact h Γ p hΓ hc
theorem wpH_holding {vs : List Value} {m : Sem α} {Q : α → Shared → Prop} (h : wpH M A m Q E s) : wpH M A (holding vs m) Q E s :=
  fun Γ p hΓ hc => by rw [Sem.wp_holding]; exact h Γ p hΓ hc
theorem wpH_standAt {pos : Pos} {Q : Unit → Shared → Prop} (h : Q () s) : wpH M A (standAt pos) Q E s := fun _ _ _ _ => h
theorem wpH_rule {tag : String} {Q : Unit → Shared → Prop} (h : Q () s) : wpH M A (rule tag) Q E s := fun _ _ _ _ => h
theorem wpH_stack {Q : List (Code × Pos) → Shared → Prop} (h : ∀ st, hasCaller st = true → Q st s) : wpH M A stack Q E s := fun Γ p _ hc => by
  show Q ((Γ.code, p) :: Γ.below) s
  exact h _ (hc p)
theorem wpH_units_le {t : Sem α} {Q : α → Shared → Prop} {u : Nat} (h : wpH M A t Q E s) (hu : u ≤ A.units) : wpH M { A with units := u } t Q E s :=
  fun Γ p hΓ hc => h Γ p (hΓ.units_le hu) hc

theorem hasCaller_cons {x : Code × Pos} {l : List (Code × Pos)} (h : hasCaller l = true) : hasCaller (x :: l) = true := by
  unfold hasCaller at h ⊢; rw [List.any_cons, h, Bool.or_true]

theorem codeH_mono {c : Code} {R R' : Result → Shared → Prop} (h : codeH M A c R s) (hR : ∀ r s, R r s → R' r s) : codeH M A c R' s :=
  fun Γ p hc hΓ hk => wpCode_mono hR (h Γ p hc hΓ hk)
theorem wpH_run {c : Code} {h : Option Value} {Q : Flow → Shared → Prop}
    (hc : codeH M (A.mark h) c (fun r s' => match r with | .ok f => Q f s' | .error e => E e s') s) (hnb : h ≠ some byPass := by intro x; cases x) :
    wpH M A (run c h) Q E s :=
  fun Γ p hΓ hk => by rw [Sem.wp_run]; exact hc _ p rfl (hΓ.enter c h p hnb) (hk p)
theorem wpH_runValue {c : Code} {Q : Value → Shared → Prop}
    (hc : codeH M A c (fun r s' => match r with | .ok (.ret v) => Q v s' | .ok _ => False | .error e => E e s') s) :
    wpH M A (runValue c) Q E s := fun Γ p hΓ hk => by rw [Sem.wp_runValue]; exact hc _ p rfl (hΓ.enter c none p (by intro x; cases x)) (hk p)
theorem wpH_call {f : Value} {pos : List Value} {kw : List (Str × Value)} {Q : Value → Shared → Prop}
    (hc : codeH M A (.call f ⟨pos, kw⟩) (fun r s' => match r with | .ok (.ret v) => Q v s' | .ok _ => False | .error e => E e s') s) :
    wpH M A (call f pos kw) Q E s := wpH_runValue hc
theorem codeH_of_tree {c : Code} {R : Result → Shared → Prop}
    (h : wpH M (A.under c) (M.den c) (fun fin s' => match fin with | .done f => R (.ok f) s' | .again c' => c'.quiet = true ∧ codeH M A c' R s')
      (fun e s' => R (.error e) s') s) : codeH M A c R s := fun Γ p hc hΓ hk => by
  rw [wpCode_iff_wp, hc]
  refine Sem.wp_mono M Γ _ (fun fin p' s' h' => ?_) (fun _ _ _ h' => h') p s (h Γ p (hc ▸ hΓ.in) fun _ => hasCaller_cons hk)
  cases fin with
  | done f => exact h'
  | again c' => exact ⟨h'.1, h'.2 (Γ.goto c') p' rfl (hΓ.goto c') hk⟩
theorem codeH_loop {c : Code} {R : Result → Shared → Prop} (hq : c.quiet = true) (I : Nat → Shared → Prop)
    (turn : ∀ n s, I n s → wpH M (A.under c) (M.den c)
      (fun fin s' => match fin with | .done f => R (.ok f) s' | .again c' => c' = c ∧ ∃ m, m < n ∧ I m s') (fun e s' => R (.error e) s') s)
    (n : Nat) (h : I n s) : codeH M A c R s := by
  induction n using Nat.strongRecOn generalizing s with
  | ind n ih =>
    refine codeH_of_tree (wpH_mono (turn n s h) (fun fin s' hf => ?_) fun _ _ h' => h')
    cases fin with
    | done f => exact hf
    | again c' => obtain ⟨rfl, m, hm, hI⟩ := hf; exact ⟨hq, ih m hm hI⟩

/-! The tree that asks first whether the caller stands below. -/
noncomputable def guardT (t e : Sem α) : Sem α := .stack fun st => if hasCaller st then t else e
theorem wpAny_guard {t e : Sem α} {Q : α → Shared → Prop} (h : wpH M A t Q E s) (h' : wpAny M A e Q E s) : wpAny M A (guardT t e) Q E s := fun Γ p hΓ => by
  unfold guardT
  rw [Sem.wp_stack]
  cases hc : hasCaller ((Γ.code, p) :: Γ.below) with
  | true => rw [if_pos rfl]; exact h Γ p hΓ (fun _ => hc)
  | false => rw [if_neg Bool.false_ne_true]; exact h' Γ p hΓ
theorem wpH_of_guard {t e : Sem α} {Q : α → Shared → Prop} (h : wpAny M A (guardT t e) Q E s) : wpH M A t Q E s := fun Γ p hΓ hc => by
  have z := h Γ p hΓ
  unfold guardT at z
  rw [Sem.wp_stack, if_pos (hc p)] at z
  exact z
theorem wpAny_of_guard {t e : Sem α} {Q : α → Shared → Prop} (h : wpAny M A (guardT t e) Q E s) : ∀ Γ p, Γ.In A → hasCaller ((Γ.code, p) :: Γ.below) = false → wp M Γ e (fun a _ s' => Q a s') (fun e _ s' => E e s') p s := fun Γ p hΓ hc => by
  have z := h Γ p hΓ
  unfold guardT at z
  rw [Sem.wp_stack, hc, if_neg Bool.false_ne_true] at z
  exact z
end

noncomputable abbrev callTree (name : Str) (vs : List Value) : Sem Fin := do match ← nsGet mainNs name with
      | some f => do ret (← PySem.call f vs)
      | none => unsupported "claim.caller:no-such-global"

theorem stub_guard {prog : Program} {w : World} {t e : Sem Fin} {s s' : Shared} {n : Nat} {o : Outcome} (hz : s.asleep)
    (h : schedN (denote table) prog w n (.single s ⟨guardT t e, .builtin "claim.caller" {}, default, []⟩) = .halted o s') :
    ∃ m, schedN (denote table) prog w m (.single s ⟨t, .builtin "claim.caller" {}, default, []⟩) = .halted o s' := by
  cases n with
  | zero => cases h
  | succ n =>
    have hs : step (denote table) prog w s ⟨guardT t e, .builtin "claim.caller" {}, default, []⟩ = .go s ⟨t, .builtin "claim.caller" {}, default, []⟩ := by
      obtain ⟨heap, gens, drawn, toks, os⟩ := s
      unfold guardT
      simp only [step, List.map_nil]
      rfl
    have e1 : sstep (denote table) prog w (.single s ⟨guardT t e, .builtin "claim.caller" {}, default, []⟩) = .go (.single s ⟨t, .builtin "claim.caller" {}, default, []⟩) := by
      rcases sstep_single (denote table) prog w s ⟨guardT t e, .builtin "claim.caller" {}, default, []⟩ (by rfl) hz with e1 | e1
      · rw [e1, hs]; rfl
      · rw [hs] at e1; cases e1
    refine ⟨n, ?_⟩
    rw [schedN, e1] at h
    exact h

theorem openBy_of_guard {c : ClaimW} {tree els : List Value → Sem Fin} {defs keeps : List Str} {writes : Bool}
    (H : c.HoldsOpenBy (fun vs => ⟨guardT (tree vs) (els vs), .builtin "claim.caller" {}, default, []⟩) defs keeps writes) :
    c.HoldsOpenBy (fun vs => ⟨tree vs, .builtin "claim.caller" {}, default, []⟩) defs keeps writes := by
  obtain ⟨h1, h2, h3⟩ := H
  refine ⟨h1, h2, fun w => ⟨(h3 w).1, fun s hs => ?_⟩⟩
  obtain ⟨s₀, a1, a2, s₁, a3, a4, a5, a6, a7⟩ := (h3 w).2 s hs
  refine ⟨s₀, a1, a2, s₁, a3, a4, a5, a6, fun args q1 q2 ord q3 => ?_⟩
  obtain ⟨vs, s₂, b1, n, o, s', b2, b3⟩ := a7 args q1 q2 ord q3
  have hs' : AfterImport (opening c.prog) w s := hs
  have hz : s₂.asleep := Shared.asleep_of_life ((layAllW_rest _ _ _ b1).2.2.2.trans (a3.2.1.trans (fence_lifeW a1))) hs'.life
  obtain ⟨m, b4⟩ := stub_guard hz b2
  exact ⟨vs, s₂, b1, m, o, s', b4, b3⟩

theorem holds_openH {r : OpenRow} {q : Program} {loose : List Str} {Xt : Shared → Bool} {XP : (Str → Option Value) → Heap → Prop} {α : Type} {Yf : Shared → α} {Ya : World → α} {YP : World → Heap → Prop} {d : DefRec} {kwd : List (Str × Expr)} {N : Nat}
    (left : LeftO r.prog q loose Xt Yf Ya N) (hY : ∀ w s, Yf s = Ya w → YP w s.heap) (hYk : ∀ w h h', YP w h → (∀ b o, h.get? b = some o → h'.get? b = some o) → YP w h')
    (hX : ∀ s, Xt s = true → XP (s.heap.nsMap mainGlobals) s.heap) (hXk : ∀ mg h h', XP mg h → (∀ b o, h.get? b = some o → h'.get? b = some o) → XP mg h')
    (hdef : defOf q r.name = some (d, kwd)) (hp : r.prog.theDef r.name = some (d.params, d.body, d.scope)) (hk : kwWritten? d.params.kwonlyargs d.params.kw_defaults = some kwd) (hRf : ∀ s, Xt s = true → RecFacts r.records s.heap) (hwr : (!r.writes || r.records.isEmpty) = true)
    (k1 : r.wellSaid = true) (ok : (chainsOk q && opensWell r.prog && (frees r.toRowW && r.within.isEmpty)) = true) (hb : r.prog.bare) (hw : r.toRowW.promised)
    (call : WalkO q loose XP YP r.toRowW d kwd fun f vs => guardT (PySem.call f vs) (pure (.bool true))) : r.Holds := by
  refine ⟨k1, hw, openBy_of_guard (tree := callTree r.name) (els := fun _ => pure (.done (.ret (.bool true)))) (open_anyG (r := r.toRowW) (run := fun f vs => guardT (PySem.call f vs) (pure (.bool true))) (tree := fun vs => guardT (callTree r.name vs) (pure (.done (.ret (.bool true))))) left hY hYk hX hXk hRf hwr ok hb hw
    (fun vs w s mg f Q E hg hf h => fun Γ p hΓ => ?_)
    (fun w s hg G n hn => ?_) fun w s₀ s₁ mg mb G Y args vs as hpre hlay L low => ?_)⟩
  · unfold guardT
    rw [Sem.wp_stack]
    cases hc : hasCaller ((Γ.code, p) :: Γ.below) with
    | true =>
      rw [if_pos rfl]
      have hc' : ∀ p, hasCaller ((Γ.code, p) :: Γ.below) = true := fun _ => hc
      exact (wpH_pre (M := model r.prog w) (A := callerA) (Q := Q) (E := E) (wpAny_nsGet hg (by rw [hf]; exact wpH_bind (wpH_mono (wpH_of_guard h) (fun _ _ x => wpH_pure x) fun _ _ x => x)))) Γ p hΓ hc'
    | false =>
      rw [if_neg Bool.false_ne_true]
      exact wpAny_of_guard h Γ p hΓ hc
  · obtain rfl : n = r.name := by split at hn <;> simp_all
    exact pinned_of_view hg G hdef hp hk
  · obtain ⟨a, o, pm, cd, doc, dV, kV, h1, h2, h3, h4, h5⟩ := G.fn hdef
    exact ⟨.ref a, h1, call w s₀ s₁ mg mb G Y a o pm cd doc dV kV h2 h3 h4 h5 (defOf_name hdef ▸ h1) L.gens args vs as hpre hlay L.reads L.well (L.low low)⟩
end Mine
end
section
open PySem PySem.W PyProof.Rows
set_option Elab.async false
namespace Mine
/-! The head, small: the top's run as one check over a tree heap. -/
noncomputable def topRunT (stp : SharedT → Thread → Option (SharedT × Thread)) (ok : Thread → Bool) : Nat → SharedT → Thread → Option SharedT
  | 0, _, _ => none
  | n + 1, s, t => match through t with
    | true => some s
    | false => match ok t with
      | false => none
      | true => match stp s t with
        | some (s', t') => topRunT stp ok n s' t'
        | none => none

theorem topRunT_of {tb : String → Option Builtin} {p : Program} {w : World} {n₀ : Nat} {ann : Option Value} : ∀ {n : Nat} {s s' : SharedT} {t : Thread},
    topRunT (stepT (denote tb) p w) (stepOk n₀ ann) n s t = some s' → topRun tb p w n₀ ann n s.abs t = some s'.abs
  | 0, _, _, _, h => by cases h
  | n + 1, s, s', t, h => by
    unfold topRunT at h
    unfold topRun
    cases he : through t with
    | true => rw [he] at h; cases h; rfl
    | false =>
      rw [he] at h
      cases hk : stepOk n₀ ann t with
      | false => rw [hk] at h; cases h
      | true =>
        rw [hk] at h
        cases hs : stepT (denote tb) p w s t with
        | none => rw [hs] at h; cases h
        | some r => obtain ⟨s₂, t₂⟩ := r; rw [hs] at h; rw [stepT_spec hs]; exact topRunT_of h

noncomputable def treeOf (l : List Obj) : BT := (l.foldl (fun (q : BT × Nat) o => (q.1.ins q.2 o, q.2 + 1)) (.nil, 0)).1

theorem left_of {p q : Program} {loose : List Str} {Xt : Shared → Bool} {α : Type} {Yf : Shared → α} {Ya : World → α} {N : Nat} {H₀ : Params → Heap} {T₀ : Params → BT} {life : Params → Life} {n₀ : Nat} {gs₀ : Array GenState} {d₀ : Drawn} {k₀ : Nat} {M : Nat}
    (open_ : ∀ w : World, (fencedOpening treeTable p w N).map (fun s => (s.heap, s.gens, s.drawn, s.toks)) = some (H₀ w.params, gs₀, d₀, k₀))
    (tree : ∀ P, absHeap (T₀ P) n₀ (life P) = H₀ P)
    (size : ∀ w : World, ((H₀ w.params).isNs mainGlobals && gs₀.size == 0, (H₀ w.params).objs.size, (H₀ w.params).nsMap mainGlobals "__annotations__") = (true, n₀, some (.ref 6)))
    (le : Nat.ble M N = true)
    (run : ∀ (w : World) (os : OsState), (topRunT (stepT (denote treeTable) p w) (stepOk n₀ (some (.ref 6))) M ⟨T₀ w.params, n₀, life w.params, gs₀, d₀, k₀, os⟩ (topStub p)).map
        (fun S => ((staticsOk (importedModules p.main.body) (H₀ w.params) S.abs.heap && namesBound p S.abs.heap && gensDone S.abs && laidKept (H₀ w.params) S.abs.heap),
          openSeen q loose (importedModules p.main.body) Xt true S.abs, Yf S.abs)) = some (true, openGood q loose, Ya w)) : LeftO p q loose Xt Yf Ya N true := fun w => by
  obtain ⟨⟨h, gs, d, k, os⟩, e, e'⟩ := Option.map_eq_some_iff.mp (open_ w)
  obtain ⟨rfl, rfl, rfl, rfl⟩ : h = H₀ w.params ∧ gs = gs₀ ∧ d = d₀ ∧ k = k₀ := by simpa using e'
  obtain ⟨z1, z2, z3⟩ : _ ∧ _ ∧ _ := by simpa only [Prod.mk.injEq] using size w
  obtain ⟨S, hS, hl⟩ := Option.map_eq_some_iff.mp (run w os)
  obtain ⟨l1, l2, l3⟩ : _ ∧ _ ∧ _ := by simpa only [Prod.mk.injEq] using hl
  have r0 := topRunT_of hS
  rw [show (SharedT.abs ⟨T₀ w.params, n₀, life w.params, gs, d, k, os⟩) = (⟨H₀ w.params, gs, d, k, os⟩ : Shared) by unfold SharedT.abs; rw [tree]] at r0
  have r := topRun_mono (N - M) _ _ _ _ r0
  rw [show M + (N - M) = N by have := Nat.le_of_ble_eq_true le; omega] at r
  have t : topFrom treeTable p w N ⟨H₀ w.params, gs, d, k, os⟩ = some S.abs := by
    unfold topFrom
    dsimp only
    rw [z1, z2, z3, r]
    show (match staticsOk (importedModules p.main.body) (H₀ w.params) S.abs.heap && namesBound p S.abs.heap && gensDone S.abs && laidKept (H₀ w.params) S.abs.heap with | true => _ | false => _) = _
    rw [l1]
  unfold openEnds
  rw [e]
  show (topFrom treeTable p w N _).map _ = _
  rw [t]
  exact congrArg some (Prod.ext l2 l3)

noncomputable abbrev pw : Program := PySem.Challenge.pw_il0133_01
noncomputable def q : Program := view pw [0, 2, 3, 4, 5, 6, 7, 8, 9, 10, 11, 12, 13, 14, 15, 16, 17, 18, 19, 20, 21, 22, 23, 24, 25, 26, 27, 29, 30, 31, 33, 34, 35, 36, 37, 38, 39, 40, 41, 42]
noncomputable def loose : List Str := [Str.ofString "_filemode_table", Str.ofString "_tuplegetter", Str.ofString "Pair"]
noncomputable def lv : List (Str × WData) := []
theorem open_p : ∀ w : World, (fencedOpening treeTable pw w 4958).map (fun s => (s.heap, s.gens, s.drawn, s.toks)) = some (boot_heap w.params, Array.mk [], boot_drawn, boot_toks) :=
  boot_open (by kernel_rfl) (by kernel_rfl) (fun s => by kernel_rfl)
theorem tree_p : ∀ P, absHeap (treeOf (boot_heap P).objs.toList) 11 (boot_heap P).life = boot_heap P := fun P => by kernel_rfl
theorem size_p : ∀ w : World, ((boot_heap w.params).isNs mainGlobals && (Array.mk [] : Array GenState).size == 0, (boot_heap w.params).objs.size, (boot_heap w.params).nsMap mainGlobals "__annotations__") = (true, 11, some (.ref 6)) := fun w => by kernel_rfl
noncomputable abbrev r : RowW := PySem.Challenge.rw_il0133_01.row.toRowW
local macro_rules | `(tactic| k_head) => `(tactic| x_head)
local macro_rules | `(tactic| o_law) => `(tactic| refine holds_law (by decide +kernel) fun said => ?_)
local macro_rules | `(tactic| o_head $H) => `(tactic| (
  refine holds_openH (q := Mine.q) (loose := Mine.loose) (Xt := fun s => xlAt Mine.q Mine.lv s && recOk (RowW.records Mine.r) s) (XP := XL Mine.q Mine.lv) (Yf := Hook.obs $H) (Ya := Hook.val $H) (YP := Hook.says $H) (N := 4958) ?hl (Hook.of $H) (Hook.keeps $H)
    (fun s e => xl_of s (Bool.and_eq_true_iff.mp e).1) XL.keeps (by rfl) (by rfl) (by rfl) (fun s e => recFacts_of (Bool.and_eq_true_iff.mp e).2) (by rfl) (by first | assumption | decide +kernel) (by decide +kernel) ⟨rfl, rfl, rfl, rfl, rfl, by decide +kernel⟩ ?hw ?hc
  (case hl =>
    refine left_of (M := 2430) open_p tree_p size_p rfl (fun w os => ?run)
    rw [PySem.W.Fast.te10156331382660048174, PySem.W.Fast.te11892475500146522536, PySem.W.Fast.te14364793385576792824, PySem.W.Fast.te4187177175401517315, PySem.W.Fast.te6613529449190102663]
    kernel_rfl)))
set_option maxRecDepth 100000 in
set_option maxHeartbeats 8000000 in
open_top hd for PySem.Challenge.rw_il0133_01
end Mine
end
section
open PySem PySem.W PyProof.Rows
set_option Elab.async false
namespace Mine
open Sem (wp)
noncomputable abbrev prg : Program := PySem.Challenge.rw_il0133_01.row.prog
section
variable {α β : Type} {M : Model} {A : Around} {E : Value → Shared → Prop} {s : Shared} {env : Env}
theorem wpH_keep {vs : List Value} {m : Sem α} {Q : α → Shared → Prop} (h : wpH M A m Q E s) : wpH M A (m.keep vs) Q E s :=
  fun Γ p hΓ hc => by rw [Sem.wp_keep]; exact h Γ p hΓ hc
theorem wpH_operating {vs : List Value} {m : Sem Value} {Q : Value → Shared → Prop} (h : wpH M A m Q E s) : wpH M A (operate vs m) Q E s :=
  fun Γ p hΓ hc => by rw [Sem.wp_operate]; exact h Γ p hΓ hc
theorem wpH_onRaiseA {m : Sem α} {k : Value → Sem Unit} {Q : α → Shared → Prop}
    (h : wpH M A m Q (fun e s' => wpAny M A (k e) (fun _ s'' => E e s'') E s') s) : wpH M A (m.onRaise k) Q E s :=
  wpH_onRaise (wpH_mono h (fun _ _ x => x) fun _ _ x => wpH_of_any x)
theorem wpH_Return {e pos} {Q : Flow → Shared → Prop} (h : wpH M A (eval e env) (fun v => Q (.ret v)) E s) :
    wpH M A (exec (.Return (some e) pos) env) Q E s := by
  rw [exec_Return_some]
  exact wpH_pre (wpAny_standAt (wpH_bind (wpH_mono h (fun _ _ x => wpH_pure x) fun _ _ x => x)))
theorem wpH_execs_pre {st rest} {Q : Flow → Shared → Prop}
    (h : wpAny M A (exec st env) (fun f s' => match f with | .next => wpH M A (execs rest env) Q E s' | f => Q f s') E s) :
    wpH M A (execs (st :: rest) env) Q E s := by
  rw [execs_cons]
  refine wpH_pre (wpAny_mono h (fun f s' h' => ?_) fun _ _ x => x)
  cases f <;> first | exact h' | exact wpH_pure h'
theorem wpH_execs_cons {st rest} {Q : Flow → Shared → Prop}
    (h : wpH M A (exec st env) (fun f s' => match f with | .next => wpH M A (execs rest env) Q E s' | f => Q f s') E s) :
    wpH M A (execs (st :: rest) env) Q E s := by
  rw [execs_cons]
  refine wpH_bind (wpH_mono h (fun f s' h' => ?_) fun _ _ x => x)
  cases f <;> first | exact h' | exact wpH_pure h'
theorem wpH_execs_any {sts} {Q : Flow → Shared → Prop} (h : wpAny M A (execs sts env) Q E s) : wpH M A (execs sts env) Q E s := wpH_of_any h
theorem wpH_Assign_Name {x pos' value pos} {Q : Flow → Shared → Prop}
    (h : wpH M A (eval value env) (fun v s₁ => wpAny M A (storeName env x v) (fun _ => Q .next) E s₁) E s)
    (hs : swapsWith value (some (.Name x pos')) pos.line env = pure false := by rfl) :
    wpH M A (exec (.Assign [.Name x pos'] value pos) env) Q E s := fun Γ p hΓ hc => by
  simp only [exec_Assign_Name env x pos' value pos hs, Sem.wp_bind', Sem.wp_cmd_standAt, Sem.wp_bindName, Sem.wp_pure']
  exact Sem.wp_mono M Γ _ (fun v _ s₁ h₁ => h₁ Γ _ hΓ) (fun _ _ _ h' => h') _ _ (h Γ _ hΓ hc)
theorem wpH_Assign_Tuple {elts k tpos value pos} {Q : Flow → Shared → Prop}
    (h : wpH M A (eval value env) (fun v s₁ => wpAny M A (assign (.Tuple elts k tpos) env v) (fun _ => Q .next) E s₁) E s)
    (hs : swapsWithSole [.Tuple elts k tpos] value pos.line env = pure false := by rfl)
    (hw : swappedStores [.Tuple elts k tpos] value env = pure none := by rfl) :
    wpH M A (exec (.Assign [.Tuple elts k tpos] value pos) env) Q E s := by
  rw [exec_Assign]
  refine wpH_pre (wpAny_standAt ?_)
  rw [hs]
  refine wpH_pre (wpAny_pure ?_)
  rw [if_neg (by decide)]
  refine wpH_bind (wpH_mono h (fun v s₁ h₁ => ?_) fun _ _ x => x)
  rw [hw]
  refine wpH_pre (wpAny_pure ?_)
  refine wpH_of_any ?_
  show wpAny M A (do assignAll v [assign (.Tuple elts k tpos) env]; pure .next) Q E s₁
  exact wpAny_bind (wpAny_mono h₁ (fun _ _ x => wpAny_pure x) fun _ _ x => x)
theorem wpH_Compare1 {l op r pos} {Q : Value → Shared → Prop}
    (h : wpH M A (eval l env) (fun a s₁ => wpAny M A (eval r env) (fun b s₂ => wpAny M A (compareOp op a b) Q E s₂) E s₁) E s)
    (hm : behindInMarks op r = false := by with_unfolding_all rfl) :
    wpH M A (eval (.Compare l [op] [r] pos) env) Q E s := fun Γ p hΓ hc => by
  simp only [eval_Compare1, markedBehindIn_of_false hm, Sem.wp_bind', Sem.wp_holding, Sem.wp_cmd_standAt, Sem.wp_operate]
  exact Sem.wp_mono M Γ _ (fun a p₁ s₁ h₁ => Sem.wp_mono M Γ _ (fun b _ s₂ h₂ => h₂ Γ _ hΓ) (fun _ _ _ h' => h') _ _ (h₁ Γ p₁ hΓ))
    (fun _ _ _ h' => h') _ _ (h Γ p hΓ hc)
theorem wpH_Call_Name {id : Str} {p pos : Pos} {args : List Expr} {keywords : List Keyword} {Q : Value → Shared → Prop}
    (h : wpAny M A (eval (.Name id p) env) (fun f s₁ => wpH M A (callWith pos f [] (backTo pos (starEach args env)) (backToKw pos (keywordEach keywords env))) Q E s₁) E s) :
    wpH M A (eval (.Call (.Name id p) args keywords pos) env) Q E s := by
  rw [arm_eval_Call_Name']
  exact wpH_pre h
theorem wpH_callWith_of {pos : Pos} {f : Value} {first : List Value} {Q : Value → Shared → Prop} {P : Heap → Prop} {args : List (Bool × Sem Value)} {keywords : List (Option Str × Sem Value)}
    (hk : ∀ h, P h → ∃ k, Looks M h (keeperOf f) k)
    (h : wpAny M A (evalArgs f true args keywords) (fun a s₁ => P s₁.heap ∧ wpH M A (call f (first ++ a.pos) a.kw) Q E s₁) E s) : wpH M A (callWith pos f first args keywords) Q E s := by
  unfold callWith
  refine wpH_pre (wpAny_holding (wpAny_mono h (fun a s₁ h₁ => wpH_pre (wpAny_standAt ?_)) fun _ _ x => x))
  obtain ⟨k, L⟩ := hk _ h₁.1
  dsimp only
  refine wpH_pre (L.here ?_)
  have tail : ∀ {t : Sem Value}, wpH M A t Q E s₁ → wpH M A (t >>= fun r => holding [r] point >>= fun _ => pure r) Q E s₁ :=
    fun ht => wpH_bind (wpH_mono ht (fun r s₂ hr => wpH_of_any (wpAny_bind (wpAny_holding (wpAny_point (wpAny_pure hr))))) fun _ _ x => x)
  have marked (mk : Value) : wpH M A (callMarked mk f (first ++ a.pos) a.kw) Q E s₁ := by unfold callMarked; exact wpH_keep h₁.2
  cases k <;> cases (args.any (·.1) || keywords.any (·.1.isNone)) <;> dsimp only <;> first | exact tail (marked _) | exact tail (wpH_operating h₁.2) | exact tail h₁.2 | (split <;> first | exact tail h₁.2 | exact tail (marked _))
theorem wpH_runOwn {c : Code} {h : Option Value} {Q : Flow → Shared → Prop}
    (hc : codeH M (A.mark h) c (fun r s' => match r with | .ok f => Q f s' | .error e => cameBackBy M A env E e s') s) (hnb : h ≠ some byPass := by intro x; cases x) :
    wpH M A (runOwn c env h) Q E s := by
  unfold runOwn
  exact wpH_onRaiseA (wpH_run hc hnb)
theorem wpH_For {target iter body orelse pos} {Q : Flow → Shared → Prop}
    (h : wpAny M A (eval iter env) (fun x s₁ => wpAny M A (pyIter x) (fun it s₂ =>
      codeH M A (.forLoop target it body orelse env) (fun r s' => match r with | .ok f => Q f s' | .error e => cameBackBy M A env E e s') s₂) E s₁) E s)
    (hs : ∀ x, foldedSetIterable iter env x = pure x := by intro _; rfl) :
    wpH M A (exec (.For target iter body orelse pos) env) Q E s := by
  rw [PySem.exec_For]
  exact wpH_pre (wpAny_standAt (wpH_pre (wpAny_mono h (fun x s₁ h₁ => wpH_pre (wpAny_of_eq (hs x) (wpH_pre (wpAny_standAt (wpH_pre (wpAny_holding
    (wpAny_mono h₁ (fun it s₂ h₂ => wpH_runOwn h₂) fun _ _ h' => h'))))))) fun _ _ h' => h')))
theorem wpH_Try_except {body orelse : List Stmt} {h₀ : ExceptHandler} {hs : List ExceptHandler} {pos : Pos} {Q : Flow → Shared → Prop}
    (h : wpH M A (execs body env) (fun f s₁ => match f with | .next => wpAny M A (execs orelse env) Q E s₁ | f => Q f s₁)
      (fun e s₁ => wpAny M A (noteFrame e env) (fun _ s₂ => wpAny M A (setFlight e none) (fun _ s₃ => wpAny M A (handleBy e env (h₀ :: hs)) Q E s₃) E s₂) E s₁) s) :
    wpH M A (exec (.Try body (h₀ :: hs) orelse [] pos) env) Q E s := by
  rw [arm_exec_Try]
  refine wpH_pre (wpAny_standAt ?_)
  unfold tryStmt
  simp only [List.isEmpty_nil, if_true, List.isEmpty_cons, Bool.false_and, Bool.false_eq_true, if_false]
  refine wpH_bind (wpH_attempt (wpH_mono h (fun f s₁ h₁ => ?_) fun e s₁ h₁ => ?_))
  · cases f <;> first | exact wpH_of_any h₁ | exact wpH_pure h₁
  · exact wpH_of_any (wpAny_bind (wpAny_mono h₁ (fun _ _ h₂ => wpAny_bind h₂) fun _ _ x => x))
end

section
variable {prog : Program} {w : World} {A : Around} {E : Value → Shared → Prop} {R : Result → Shared → Prop} {s : Shared}
theorem codeH_func {body env}
    (h : wpH (model prog w) (A.deeper env) (execs body env) (fun f s' => R (.ok (.ret (match f with | .ret v => v | _ => .none))) s')
      (fun e s' => wpAny (model prog w) (A.deeper env) (leaving env e) (fun _ s'' => R (.error e) s'') (fun e' s'' => R (.error e') s'') s') s) :
    codeH (model prog w) A (.func body env) R s := by
  refine codeH_of_tree ?_
  show wpH _ (A.deeper env) (do point; match ← (execs body env).onRaise (leaving env) with | .ret v => ret v | _ => ret .none) _ _ s
  refine wpH_pre (wpAny_point (wpH_bind (wpH_onRaiseA (wpH_mono h (fun f s' h' => ?_) fun _ _ h' => h'))))
  cases f <;> exact wpH_pure h'
theorem codeH_call_function {a : Addr} {args : Args} {o : Obj} {fd : FuncData} {body : List Stmt} (hroom : A.depth < recursionLimit)
    (ho : s.heap.get? a = some o)
    (hd' : o.data = .func fd) (hco : fd.scope.isCoroutine = false) (hgen : fd.scope.isGenerator = false) (hbody : fd.body = .stmts body) (hcd : s.heap.CodeRec fd.code fd.qualname)
    (h : wpAny (model prog w) A.in1 (bindArgs fd args) (fun binds s₁ =>
      wpAny (model prog w) A.in1 (newFunctionEnv fd.scope fd.globals fd.closure binds (fd.qualname ++ ".<locals>.") (some a) fd.code none fd.builtins)
        (fun env s₂ => s₂.heap.NoLimit ∧ codeH (model prog w) A (.func body env) R s₂) (fun e s' => R (.error e) s') s₁) (fun e s' => R (.error e) s') s) :
    codeH (model prog w) A (.call (.ref a) args) R s := by
  refine codeH_of_tree (wpH_of_any ?_)
  show wpAny _ A.in1 (callAny (.ref a) args) _ _ s
  simp only [callAny]
  refine wpAny_bind (wpAny_load ho ?_)
  obtain ⟨c, oc, vs, tq, hc, hoc, hdc, hq⟩ := hcd
  simp only [hd', callFunction, hco, hgen, hbody, hc]
  rw [hc] at h
  refine wpAny_bind (m := field (.ref c) 1) (wpAny_field hoc hdc hq (wpAny_bind (wpAny_pure ?_)))
  exact wpAny_bind (wpAny_mono h (fun binds s₁ h₁ => wpAny_bind (wpAny_mono h₁ (fun env s₂ h₂ => wpAny_bind (wpAny_enterFrame h₂.1 hroom
    (wpAny_pure (And.intro rfl h₂.2)))) fun _ _ h' => h')) fun _ _ h' => h')
theorem codeH_call_def {a : Addr} {o : Obj} {fd : FuncData} {body : List Stmt} {args : Args} {binds : List (Str × Value)}
    (hroom : A.depth < recursionLimit) (ho : s.heap.get? a = some o) (hdata : o.data = .func fd) (hlim : s.heap.NoLimit) (hcd : s.heap.CodeRec fd.code fd.qualname)
    (hbody : fd.body = .stmts body) (hbind : BindsTo s fd args binds)
    (hcell : ∀ x ∈ fd.scope.names, x.2 ≠ .cell) (hloc : ∀ x ∈ binds, fd.scope.names.lookup x.1 = some .local)
    (h : ∀ h₀, h₀.Ns s.heap.objs.size (fun x => binds.reverse.lookup x) → (∀ b o, s.heap.get? b = some o → h₀.get? b = some o) →
      wpH (model prog w) (A.deeper (callEnv fd s.heap.objs.size a)) (execs body (callEnv fd s.heap.objs.size a)) (fun f s' => R (.ok (.ret (match f with | .ret v => v | _ => .none))) s')
        (fun e s' => wpAny (model prog w) (A.deeper (callEnv fd s.heap.objs.size a)) (leaving (callEnv fd s.heap.objs.size a) e) (fun _ s'' => R (.error e) s'') (fun e' s'' => R (.error e') s'') s')
        { s with heap := h₀, toks := s.toks + binds.length })
    (hco : fd.scope.isCoroutine = false := by rfl) (hgen : fd.scope.isGenerator = false := by rfl) (hk : fd.scope.kind = .function := by rfl) :
    codeH (model prog w) A (.call (.ref a) args) R s := by
  refine codeH_call_function hroom ho hdata hco hgen hbody hcd (hbind _ _ _ _ ?_)
  refine wpAny_newFunctionEnv hcell hloc (fun h₀ hns₀ hsb₀ => ⟨hlim.fresh _ hsb₀, codeH_func (h h₀ hns₀ fun b o e => ?_)⟩) hk
  exact hsb₀.extBut b o (Nat.ne_of_lt (Heap.lt_size e)) (Heap.get?_push_of_some _ e)

theorem codeH_call_builtin_at {id : String} {args : Args} {b : Builtin} (hq : (Code.builtin id args).quiet = true) (hb : entryFor table id = some b)
    (h : wpAny (model prog w) A.in1 (checkBuiltinCall id args) (fun _ s₁ => wpH (model prog w) (A.under (.builtin id args)) (b args)
      (fun fin s' => match fin with | .done f => R (.ok f) s' | .again c' => c'.quiet = true ∧ codeH (model prog w) A c' R s') (fun e s' => R (.error e) s') s₁)
      (fun e s' => R (.error e) s') s) : codeH (model prog w) A (.call (.builtin id) args) R s := by
  refine codeH_of_tree (wpH_of_any ?_)
  show wpAny _ A.in1 (do checkBuiltinCall id args; again (.builtin id args)) _ _ s
  refine wpAny_bind (wpAny_mono h (fun _ s₁ h₁ => wpAny_pure (And.intro hq (codeH_of_tree ?_))) fun _ _ h' => h')
  show wpH _ _ (match entryFor table id with | some b => b args | none => unsupported ((withoutEnding? id "#data").getD id)) _ _ s₁
  rw [hb]; exact h₁

theorem wpH_noted {α : Type} {M : Model} {env : Env} {m : Sem α} {Q : α → Shared → Prop} (h : wpH M A m Q (notedBy M A env E) s) : wpH M A (m.onRaise fun x => do noteFrame x env; theTreesLotGoes x) Q E s :=
  wpH_onRaiseA (wpH_mono h (fun _ _ q => q) fun _ _ hx => wpAny_bind (wpAny_mono hx (fun _ _ e => wpAny_theTreesLotGoes e) fun _ _ e => e))

/-- one turn of a for loop -/
theorem codeH_forTurn {target it body orelse env}
    (h : wpAny (model prog w) A (pyNext it) (fun r s₁ => match r with
      | none => wpAny (model prog w) A (execs orelse env) (fun f s₃ => R (.ok f) s₃) (notedBy (model prog w) A env fun e s' => R (.error e) s') s₁
      | some v => wpAny (model prog w) A (letOwnedTupleGo target it v) (fun _ s₁' =>
          wpAny (model prog w) A (assign target env v) (fun _ s₂ => wpH (model prog w) A (execs body env) (fun f s₃ => match f with
            | .next | .cont => codeH (model prog w) A (.forLoop target it body orelse env) R s₃
            | .brk => R (.ok .next) s₃
            | .ret v => R (.ok (.ret v)) s₃) (notedBy (model prog w) A env fun e s' => R (.error e) s') s₂) (notedBy (model prog w) A env fun e s' => R (.error e) s') s₁') (notedBy (model prog w) A env fun e s' => R (.error e) s') s₁) (notedBy (model prog w) A env fun e s' => R (.error e) s') s) :
    codeH (model prog w) A (.forLoop target it body orelse env) R s := by
  refine codeH_of_tree ?_
  show wpH _ A ((forTurn target it body orelse env).onRaise (fun x => do noteFrame x env; theTreesLotGoes x)) _ _ s
  refine wpH_noted ?_
  simp only [forTurn]
  refine wpH_pre (wpAny_standAt (wpH_pre (wpAny_onRaise (wpAny_mono h (fun r s₁ h₁ => ?_) fun _ _ h' => wpAny_standAt h'))))
  cases r with
  | none => exact wpH_pure ⟨rfl, codeH_of_any (codeAny_block h₁)⟩
  | some v =>
    refine wpH_pre (wpAny_mono h₁ (fun _ s₁' h₁' => ?_) fun _ _ h' => h')
    refine wpH_pre (wpAny_mono h₁' (fun _ s₂ h₂ => wpH_bind (wpH_mono h₂ (fun f s₃ h₃ => ?_) fun _ _ h' => h')) fun _ _ h' => h')
    cases f with
    | next => exact wpH_pure ⟨rfl, h₃⟩
    | cont => exact wpH_pure ⟨rfl, h₃⟩
    | brk => exact wpH_pure h₃
    | ret v => exact wpH_pure h₃
theorem codeAny_forTurn {target it body orelse env}
    (h : wpAny (model prog w) A (pyNext it) (fun r s₁ => match r with
      | none => wpAny (model prog w) A (execs orelse env) (fun f s₃ => R (.ok f) s₃) (notedBy (model prog w) A env fun e s' => R (.error e) s') s₁
      | some v => wpAny (model prog w) A (letOwnedTupleGo target it v) (fun _ s₁' =>
          wpAny (model prog w) A (assign target env v) (fun _ s₂ => wpAny (model prog w) A (execs body env) (fun f s₃ => match f with
            | .next | .cont => codeAny (model prog w) A (.forLoop target it body orelse env) R s₃
            | .brk => R (.ok .next) s₃
            | .ret v => R (.ok (.ret v)) s₃) (notedBy (model prog w) A env fun e s' => R (.error e) s') s₂) (notedBy (model prog w) A env fun e s' => R (.error e) s') s₁') (notedBy (model prog w) A env fun e s' => R (.error e) s') s₁) (notedBy (model prog w) A env fun e s' => R (.error e) s') s) :
    codeAny (model prog w) A (.forLoop target it body orelse env) R s := by
  refine codeAny_of_tree ?_
  show wpAny _ A ((forTurn target it body orelse env).onRaise (fun x => do noteFrame x env; theTreesLotGoes x)) _ _ s
  refine wpAny_noted ?_
  simp only [forTurn]
  refine wpAny_bind (wpAny_standAt (wpAny_bind (wpAny_onRaise (wpAny_mono h (fun r s₁ h₁ => ?_) fun _ _ h' => wpAny_standAt h'))))
  cases r with
  | none => exact wpAny_pure ⟨rfl, codeAny_block h₁⟩
  | some v =>
    refine wpAny_bind (wpAny_mono h₁ (fun _ s₁' h₁' => ?_) fun _ _ h' => h')
    refine wpAny_bind (wpAny_mono h₁' (fun _ s₂ h₂ => wpAny_bind (wpAny_mono h₂ (fun f s₃ h₃ => ?_) fun _ _ h' => h')) fun _ _ h' => h')
    cases f with
    | next => exact wpAny_pure ⟨rfl, h₃⟩
    | cont => exact wpAny_pure ⟨rfl, h₃⟩
    | brk => exact wpAny_pure h₃
    | ret v => exact wpAny_pure h₃
end
end Mine
end
section
open PySem PySem.W PyProof.Rows
set_option Elab.async false
namespace Mine
noncomputable abbrev Led := List (Addr × Obj)
/-- the call of the text's def at `f` upon `vs`, the objects `sub` at hand: it ends in `post`, what stood stands -/
noncomputable def Con (w : World) (mean : ExcName → Option Value) (mg mb : Str → Option Value) (f : Addr) (dep : Nat) (vs : List Value) (sub : Led) (post : Led → Value → Prop) : Prop :=
  ∀ (dp un : Nat) (gd : Option (List Code)) (cn : Str) (cs : Scope) (a : Addr) (ccd : Value) (cl : List (Str × Addr)) (outer : List Env) (A₀ : Around) (base h₀ : Heap) (L : Addr) (m : Str → Option Value) (s : Shared)
    (Q E : Value → Shared → Prop),
    Below A₀ base outer h₀ → Fr h₀ L s.heap m → (hd.heap_1 w.params).In h₀ → News h₀ L s.heap sub → Top q (looseW q loose) mean mg mb h₀ → cs.kind = .function → dp + dep < recursionLimit → un + 8 * dep < cLine →
    (∀ r tl h' tk', Fr h₀ L h' m → (∀ b o, s.heap.get? b = some o → h'.get? b = some o) → (∀ p ∈ tl, s.heap.get? p.1 = none ∧ h'.get? p.1 = some p.2) → post tl r → Q r { s with heap := h', toks := tk' }) →
    wpAny (model PySem.Challenge.rw_il0133_01.row.prog w) (ktrTop dp un gd cn cs L a ccd cl outer) (call (.ref f) vs) Q E s

theorem con_grows {h₀ g h h' : Heap} {L L' : Addr} {m' : Str → Option Value} {sub tl all : Led} (kG : GSub h g (sub.map (·.1))) (F' : Fr g L' h' m') (N' : News g L' h' all) (N : News h₀ L h sub)
    (hsub : ∀ p ∈ sub, p ∈ all) (htl : ∀ p ∈ tl, p ∈ all) (hne : ∀ q ∈ sub, ∀ p ∈ tl, p.1 ≠ q.1) :
    (∀ b o, h.get? b = some o → h'.get? b = some o) ∧ (∀ p ∈ tl, h.get? p.1 = none ∧ h'.get? p.1 = some p.2) := by
  refine ⟨fun b o e => ?_, fun p hp => ⟨?_, (N' p (htl p hp)).1⟩⟩
  · by_cases hb : b ∈ sub.map (·.1)
    · obtain ⟨q, hq, rfl⟩ := List.mem_map.mp hb
      have h1 := (N q hq).1
      rw [e] at h1
      cases h1
      exact (N' q (hsub q hq)).1
    · exact F'.keep b o (kG b o e hb)
  · cases e : h.get? p.1 with
    | none => rfl
    | some o =>
      by_cases hb : p.1 ∈ sub.map (·.1)
      · obtain ⟨q, hq, e2⟩ := List.mem_map.mp hb
        exact absurd e2.symm (hne q hq p hp)
      · have h1 := kG p.1 o e hb
        rw [(N' p (htl p hp)).2.2] at h1
        cases h1

theorem con_fin {h₀ g h' : Heap} {L L' : Addr} {m m' : Str → Option Value} {s : Shared} {sub all : Led} {post : Led → Value → Prop} {Q : Value → Shared → Prop} {r : Value} {tk : Nat}
    (hret : ∀ r tl h' tk', Fr h₀ L h' m → (∀ b o, s.heap.get? b = some o → h'.get? b = some o) → (∀ p ∈ tl, s.heap.get? p.1 = none ∧ h'.get? p.1 = some p.2) → post tl r → Q r { s with heap := h', toks := tk' })
    (kG : GSub s.heap g (sub.map (·.1))) (N : News h₀ L s.heap sub) (kF : Fr h₀ L h' m) (F' : Fr g L' h' m') (N' : News g L' h' all)
    (hsub : ∀ p ∈ sub, p ∈ all) (hp : ∃ tl, (∀ p ∈ tl, p ∈ all) ∧ (∀ q ∈ sub, ∀ p ∈ tl, p.1 ≠ q.1) ∧ post tl r) : Q r { s with heap := h', toks := tk } :=
  let ⟨tl, htl, hne, hq⟩ := hp
  let z := con_grows kG F' N' N hsub htl hne
  hret r tl h' tk kF z.1 z.2 hq

theorem con_use {w : World} {mean : ExcName → Option Value} {mg mb : Str → Option Value} {f : Addr} {dep : Nat} {vs : List Value} {sub : Led} {post : Led → Value → Prop}
    {dp un : Nat} {gd : Option (List Code)} {cn : Str} {cs : Scope} {a : Addr} {ccd : Value} {cl : List (Str × Addr)} {outer : List Env} {A₀ : Around} {base h₀ : Heap} {L : Addr} {m : Str → Option Value} {s : Shared} {news : Led}
    {Q E : Value → Shared → Prop} (C : Con w mean mg mb f dep vs sub post) (B : Below A₀ base outer h₀) (F : Fr h₀ L s.heap m) (X : (hd.heap_1 w.params).In h₀) (N : News h₀ L s.heap news) (T : Top q (looseW q loose) mean mg mb h₀)
    (hs : ∀ p ∈ sub, p ∈ news) (hk : cs.kind = .function) (hd : dp + dep < recursionLimit) (hu : un + 8 * dep < cLine)
    (ret : ∀ r tl h' tk', Fr h₀ L h' m → News h₀ L h' (tl ++ news) → (∀ p ∈ tl, ∀ q ∈ news, p.1 ≠ q.1) → post tl r → Q r { s with heap := h', toks := tk' }) :
    wpAny (model PySem.Challenge.rw_il0133_01.row.prog w) (ktrTop dp un gd cn cs L a ccd cl outer) (call (.ref f) vs) Q E s := by
  refine C _ _ _ _ _ _ _ _ _ _ _ _ _ _ _ _ _ B F X (fun p hp => N p (hs p hp)) T hk hd hu ?_
  intro r tl h' tk' F' up new hp
  refine ret r tl h' tk' F' (fun p hp => ?_) (fun p hp q hq e => ?_) hp
  · rcases List.mem_append.mp hp with hp | hp
    · refine ⟨(new p hp).2, fun e => ?_, ?_⟩
      · obtain ⟨o, _, _, e2, _⟩ := F.ns
        have := (new p hp).1
        rw [e, e2] at this; cases this
      · cases e : h₀.get? p.1 with
        | none => rfl
        | some o => have := (new p hp).1; rw [F.keep _ _ e] at this; cases this
    · exact ⟨up _ _ (N p hp).1, (N p hp).2⟩
  · have := (new p hp).1
    rw [e, (N q hq).1] at this; cases this
theorem lt2 {a : Nat} (h : a < 2) : a = 0 ∨ a = 1 := (by decide : ∀ a < 2, a = 0 ∨ a = 1) a h
theorem lt8 {a : Nat} (h : a < 8) : a = 0 ∨ a = 1 ∨ a = 2 ∨ a = 3 ∨ a = 4 ∨ a = 5 ∨ a = 6 ∨ a = 7 := (by decide : ∀ a < 8, a = 0 ∨ a = 1 ∨ a = 2 ∨ a = 3 ∨ a = 4 ∨ a = 5 ∨ a = 6 ∨ a = 7) a h
theorem lt16 {a : Nat} (h : a < 16) : a = 0 ∨ a = 1 ∨ a = 2 ∨ a = 3 ∨ a = 4 ∨ a = 5 ∨ a = 6 ∨ a = 7 ∨ a = 8 ∨ a = 9 ∨ a = 10 ∨ a = 11 ∨ a = 12 ∨ a = 13 ∨ a = 14 ∨ a = 15 := (by decide : ∀ a < 16, a = 0 ∨ a = 1 ∨ a = 2 ∨ a = 3 ∨ a = 4 ∨ a = 5 ∨ a = 6 ∨ a = 7 ∨ a = 8 ∨ a = 9 ∨ a = 10 ∨ a = 11 ∨ a = 12 ∨ a = 13 ∨ a = 14 ∨ a = 15) a h
theorem int16 {x : Int} (h0 : 0 ≤ x) (h1 : x < 16) : x = 0 ∨ x = 1 ∨ x = 2 ∨ x = 3 ∨ x = 4 ∨ x = 5 ∨ x = 6 ∨ x = 7 ∨ x = 8 ∨ x = 9 ∨ x = 10 ∨ x = 11 ∨ x = 12 ∨ x = 13 ∨ x = 14 ∨ x = 15 := by
  obtain ⟨n, rfl⟩ := Int.eq_ofNat_of_zero_le h0
  exact (by decide : ∀ n < 16, ((n : Nat) : Int) = 0 ∨ ((n : Nat) : Int) = 1 ∨ ((n : Nat) : Int) = 2 ∨ ((n : Nat) : Int) = 3 ∨ ((n : Nat) : Int) = 4 ∨ ((n : Nat) : Int) = 5 ∨ ((n : Nat) : Int) = 6 ∨ ((n : Nat) : Int) = 7 ∨ ((n : Nat) : Int) = 8 ∨ ((n : Nat) : Int) = 9 ∨ ((n : Nat) : Int) = 10 ∨ ((n : Nat) : Int) = 11 ∨ ((n : Nat) : Int) = 12 ∨ ((n : Nat) : Int) = 13 ∨ ((n : Nat) : Int) = 14 ∨ ((n : Nat) : Int) = 15) n (Int.ofNat_lt.mp h1)
theorem int19 {x : Int} (h0 : 0 ≤ x) (h1 : x < 19) : x = 0 ∨ x = 1 ∨ x = 2 ∨ x = 3 ∨ x = 4 ∨ x = 5 ∨ x = 6 ∨ x = 7 ∨ x = 8 ∨ x = 9 ∨ x = 10 ∨ x = 11 ∨ x = 12 ∨ x = 13 ∨ x = 14 ∨ x = 15 ∨ x = 16 ∨ x = 17 ∨ x = 18 := by
  obtain ⟨n, rfl⟩ := Int.eq_ofNat_of_zero_le h0
  exact (by decide : ∀ n < 19, ((n : Nat) : Int) = 0 ∨ ((n : Nat) : Int) = 1 ∨ ((n : Nat) : Int) = 2 ∨ ((n : Nat) : Int) = 3 ∨ ((n : Nat) : Int) = 4 ∨ ((n : Nat) : Int) = 5 ∨ ((n : Nat) : Int) = 6 ∨ ((n : Nat) : Int) = 7 ∨ ((n : Nat) : Int) = 8 ∨ ((n : Nat) : Int) = 9 ∨ ((n : Nat) : Int) = 10 ∨ ((n : Nat) : Int) = 11 ∨ ((n : Nat) : Int) = 12 ∨ ((n : Nat) : Int) = 13 ∨ ((n : Nat) : Int) = 14 ∨ ((n : Nat) : Int) = 15 ∨ ((n : Nat) : Int) = 16 ∨ ((n : Nat) : Int) = 17 ∨ ((n : Nat) : Int) = 18) n (Int.ofNat_lt.mp h1)
theorem int7 {x : Int} (h0 : 1 ≤ x) (h1 : x ≤ 7) : x = 1 ∨ x = 2 ∨ x = 3 ∨ x = 4 ∨ x = 5 ∨ x = 6 ∨ x = 7 := by
  obtain ⟨n, rfl⟩ := Int.eq_ofNat_of_zero_le (Int.le_trans (by decide) h0)
  exact (by decide : ∀ n < 8, 1 ≤ n → ((n : Nat) : Int) = 1 ∨ ((n : Nat) : Int) = 2 ∨ ((n : Nat) : Int) = 3 ∨ ((n : Nat) : Int) = 4 ∨ ((n : Nat) : Int) = 5 ∨ ((n : Nat) : Int) = 6 ∨ ((n : Nat) : Int) = 7) n (Nat.lt_succ_of_le (Int.ofNat_le.mp h1)) (Int.ofNat_le.mp h0)
end Mine
end
section
section
theorem Mine.anew_PM : (0 : Nat) = 0 := by w_top off; walk1
end
open PySem PySem.W PySem.W.X PyProof.Rows
set_option Elab.async false
set_option maxRecDepth 100000
set_option maxHeartbeats 0
namespace Mine
set_option hygiene false in
local macro_rules | `(tactic| x_close) => `(tactic| (refine hq _ _ _ _ (fun b o e => D.keep b o e (by cases hasCls o <;> rfl)) (D.nw _ List.mem_cons_self).2 (D.nw _ List.mem_cons_self).1 (D.nw _ (List.mem_cons_of_mem _ List.mem_cons_self)).2 (D.nw _ (List.mem_cons_of_mem _ List.mem_cons_self)).1))
noncomputable abbrev litA (d u : Nat) : Around := { handled := none, depth := d, frames := none, guards := none, units := u }
theorem wpAny_lit {α : Type} {M : Model} {A : Around} {t : Sem α} {Q : α → Shared → Prop} {E : Value → Shared → Prop} {s : Shared} (d u : Nat) (h : wpAny M (litA d u) t Q E s) (hh : A.handled = none) (hd : A.depth ≤ d) (hu : A.units ≤ u) : wpAny M A t Q E s :=
  fun Γ p hΓ => h Γ p ⟨hΓ.1.trans hh, Nat.le_trans hΓ.2.1 hd, nofun, nofun, Nat.le_trans hΓ.2.2.2.2 hu⟩
/-- a Pair: a tuple of its class, and its empty dict -/
noncomputable abbrev pairObj (x : Str) (t : Tok) (y : Str) (u : Tok) (D : Addr) : Obj := { cls := .ref 209, dict := some D, data := .seq #[.str x t, .str y u] }
noncomputable def ob (a : Nat) (P : Params) : Obj := ((hd.heap_1 P).lookup a).getD emptyDict
theorem ob_at {w : World} {h : Heap} (X : (hd.heap_1 w.params).In h) {a : Nat} (e : (((hd.heap_1 w.params).lookup a).isSome) = true) : h.get? a = some (ob a w.params) := X a _ (by
  unfold ob
  cases q : (hd.heap_1 w.params).lookup a with
  | none => rw [q] at e; cases e
  | some o => rfl)
/-- an entry of a namespace -/
noncomputable abbrev en (P : Params) (l : List Nat) (t : Nat) (v : Value) : DictEntry := ⟨PyData.keyHash P ⟨⟨l⟩⟩, .str ⟨⟨l⟩⟩ t, v⟩
/-- the built-ins as far as `tuple`, and the file's own names: the keys written out, the values not -/
noncomputable abbrev es0 (P : Params) (f : Nat → Value) (rest : List DictEntry) : List DictEntry := [
    en P [95,95,110,97,109,101,95,95] 1 (f 0), en P [95,95,100,111,99,95,95] 2 (f 1), en P [95,95,112,97,99,107,97,103,101,95,95] 3 (f 2), en P [95,95,108,111,97,100,101,114,95,95] 4 (f 3), 
    en P [95,95,115,112,101,99,95,95] 5 (f 4), en P [95,95,98,117,105,108,100,95,99,108,97,115,115,95,95] 6 (f 5), en P [95,95,105,109,112,111,114,116,95,95] 7 (f 6), en P [97,98,115] 8 (f 7), 
    en P [97,108,108] 9 (f 8), en P [97,110,121] 10 (f 9), en P [97,115,99,105,105] 11 (f 10), en P [98,105,110] 12 (f 11), en P [98,114,101,97,107,112,111,105,110,116] 13 (f 12), en P [99,97,108,108,97,98,108,101] 14 (f 13), 
    en P [99,104,114] 15 (f 14), en P [99,111,109,112,105,108,101] 16 (f 15), en P [100,101,108,97,116,116,114] 17 (f 16), en P [100,105,114] 18 (f 17), en P [100,105,118,109,111,100] 19 (f 18), 
    en P [101,118,97,108] 20 (f 19), en P [101,120,101,99] 21 (f 20), en P [102,111,114,109,97,116] 22 (f 21), en P [103,101,116,97,116,116,114] 23 (f 22), en P [103,108,111,98,97,108,115] 24 (f 23), 
    en P [104,97,115,97,116,116,114] 25 (f 24), en P [104,97,115,104] 26 (f 25), en P [104,101,120] 27 (f 26), en P [105,100] 28 (f 27), en P [105,110,112,117,116] 29 (f 28), en P [105,115,105,110,115,116,97,110,99,101] 30 (f 29), 
    en P [105,115,115,117,98,99,108,97,115,115] 31 (f 30), en P [105,116,101,114] 32 (f 31), en P [97,105,116,101,114] 33 (f 32), en P [108,101,110] 34 (f 33), en P [108,111,99,97,108,115] 35 (f 34), 
    en P [109,97,120] 36 (f 35), en P [109,105,110] 37 (f 36), en P [110,101,120,116] 38 (f 37), en P [97,110,101,120,116] 39 (f 38), en P [111,99,116] 40 (f 39), en P [111,114,100] 41 (f 40), 
    en P [112,111,119] 42 (f 41), en P [112,114,105,110,116] 43 (f 42), en P [114,101,112,114] 44 (f 43), en P [114,111,117,110,100] 45 (f 44), en P [115,101,116,97,116,116,114] 46 (f 45), 
    en P [115,111,114,116,101,100] 47 (f 46), en P [115,117,109] 48 (f 47), en P [118,97,114,115] 49 (f 48), en P [78,111,110,101] 50 (f 49), en P [69,108,108,105,112,115,105,115] 51 (f 50), 
    en P [78,111,116,73,109,112,108,101,109,101,110,116,101,100] 52 (f 51), en P [70,97,108,115,101] 53 (f 52), en P [84,114,117,101] 54 (f 53), en P [98,111,111,108] 55 (f 54), en P [109,101,109,111,114,121,118,105,101,119] 56 (f 55), 
    en P [98,121,116,101,97,114,114,97,121] 57 (f 56), en P [98,121,116,101,115] 58 (f 57), en P [99,108,97,115,115,109,101,116,104,111,100] 59 (f 58), en P [99,111,109,112,108,101,120] 60 (f 59), 
    en P [100,105,99,116] 61 (f 60), en P [101,110,117,109,101,114,97,116,101] 62 (f 61), en P [102,105,108,116,101,114] 63 (f 62), en P [102,108,111,97,116] 64 (f 63), en P [102,114,111,122,101,110,115,101,116] 65 (f 64), 
    en P [112,114,111,112,101,114,116,121] 66 (f 65), en P [105,110,116] 67 (f 66), en P [108,105,115,116] 68 (f 67), en P [109,97,112] 69 (f 68), en P [111,98,106,101,99,116] 70 (f 69), 
    en P [114,97,110,103,101] 71 (f 70), en P [114,101,118,101,114,115,101,100] 72 (f 71), en P [115,101,116] 73 (f 72), en P [115,108,105,99,101] 74 (f 73), en P [115,116,97,116,105,99,109,101,116,104,111,100] 75 (f 74), 
    en P [115,116,114] 76 (f 75), en P [115,117,112,101,114] 77 (f 76), en P [116,117,112,108,101] 78 (.type "tuple")] ++ rest
noncomputable abbrev es3 (P : Params) (f : Nat → Value) : List DictEntry := [
    en P [95,95,110,97,109,101,95,95] 165 (f 0), en P [95,95,100,111,99,95,95] 166 (f 1), en P [95,95,112,97,99,107,97,103,101,95,95] 167 (f 2), en P [95,95,108,111,97,100,101,114,95,95] 168 (f 3), 
    en P [95,95,115,112,101,99,95,95] 169 (f 4), en P [95,95,97,110,110,111,116,97,116,105,111,110,115,95,95] 170 (f 5), en P [95,95,98,117,105,108,116,105,110,115,95,95] 171 (f 6), en P [95,95,102,105,108,101,95,95] 173 (f 7), 
    en P [95,95,99,97,99,104,101,100,95,95] 174 (f 8), en P [95,119,97,108,108] 193 (f 9), en P [83,95,73,77,79,68,69] 203 (f 10), en P [83,95,73,70,77,84] 211 (f 11), en P [83,95,73,70,68,73,82] 213 (f 12), 
    en P [83,95,73,70,67,72,82] 215 (f 13), en P [83,95,73,70,66,76,75] 217 (f 14), en P [83,95,73,70,82,69,71] 219 (f 15), en P [83,95,73,70,73,70,79] 221 (f 16), en P [83,95,73,70,76,78,75] 223 (f 17), 
    en P [83,95,73,70,83,79,67,75] 225 (f 18), en P [83,95,73,83,85,73,68] 227 (f 19), en P [83,95,73,83,71,73,68] 229 (f 20), en P [83,95,73,83,86,84,88] 231 (f 21), en P [83,95,73,82,87,88,85] 233 (f 22), 
    en P [83,95,73,82,85,83,82] 235 (f 23), en P [83,95,73,87,85,83,82] 237 (f 24), en P [83,95,73,88,85,83,82] 239 (f 25), en P [83,95,73,82,87,88,71] 241 (f 26), en P [83,95,73,82,71,82,80] 243 (f 27), 
    en P [83,95,73,87,71,82,80] 245 (f 28), en P [83,95,73,88,71,82,80] 247 (f 29), en P [83,95,73,82,87,88,79] 249 (f 30), en P [83,95,73,82,79,84,72] 251 (f 31), en P [83,95,73,87,79,84,72] 253 (f 32), 
    en P [83,95,73,88,79,84,72] 255 (f 33), en P [95,102,105,108,101,109,111,100,101,95,116,97,98,108,101] 281 (f 34), en P [102,105,108,101,109,111,100,101] 294 (f 35), en P [95,116,117,112,108,101,103,101,116,116,101,114] 353 (f 36), 
    en P [80,97,105,114] 468 (f 37), en P [95,108,97,119,95,115,116,101,112] 517 (f 38), en P [95,108,97,119,95,119,111,114,100,115] 523 (f 39), en P [95,108,97,119,95,108,105,110,101] 529 (f 40), 
    en P [95,108,97,119,95,114,101,97,100] 540 (f 41), en P [95,108,97,119,95,98,105,116,115] 546 (f 42), en P [95,108,97,119,95,100,111,110,101] 561 (f 43), en P [95,108,97,119,95,114,111,119] 567 (f 44), 
    en P [95,108,97,119,95,114,117,110] 579 (f 45), en P [95,108,97,119,95,100,117,101] 591 (f 46), en P [108,97,119] 597 (f 47)]
noncomputable def valOf (d : Data) (i : Nat) : Value := match d with | .dict es _ => ((es.toList[i]?).map (·.val)).getD .none | _ => .none
noncomputable def restOf (d : Data) (i : Nat) : List DictEntry := match d with | .dict es _ => es.toList.drop i | _ => []
theorem pair_makes_at {prog : Program} {w : World} {f g : Nat → Value} {rest : List DictEntry} {s : Shared} {Q E : Value → Shared → Prop} {x y : Str} {t u : Tok}
   (X : (hd.heap_1 w.params).In s.heap) (h0 : s.heap.get? (nat_lit 0) = some ⟨.type "dict", none, .dict ⟨es0 w.params f rest⟩ 159, #[]⟩) (h3 : s.heap.get? (nat_lit 3) = some ⟨.type "dict", none, .dict ⟨es3 w.params g⟩ 48, #[]⟩)
   (hq : ∀ p D h' tk', (∀ b o, s.heap.get? b = some o → h'.get? b = some o) → s.heap.get? p = none → h'.get? p = some (pairObj x t y u D) → s.heap.get? D = none → h'.get? D = some emptyDict → Q (.ref p) { s with heap := h', toks := tk' }) :
   wpAny (model prog w) (litA 900 9100) (call (.ref 209) [.str x t, .str y u]) Q E s := by
  x_run
theorem pair_makes {w : World} {s : Shared} {Q E : Value → Shared → Prop} {x y : Str} {t u : Tok}
   (X : (hd.heap_1 w.params).In s.heap)
   (hq : ∀ p D h' tk', (∀ b o, s.heap.get? b = some o → h'.get? b = some o) → s.heap.get? p = none → h'.get? p = some (pairObj x t y u D) → s.heap.get? D = none → h'.get? D = some emptyDict → Q (.ref p) { s with heap := h', toks := tk' }) :
   wpAny (model prg w) (litA 900 9100) (call (.ref 209) [.str x t, .str y u]) Q E s :=
  pair_makes_at (f := valOf (ob 0 w.params).data) (g := valOf (ob 3 w.params).data) (rest := restOf (ob 0 w.params).data 78) X ((ob_at X (a := 0) (by kernel_rfl)).trans (by kernel_rfl)) ((ob_at X (a := 3) (by kernel_rfl)).trans (by kernel_rfl)) hq
end Mine
end
section
section
theorem Mine.anew_PN : (0 : Nat) = 0 := by w_top off; walk1
end
open PySem PySem.W PySem.W.X PyProof.Rows
set_option Elab.async false
set_option maxRecDepth 100000
set_option maxHeartbeats 0
namespace Mine
set_option hygiene false in
local macro_rules | `(tactic| x_close) => `(tactic| (exact hq))
theorem pair_type {prog : Program} {w : World} {s : Shared} {Q E : Value → Shared → Prop} {x y : Str} {t u : Tok} {p DD : Addr}
   (_X : (hd.heap_1 w.params).In s.heap) (hp : s.heap.get? p = some { cls := .ref 209, dict := some DD, data := .seq #[.str x t, .str y u] })
   (hq : Q (.ref 209) s) :
   wpAny (model prog w) (litA 900 9100) (call (.type "type") [.ref p]) Q E s := by
  x_run
theorem pair_sub {prog : Program} {w : World} {s : Shared} {Q E : Value → Shared → Prop}
   (X : (hd.heap_1 w.params).In s.heap) 
   (hq : Q (.bool true) s) :
   wpAny (model prog w) (litA 900 9100) (call (.builtin "issubclass") [.ref 209, .type "tuple"]) Q E s := by
  x_run
open MeetsSeq in
theorem pair_getitem_at (l D : Addr) (items : Array Value) (i : Int) (u : Tok) (k : Nat) (y : Value) (hlo : -2 ^ 63 ≤ i) (hhi : i < 2 ^ 63) (hk : seqIndex? i items.size = some k) (hy : items[k]? = some y) :
    Meets (Builtin.«tuple.__getitem__» ⟨[.ref l, .int i u], []⟩)
      (fun _ R s => s.heap.get? l = some { cls := .ref 209, dict := some D, data := .seq items, slots := #[] } ∧ R (.ok (.ret y)) s) :=
  .of_wp fun prog w A R s h => by
    obtain ⟨hp, g, d, tk, os⟩ := s; obtain ⟨hl, h⟩ := h
    have f1 := AutoSeq1.idx_int
    have hf : ¬ (decide (i < -2 ^ 63) || decide (i ≥ 2 ^ 63)) = true := by simp; omega
    wp_walk using wpAny_loadPart' hl
    simp only [hk, hy, Option.bind_some]
    refine wpAny_ite_false (by simp; omega) ?_
    wp_walk
    exact ⟨_, rfl, h⟩
theorem pair_isTup {w : World} {h : Heap} {l D : Addr} {items : Array Value} (X : (hd.heap_1 w.params).In h) (hl : h.get? l = some { cls := .ref 209, dict := some D, data := .seq items, slots := #[] }) :
    Looks (model prg w) h (isInstance (.ref l) (.type "tuple")) true := by
  unfold isInstance
  exact ((show Looks (model prg w) h (typeOf (.ref l)) (.ref 209) from (Looks.ld hl).andThen .now)).andThen (looks_mroIn X (by kernel_rfl))
theorem call_slotL {prog : Program} {w : World} {A : Around} {s : Shared} {Q E : Value → Shared → Prop} {id owner n : String} {b : Builtin} {self : Value} {rest : List Value} {S : PySem.Spec} (hq : plainId id = true) (hb : entryFor table id = some b) (hk : builtinKind id = some .slot) (hs : splitId id = some (owner, n))
    (hi : Looks (model prog w) s.heap (isInstance self (.type owner)) true) (ha : argsOk id ⟨self :: rest, []⟩) (g : Meets (b ⟨self :: rest, []⟩) S) (h : S A (wants Q E) s) : wpAny (model prog w) A (call (.builtin id) (self :: rest)) Q E s :=
  wpAny_call (codeAny_call_builtin hq hb (check_slot hk hs hi ha (g prog w A (wants Q E) s h)))
theorem tg_kind : builtinKind "tuple.__getitem__" = some .slot := by decide +kernel
theorem tg_split : splitId "tuple.__getitem__" = some ("tuple", "__getitem__") := by decide +kernel
theorem pair_item {w : World} {A : Around} {s : Shared} {Q E : Value → Shared → Prop} {p D : Addr} {items : Array Value} {i : Int} {u : Tok} {k : Nat} {y : Value}
   (X : (hd.heap_1 w.params).In s.heap) (hp : s.heap.get? p = some { cls := .ref 209, dict := some D, data := .seq items, slots := #[] }) (hlo : -2 ^ 63 ≤ i) (hhi : i < 2 ^ 63) (hk : seqIndex? i items.size = some k) (hy : items[k]? = some y)
   (hq : Q y s) : wpAny (model prg w) A (call (.builtin "tuple.__getitem__") [.ref p, .int i u]) Q E s := by
  exact call_slotL PySem.F.slot_tuple_getitem.plain PySem.F.entry_tuple_getitem tg_kind tg_split (pair_isTup X hp) (PySem.F.args_tuple_getitem_2 _ _) (pair_getitem_at p D items i u k y hlo hhi hk hy) ⟨hp, hq⟩
end Mine
end
section
open PySem PySem.W PyProof.Rows
set_option Elab.async false
set_option maxRecDepth 100000
set_option maxHeartbeats 8000000


namespace Mine
open Sem (wp)
noncomputable def isClsAt (K : Frag) (a : Addr) : Bool := match K.lookup a with | some ⟨_, _, .cls _, _⟩ => true | _ => false
noncomputable def fdAt (K : Frag) (a : Addr) : Option FuncData := match K.lookup a with | some ⟨_, _, .func fd, _⟩ => some fd | _ => none
theorem fd_of {K : Frag} {a : Addr} {fd : FuncData} (h : fdAt K a = some fd) : ∃ oc od sl, K.lookup a = some ⟨oc, od, .func fd, sl⟩ := by
  unfold fdAt at h
  split at h
  · rename_i q; cases h; exact ⟨_, _, _, q⟩
  · cases h
theorem isCls_of {K : Frag} {a : Addr} (h : isClsAt K a = true) : ∃ oc od cd sl, K.lookup a = some ⟨oc, od, .cls cd, sl⟩ := by
  unfold isClsAt at h
  split at h
  · rename_i q; exact ⟨_, _, _, _, q⟩
  · cases h
section
variable {w : World} {A : Around} {R : Result → Shared → Prop} {s : Shared}
theorem look {α : Type} {t : Sem α} {r : α} {h : Heap} (X : (hd.heap_1 w.params).In h) (e : peek (hd.heap_1 w.params) ⟨prg, w.params⟩ t = some r) : Looks (model prg w) h t r := Looks.of_peek X e
theorem notMarked {st : List (Code × Pos)} (hc : hasCaller st = true) : pythonCodeMadeTheCall [] (st.map (·.1)) = false := by
  have e : (st.map (·.1)).any Code.isCaller = true := by
    unfold hasCaller at hc
    rw [List.any_map]
    exact hc
  show ((!((st.map (·.1)).any Code.isCaller)) && _ && _) = false
  rw [e]; rfl
theorem refuses {α : Type} {msg : String} {Q : α → Shared → Prop} {E : Value → Shared → Prop} (hm : (Str.ofString msg).length ≤ sizeLine) (hh : A.handled = none)
    (h : ∀ h' e x tk, Heap.MadeExc s.heap h' e "TypeError" [x] → E (.ref e) { s with heap := h', toks := tk }) : wpH (model prg w) A (theBinderRefuses msg : Sem α) Q E s := by
  unfold theBinderRefuses
  refine wpH_pre (wpAny_mkStr ?_ hm)
  refine wpH_pre (wpAny_newExc_plain plainExc_TypeError fun h' e hx => ?_)
  refine wpH_bind ?_
  unfold markTheRefusal
  refine wpH_bind (wpH_stack fun st hs => ?_)
  rw [notMarked hs]
  refine wpH_pure (wpH_of_any (wpAny_raiseNew_none hh (h _ _ _ _ hx)))
theorem refused {v : Value} (fd : FuncData) (hp : fd.params.args.map (·.arg) = [Str.ofString "_cls", Str.ofString "name", Str.ofString "value"]) (h1 : fd.params.posonlyargs = []) (h2 : fd.params.kwonlyargs = []) (h3 : fd.params.vararg = none)
    (h4 : fd.defaults = .none) (h5 : fd.qualname = Str.ofString "Pair.__new__") (hh : A.handled = none) {Q : List (Str × Value) → Shared → Prop} {E : Value → Shared → Prop}
    (h : ∀ h' e x tk, Heap.MadeExc s.heap h' e "TypeError" [x] → E (.ref e) { s with heap := h', toks := tk }) :
    wpH (model prg w) A (bindArgs fd ⟨[.ref 209, v], []⟩) Q E s := by
  unfold bindArgs
  simp only [hp, h1, h2, h3, h4, h5]
  rw [List.forIn_nil]
  with_reducible refine wpH_pre (wpAny_pure ?_)
  dsimp only
  with_reducible refine wpH_pre (wpAny_pure ?_)
  rw [if_neg (Bool.eq_false_iff.mp (by kernel_rfl))]
  rw [if_pos (by kernel_rfl)]
  with_reducible refine wpH_pre (wpAny_rule ?_)
  with_reducible refine wpH_bind ?_
  exact (refuses (Nat.le_of_ble_eq_true (by kernel_rfl)) hh h)
theorem pair_raises {v : Value} (X : (hd.heap_1 w.params).In s.heap) (hh : A.handled = none)
    (h : ∀ h' e x tk, Heap.MadeExc s.heap h' e "TypeError" [x] → R (.error (.ref e)) { s with heap := h', toks := tk }) :
    codeH (model prg w) A (.call (.ref 209) ⟨[v], []⟩) R s := by
  have L1 : Looks (model prg w) s.heap (specialOf (.ref 209) "__call__") (some (.builtin "type.__call__")) := looks_specialIn X (by kernel_rfl)
  have L2 : Looks (model prg w) s.heap (isInstance (.ref 209) (.type "type")) true := looks_instIn X (by kernel_rfl)
  have L3 : Looks (model prg w) s.heap (mroOf (.ref 209)) [.ref 209, .ref 186, .type "tuple", .type "object"] := look X (by kernel_rfl)
  have L4 : Looks (model prg w) s.heap (Bind.madeBy (.ref 209)) none := look X (by kernel_rfl)
  obtain ⟨oc, od, cd, sl, ho⟩ := isCls_of (K := hd.heap_1 w.params) (a := 209) (by kernel_rfl)
  refine codeH_of_tree (wpH_of_any ?_)
  show wpAny _ _ (callAny (.ref 209) _) _ _ _
  refine nd_load (X _ _ ho) ?_
  show wpAny _ _ (callAny.viaDunder (.ref 209) _) _ _ _
  unfold callAny.viaDunder
  refine wpAny_bind (L1.here ?_)
  dsimp only
  rw [tc_bind]
  refine wpAny_bind (wpAny_pure (wpAny_bind (wpAny_pure ?_)))
  refine wpAny_pure (a := Fin.again (.call (.builtin "type.__call__") ⟨[.ref 209, v], []⟩)) (And.intro rfl ?_)
  refine codeH_call_builtin_at (Code.quiet_builtin _ (by decide +kernel)) entry_typeCall (check_slot tc_kind tc_split L2 (tc_args _ _ _) ?_)
  unfold Builtin.«type.__call__»
  dsimp only
  rw [if_neg (by decide)]
  refine wpH_pre (L3.here ?_)
  rw [if_neg (by decide)]
  refine wpH_pre (L4.here ?_)
  dsimp only
  refine wpH_pre (cls_bind (mc := .type "type") X (by kernel_rfl) (show findCls (hd.heap_1 w.params) (.ref 209) (.type "type") "__new__" = some (.get (.builtin "staticmethod.__get__") (.ref 187) .none (.ref 209)) by kernel_rfl) (wpAny_call (sm_get (s := { s with toks := s.toks + 1 }) X (show recIn (hd.heap_1 w.params) 187 "staticmethod" = some (.ref 136 :: []) by kernel_rfl) (handed_on (by kernel_rfl) ?_))))
  refine wpH_bind (wpH_holding (wpH_call ?_))
  obtain ⟨fd, hfd⟩ : ∃ fd, fdAt (hd.heap_1 w.params) 136 = some fd := Option.isSome_iff_exists.mp (by kernel_rfl)
  have f1 : (fdAt (hd.heap_1 w.params) 136).map (fun fd => fd.params.args.map (fun a => a.arg)) = some [Str.ofString "_cls", Str.ofString "name", Str.ofString "value"] := by kernel_rfl
  have f2 : (fdAt (hd.heap_1 w.params) 136).map (fun fd => fd.params.posonlyargs) = some [] := by kernel_rfl
  have f3 : (fdAt (hd.heap_1 w.params) 136).map (fun fd => fd.params.kwonlyargs) = some [] := by kernel_rfl
  have f4 : (fdAt (hd.heap_1 w.params) 136).map (fun fd => fd.params.vararg) = some none := by kernel_rfl
  have f5 : (fdAt (hd.heap_1 w.params) 136).map (fun fd => fd.defaults) = some .none := by kernel_rfl
  have f6 : (fdAt (hd.heap_1 w.params) 136).map (fun fd => fd.qualname) = some (Str.ofString "Pair.__new__") := by kernel_rfl
  have f7 : (fdAt (hd.heap_1 w.params) 136).map (fun fd => fd.code) = some (.ref 135) := by kernel_rfl
  rw [hfd] at f1 f2 f3 f4 f5 f6 f7
  simp only [Option.map_some, Option.some.injEq] at f1 f2 f3 f4 f5 f6 f7
  have L6 : Looks (model prg w) s.heap (field (.ref 135) 1) (.str (Str.ofString "Pair.__new__") 375) := look X (by kernel_rfl)
  obtain ⟨oc', od', sl', ho'⟩ := fd_of hfd
  refine codeH_of_tree ?_
  show wpH _ _ (callAny (.ref 136) _) _ _ _
  simp only [callAny]
  refine wpH_pre (wpAny_load (X _ _ ho') ?_)
  dsimp only
  unfold callFunction
  rw [f7]
  refine wpH_pre (m := field (.ref 135) 1) (L6 _ _ _ _ (fun _ _ e => e) ?_)
  refine wpH_pre (wpAny_pure ?_)
  refine wpH_bind ?_
  refine refused fd f1 f2 f3 f4 f5 f6 ?_ ?_
  · exact hh
  · intro h' e x tk hx
    exact h _ _ _ _ hx
end
end Mine
end
section
open PySem PySem.W PySem.Calls PyProof.Rows
set_option Elab.async false
set_option maxRecDepth 100000
set_option maxHeartbeats 8000000
namespace Mine
section
variable {prog : Program} {w : World} {A : Around} {E : Value → Shared → Prop} {s : Shared} {K : Frag} {T : String} {h₀ : Heap} {L : Addr} {m : Str → Option Value}
theorem type_val {a : Value} {name : Str} {expr : Bool} {Q : Value → Shared → Prop} (F : Fr h₀ L s.heap m) (X₀ : K.In h₀) (ht : kitMeta T = true) (hs : Manifest.isStub T = false)
    (e : findCls K (.type T) (.type "type") name = some (.val a)) (hh : handedIn a = true) (h : Q a { s with toks := s.toks + 1 }) : wpAny (model prog w) A (getAttr (.type T) name expr) Q E s := by
  have X := X₀.keeps F.keep
  have hstub : opaqueClassAbove (.type T) = pure none := by unfold opaqueClassAbove; dsimp only; rw [hs]; rfl
  have L0 : Looks (model prog w) s.heap (typeOf (.type T)) (.type "type") := Looks.of_pure (kitMeta_of ht)
  have LO : Looks (model prog w) s.heap (opaqueClassAbove (.type T)) none := Looks.of_pure hstub
  have hg : findIn K (.type "type") "__getattribute__" = some (some (.builtin "type.__getattribute__")) := type_tga
  refine cls_open X LO L0 hg (looks_hook X (r := none) (by rfl)) (by show subIn K _ _ = _; rfl) e ?_
  exact wpAny_pure (by show wpAny _ _ (handedOut a) _ _ _; rw [handedOut_of hh]; exact wpAny_pure h)
end
end Mine
end
section
open PySem PySem.W PySem.Calls PyProof.Rows
set_option Elab.async false
set_option maxRecDepth 100000
set_option maxHeartbeats 8000000
namespace Mine
section
variable {prog : Program} {w : World} {A : Around} {E : Value → Shared → Prop} {s : Shared} {K : Frag} {T : String} {name : Str} {h₀ : Heap} {L : Addr} {m : Str → Option Value}
theorem type_method {pl : Sem Bool} {Q : Value × List Value → Shared → Prop} (F : Fr h₀ L s.heap m) (X₀ : K.In h₀) (ht : kitMeta T = true)
    (h : wpAny (model prog w) A (getAttr (.type T) name) (fun v => Q (v, [])) E s) : wpAny (model prog w) A (getMethod (.type T) name pl) Q E s := by
  have LL : Looks (model prog w) s.heap (specialOf (.type T) "__getattribute__") (some (.builtin "type.__getattribute__")) := by
    unfold specialOf
    exact (Looks.of_pure (M := model prog w) (h := s.heap) (kitMeta_of ht)).andThen (looks_findIn (X₀.keeps F.keep) type_tga)
  unfold getMethod
  refine wpAny_bind (LL.here ?_)
  dsimp only
  rw [if_pos canon_tga]
  exact wpAny_bind (wpAny_mono h (fun _ _ z => wpAny_pure z) fun _ _ z => z)
end
section
variable {w : World} {A : Around} {E : Value → Shared → Prop} {s : Shared} {h₀ : Heap} {L : Addr} {m : Str → Option Value} {news : Led} {p D : Addr} {x y : Str} {t u : Tok}
theorem kp_type {Q : Value → Shared → Prop} (F : Fr h₀ L s.heap m) (X₀ : (hd.heap_1 w.params).In h₀) (N : News h₀ L s.heap news) (hm : (p, pairObj x t y u D) ∈ news) (hh : A.handled = none) (hd : A.depth ≤ 900) (hu : A.units ≤ 9100) (q : Q (.ref 209) s) :
    wpAny (model prg w) A (call (.type "type") [.ref p]) Q E s := wpAny_lit 900 9100 (pair_type (X₀.keeps F.keep) (N _ hm).1 q) hh hd hu
theorem kp_sub {Q : Value → Shared → Prop} (F : Fr h₀ L s.heap m) (X₀ : (hd.heap_1 w.params).In h₀) (hh : A.handled = none) (hd : A.depth ≤ 900) (hu : A.units ≤ 9100) (q : Q (.bool true) s) :
    wpAny (model prg w) A (call (.builtin "issubclass") [.ref 209, .type "tuple"]) Q E s := wpAny_lit 900 9100 (pair_sub (X₀.keeps F.keep) q) hh hd hu
theorem kp_item0 {Q : Value → Shared → Prop} {v : Tok} (F : Fr h₀ L s.heap m) (X₀ : (hd.heap_1 w.params).In h₀) (N : News h₀ L s.heap news) (hm : (p, pairObj x t y u D) ∈ news) (q : Q (.str x t) s) :
    wpAny (model prg w) A (call (.builtin "tuple.__getitem__") [.ref p, .int 0 v]) Q E s := pair_item (k := 0) (X₀.keeps F.keep) (N _ hm).1 (by decide) (by decide) (by kernel_rfl) rfl q
theorem kp_item1 {Q : Value → Shared → Prop} {v : Tok} (F : Fr h₀ L s.heap m) (X₀ : (hd.heap_1 w.params).In h₀) (N : News h₀ L s.heap news) (hm : (p, pairObj x t y u D) ∈ news) (q : Q (.str y u) s) :
    wpAny (model prg w) A (call (.builtin "tuple.__getitem__") [.ref p, .int 1 v]) Q E s := pair_item (k := 1) (X₀.keeps F.keep) (N _ hm).1 (by decide) (by decide) (by kernel_rfl) rfl q
theorem bt_get {s : Shared} {a p : Addr} {name qual : Str} {params : Arguments} {body : List Stmt} {scope : Scope} {dV kV doc pm cdv ct : Value} {an : Option Addr} (X : (hd.heap_1 w.params).In s.heap)
    (e : ∀ P S, peek (hd.heap_1 P) S (bindArgs (fnOf name qual params body scope dV kV doc pm an cdv ct) ⟨[.ref a, .ref p, .ref 209], []⟩) = some [(Str.ofString "self", Value.ref a), (Str.ofString "obj", Value.ref p), (Str.ofString "objtype", Value.ref 209)]) :
    BindsTo s (fnOf name qual params body scope dV kV doc pm an cdv ct) ⟨[.ref a, .ref p, .ref 209], []⟩ [(Str.ofString "self", Value.ref a), (Str.ofString "obj", Value.ref p), (Str.ofString "objtype", Value.ref 209)] := by
  intro M A E Q q
  exact (Looks.of_peek (M := M) X (e _ _)).here q
end
end Mine
end
section
section
theorem Mine.anew_G1 : (0 : Nat) = 0 := by w_top off; walk1
end
open PySem PySem.W PyProof.Rows
set_option Elab.async false
set_option maxRecDepth 100000
set_option maxHeartbeats 8000000
namespace Mine

local macro_rules | `(tactic| walk_at "getAttr") => `(tactic| (k_here; (with_reducible show wpAny _ _ (getAttr (Value.type "tuple") (PySem.Str.ofString "__getitem__") _) _ _ _); k_dflt (refine' type_val (a := .builtin "tuple.__getitem__") ?F ?X ?t ?s ?e ?q ?_; (case F => k_asm); (case X => k_asm); (case t => decide +kernel); (case s => decide +kernel); (case e => kernel_rfl); (case q => kernel_rfl))))
set_option hygiene false in
local macro_rules | `(tactic| walk_at "call type:type") => `(tactic| (k_here; (with_reducible show wpAny _ _ (call (Value.type "type") [Value.ref _]) _ _ _); k_dflt (refine' kp_type ?F ?X ?N ?m ?h ?d ?u ?_; (case F => k_asm); (case X => k_asm); (case N => k_asm); (case m => k_mem); (case h => exact rfl); (case d => (show dp + 1 ≤ 900; have e9 : recursionLimit = 1000 := rfl; omega)); (case u => (show un + 3 ≤ 9100; have e9 : cLine = 9900 := rfl; omega)))))
set_option hygiene false in
local macro_rules | `(tactic| walk_at "call builtin:issubclass") => `(tactic| (k_here; (with_reducible show wpAny _ _ (call (Value.builtin "issubclass") [Value.ref 209, Value.type "tuple"]) _ _ _); k_dflt (refine' kp_sub ?F ?X ?h ?d ?u ?_; (case F => k_asm); (case X => k_asm); (case h => exact rfl); (case d => (show dp + 1 ≤ 900; have e9 : recursionLimit = 1000 := rfl; omega)); (case u => (show un + 3 ≤ 9100; have e9 : cLine = 9900 := rfl; omega)))))
local macro_rules | `(tactic| walk_at "getMethod") => `(tactic| (k_here; (with_reducible show wpAny _ _ (getMethod (Value.type "tuple") (PySem.Str.ofString "__getitem__") _) _ _ _); k_dflt (refine' type_method ?F ?X ?g ?_; (case F => k_asm); (case X => k_asm); (case g => decide +kernel))))
set_option hygiene false in
local macro_rules | `(tactic| walk_at "call builtin:tuple.__getitem__") => `(tactic| (k_here; (with_reducible show wpAny _ _ (call (Value.builtin "tuple.__getitem__") [Value.ref _, Value.int _ _]) _ _ _); k_dflt (refine' kp_item0 ?F ?X ?N ?m ?_; (case F => k_asm); (case X => k_asm); (case N => k_asm); (case m => k_mem))))
theorem ct_get {w : World} {mean : ExcName → Option Value} {mg mb : Str → Option Value} (x y : Str) (t u : Tok) (p D : Addr) :
    Con w mean mg mb 97 110 [.ref 178, .ref p, .ref 209] [(p, pairObj x t y u D), (D, emptyDict)] (fun _ r => r = .str x t) := by
  unfold Con; k_fill
  intro dp un gd cn cs a ccd cl outer A₀ base h₀ L m s Q E B F X N T hk hd hu hret
  refine wpAny_call ?_
  k_dflt (refine' code_defG ?k1 ?k2 ?k3 ?k4 ?k5 ?kA ?kF ?kK ?k6 ?k7 ?k8 ?k9 ?kB ?_ ?c2 ?c3 ?c4 ?c5; (case kA => exact rfl); (case kF => exact rfl); (case kK => assumption); (case k1 => k_asm); (case k2 => k_asm); (case k3 => k_asm); (case k4 => k_asm); (case k5 => k_asm); (case k6 => k_is); (case k7 => k_is); (case k8 => ktr_room); (case k9 => exact bt_get (X.keeps F.keep) (by intro P S; kernel_rfl)); (case c5 => decide); (case kB => exact locs rfl); (case c2 => exact rfl); (case c3 => exact rfl); (case c4 => exact rfl))
  k_whole
  intro g' L' h' FG' F' N' B' X' T' kG'
  try dsimp only
  try k_fold
  replace F' : Fr g' L' h' (fun y => List.lookup y [(Str.ofString "objtype", Value.ref 209), (Str.ofString "obj", Value.ref p), (Str.ofString "self", Value.ref 178)]) := F'
  k_steps
  exact con_fin hret kG' N (by assumption) (by assumption) (by assumption) (fun q hq => hq) ⟨[], List.forall_mem_nil _, (fun _ _ => List.forall_mem_nil _), rfl⟩
set_option hygiene false in
local macro_rules | `(tactic| walk_at "call builtin:tuple.__getitem__") => `(tactic| (k_here; (with_reducible show wpAny _ _ (call (Value.builtin "tuple.__getitem__") [Value.ref _, Value.int _ _]) _ _ _); k_dflt (refine' kp_item1 ?F ?X ?N ?m ?_; (case F => k_asm); (case X => k_asm); (case N => k_asm); (case m => k_mem))))
theorem ct_get2 {w : World} {mean : ExcName → Option Value} {mg mb : Str → Option Value} (x y : Str) (t u : Tok) (p D : Addr) :
    Con w mean mg mb 97 110 [.ref 181, .ref p, .ref 209] [(p, pairObj x t y u D), (D, emptyDict)] (fun _ r => r = .str y u) := by
  unfold Con; k_fill
  intro dp un gd cn cs a ccd cl outer A₀ base h₀ L m s Q E B F X N T hk hd hu hret
  refine wpAny_call ?_
  k_dflt (refine' code_defG ?k1 ?k2 ?k3 ?k4 ?k5 ?kA ?kF ?kK ?k6 ?k7 ?k8 ?k9 ?kB ?_ ?c2 ?c3 ?c4 ?c5; (case kA => exact rfl); (case kF => exact rfl); (case kK => assumption); (case k1 => k_asm); (case k2 => k_asm); (case k3 => k_asm); (case k4 => k_asm); (case k5 => k_asm); (case k6 => k_is); (case k7 => k_is); (case k8 => ktr_room); (case k9 => exact bt_get (X.keeps F.keep) (by intro P S; kernel_rfl)); (case c5 => decide); (case kB => exact locs rfl); (case c2 => exact rfl); (case c3 => exact rfl); (case c4 => exact rfl))
  k_whole
  intro g' L' h' FG' F' N' B' X' T' kG'
  try dsimp only
  try k_fold
  replace F' : Fr g' L' h' (fun y => List.lookup y [(Str.ofString "objtype", Value.ref 209), (Str.ofString "obj", Value.ref p), (Str.ofString "self", Value.ref 181)]) := F'
  k_steps
  exact con_fin hret kG' N (by assumption) (by assumption) (by assumption) (fun q hq => hq) ⟨[], List.forall_mem_nil _, (fun _ _ => List.forall_mem_nil _), rfl⟩
end Mine
end
section
open PySem PySem.W PySem.Calls PyProof.Rows
set_option Elab.async false
set_option maxRecDepth 100000
set_option maxHeartbeats 400000
namespace Mine
section
variable {prog : Program} {w : World} {A : Around} {E : Value → Shared → Prop} {s : Shared} {K : Frag} {x C : Addr} {ox : Obj} {od : Option Obj} {name : Str} {expr : Bool} {Q : Value → Shared → Prop}
theorem call_slotW {id owner n : String} {b : Builtin} {self : Value} {rest : List Value} (hq : plainId id = true) (hb : entryFor table id = some b) (hk : builtinKind id = some .slot) (hs : splitId id = some (owner, n))
    (hi : Looks (model prog w) s.heap (isInstance self (.type owner)) true) (ha : argsOk id ⟨self :: rest, []⟩)
    (h : wpAny (model prog w) A.in1 (b ⟨self :: rest, []⟩) (fun fin s' => ∃ v, fin = .done (.ret v) ∧ Q v s') E s) : wpAny (model prog w) A (call (.builtin id) (self :: rest)) Q E s :=
  wpAny_call (codeAny_call_builtin hq hb (check_slot hk hs hi ha (wpAny_mono h (fun fin s' z => by obtain ⟨v, rfl, z⟩ := z; exact z) fun _ _ z => z)))
theorem entry_tga : entryFor table "tuple.__getattribute__" = some Builtin.«object.__getattribute__» :=
  entryFor_alias (id' := "object.__getattribute__") (by kernel_rfl) (by first | rfl | decide +kernel | (unfold String.splitOn; simp +decide [String.splitOnAux])) (by decide +kernel) (by kernel_rfl)
theorem tga_kind : builtinKind "tuple.__getattribute__" = some .slot := by decide +kernel
theorem tga_split : splitId "tuple.__getattribute__" = some ("tuple", "__getattribute__") := by decide +kernel
theorem tget_inner {g a : Value} {Q : Fin → Shared → Prop} {tk : Tok} (X : K.In s.heap) (I : InstAt s.heap x ox C od) (hf : findObj K C od name = some (.bind g a))
    (h : wpAny (model prog w) A (call g [a, .ref x, .ref C]) (fun v s' => Q (.done (.ret v)) s') E s) :
    wpAny (model prog w) A (Builtin.«object.__getattribute__» ⟨[.ref x, .str name tk], []⟩) Q E s := by
  obtain ⟨hh', gg, d, t, os⟩ := s
  have L0 := I.type (M := model prog w)
  have L1 := looks_find (M := model prog w) X I hf
  unfold Builtin.«object.__getattribute__»
  refine wpAny_bind (wpAny_pure (wpAny_bind (wpAny_pure (wpAny_bind (L0.at (wpAny_bind (L1.at ?_)))))))
  show wpAny _ _ (holding [a] (call g [a, .ref x, .ref C]) >>= ret) _ _ _
  exact wpAny_bind (wpAny_holding (wpAny_mono h (fun v s' z => wpAny_pure z) fun _ _ z => z))
theorem tget_bind {g a : Value} (X : K.In s.heap) (I : InstAt s.heap x ox C od) (hga : findIn K (.ref C) "__getattribute__" = some (some (.builtin "tuple.__getattribute__")))
    (hf : findObj K C od name = some (.bind g a)) (hk : findIn K (.ref C) "__getattr__" = some none) (ht : Looks (model prog w) s.heap (isInstance (.ref x) (.type "tuple")) true)
    (h : wpAny (model prog w) A.in1 (call g [a, .ref x, .ref C]) (fun v s' => wpAny (model prog w) A (handedOut v) Q E s') (fun _ _ => False) { s with toks := s.toks + 1 }) :
    wpAny (model prog w) A (getAttr (.ref x) name expr) Q E s := by
  obtain ⟨hh, gs, d, t, os⟩ := s
  have L0 := I.type (M := model prog w)
  have L1 := looks_findIn (M := model prog w) X hga
  have L2 := looks_findIn (M := model prog w) X hk
  unfold getAttr getAttrBy
  refine wpAny_bind (wpAny_mkText (wpAny_holding (wpAny_bind (L0.at (wpAny_bind (L1.at ?_))))))
  dsimp only
  rw [show (onTheHeap (.ref C) && Value.builtin "tuple.__getattribute__" == Value.builtin "object.__getattribute__") = false from by rw [show (Value.builtin "tuple.__getattribute__" == Value.builtin "object.__getattribute__") = false from by decide +kernel, Bool.and_false], if_neg (by decide)]
  unfold getAttrByItsOwn
  refine wpAny_bind (show wpAny _ _ (typeLookup (.ref C) "__getattr__") _ _ _ from L2.at ?_)
  refine wpAny_bind (wpAny_attempt (wpAny_holding ?_))
  unfold callGetattribute
  rw [show (expr && onTheHeap (Value.builtin "tuple.__getattribute__")) = false from Bool.and_false _, if_neg (by decide)]
  unfold boundAndCalled
  rw [PySem.F.slot_tuple_getattribute.bind]
  refine wpAny_bind (wpAny_pure ?_)
  show wpAny _ _ (call (.builtin "tuple.__getattribute__") [.ref x, .str name t]) _ _ _
  exact call_slotW (s := ⟨hh, gs, d, t + 1, os⟩) PySem.F.slot_tuple_getattribute.plain entry_tga tga_kind tga_split ht (PySem.F.args_tuple_getattribute_2 _ _) (tget_inner (s := ⟨hh, gs, d, t + 1, os⟩) X I hf (wpAny_mono h (fun v s' z => ⟨v, rfl, z⟩) fun _ _ z => z.elim))
end
section
variable {w : World} {mean : ExcName → Option Value} {mg mb : Str → Option Value} {dp un : Nat} {gd : Option (List Code)} {cn : Str} {cs : Scope} {a : Addr} {ccd : Value} {cl : List (Str × Addr)} {outer : List Env} {A₀ : Around} {base h₀ : Heap} {L : Addr} {m : Str → Option Value} {s : Shared} {news : Led}
    {Q E : Value → Shared → Prop} {p D : Addr} {x y : Str} {t u : Tok} {expr : Bool}
theorem kp_name (B : Below A₀ base outer h₀) (F : Fr h₀ L s.heap m) (X : (hd.heap_1 w.params).In h₀) (N : News h₀ L s.heap news) (T : Top q (looseW q loose) mean mg mb h₀)
    (hm : (p, pairObj x t y u D) ∈ news) (hmD : (D, emptyDict) ∈ news) (hk : cs.kind = .function) (hd : dp + 110 < recursionLimit) (hu : un + 8 * 111 < cLine)
    (ret : ∀ h' tk', Fr h₀ L h' m → News h₀ L h' news → Q (.str x t) { s with heap := h', toks := tk' }) :
    wpAny (model prg w) (ktrTop dp un gd cn cs L a ccd cl outer) (getAttr (.ref p) "name" expr) Q E s := by
  refine tget_bind (X.keeps F.keep) (C := 209) (od := some emptyDict) ⟨(N _ hm).1, rfl, rfl, (N _ hmD).1⟩ (by kernel_rfl) (show findObj (Mine.hd.heap_1 w.params) 209 (some emptyDict) "name" = some (.bind (.ref 97) (.ref 178)) by kernel_rfl) (by kernel_rfl) (pair_isTup (X.keeps F.keep) (N _ hm).1) ?_
  refine con_use (un := un + 1) (s := { s with toks := s.toks + 1 }) (ct_get (mean := mean) (mg := mg) (mb := mb) x y t u p D) B F X N T (fun q hq => ?_) hk hd (by have e9 : cLine = 9900 := rfl; omega) (fun r tl h' tk' F' N' _ hr => ?_)
  · simp only [List.mem_cons, List.not_mem_nil, or_false] at hq
    rcases hq with rfl | rfl <;> assumption
  · subst hr
    exact handed_on rfl (ret h' tk' F' N'.right)
theorem kp_value (B : Below A₀ base outer h₀) (F : Fr h₀ L s.heap m) (X : (hd.heap_1 w.params).In h₀) (N : News h₀ L s.heap news) (T : Top q (looseW q loose) mean mg mb h₀)
    (hm : (p, pairObj x t y u D) ∈ news) (hmD : (D, emptyDict) ∈ news) (hk : cs.kind = .function) (hd : dp + 110 < recursionLimit) (hu : un + 8 * 111 < cLine)
    (ret : ∀ h' tk', Fr h₀ L h' m → News h₀ L h' news → Q (.str y u) { s with heap := h', toks := tk' }) :
    wpAny (model prg w) (ktrTop dp un gd cn cs L a ccd cl outer) (getAttr (.ref p) "value" expr) Q E s := by
  refine tget_bind (X.keeps F.keep) (C := 209) (od := some emptyDict) ⟨(N _ hm).1, rfl, rfl, (N _ hmD).1⟩ (by kernel_rfl) (show findObj (Mine.hd.heap_1 w.params) 209 (some emptyDict) "value" = some (.bind (.ref 97) (.ref 181)) by kernel_rfl) (by kernel_rfl) (pair_isTup (X.keeps F.keep) (N _ hm).1) ?_
  refine con_use (un := un + 1) (s := { s with toks := s.toks + 1 }) (ct_get2 (mean := mean) (mg := mg) (mb := mb) x y t u p D) B F X N T (fun q hq => ?_) hk hd (by have e9 : cLine = 9900 := rfl; omega) (fun r tl h' tk' F' N' _ hr => ?_)
  · simp only [List.mem_cons, List.not_mem_nil, or_false] at hq
    rcases hq with rfl | rfl <;> assumption
  · subst hr
    exact handed_on rfl (ret h' tk' F' N'.right)
end
end Mine
end
section
open PySem PySem.W PySem.Calls PyProof.Rows
set_option Elab.async false
set_option maxRecDepth 100000
set_option maxHeartbeats 8000000
namespace Mine
open Sem (wp)
namespace MF
theorem owner_map : Manifest.owners.lookup (String.ofList ['p', 'a', 'm'].reverse) = some Manifest.sig_map := by kernel_rfl
theorem mro_map : mroOf (.type "map") = pure [.type "map", .type "object"] := by rw [mroOf_type]; kernel_rfl
theorem lookup_map_new : typeLookup (.type "map") "__new__" = pure (some (.builtin "map.__new__")) := by rw [typeLookup_type, builtinLookup_eq_fast]; kernel_rfl
theorem slot_map_init : Slot "map" "__init__" "object.__init__" :=
  .of (owner := "object") (n := "__init__") (by rw [typeLookup_type, builtinLookup_eq_fast]; kernel_rfl) (by decide +kernel) (by decide +kernel) (by decide +kernel)
    (by first | exact .inl (by decide +kernel) | exact .inr (by decide +kernel)) (by rw [isSubtype_type]; kernel_rfl)
theorem slot_map_iter : Slot "map" "__iter__" "map.__iter__" :=
  .of (owner := "map") (n := "__iter__") (by rw [typeLookup_type, builtinLookup_eq_fast]; kernel_rfl) (by decide +kernel) (by decide +kernel) (by decide +kernel)
    (by first | exact .inl (by decide +kernel) | exact .inr (by decide +kernel)) (by rw [isSubtype_type]; kernel_rfl)
theorem slot_map_next : Slot "map" "__next__" "map.__next__" :=
  .of (owner := "map") (n := "__next__") (by rw [typeLookup_type, builtinLookup_eq_fast]; kernel_rfl) (by decide +kernel) (by decide +kernel) (by decide +kernel)
    (by first | exact .inl (by decide +kernel) | exact .inr (by decide +kernel)) (by rw [isSubtype_type]; kernel_rfl)
theorem args_map_iter_1 (a : Value) : argsOk "map.__iter__" ⟨[a], []⟩ := by
  unfold argsOk; rw [signature?_of (id := "map.__iter__") (n := ['_', '_', 'r', 'e', 't', 'i', '_', '_']) (o := ['p', 'a', 'm']) (by kernel_rfl) owner_map]; kernel_rfl
theorem args_map_next_1 (a : Value) : argsOk "map.__next__" ⟨[a], []⟩ := by
  unfold argsOk; rw [signature?_of (id := "map.__next__") (n := ['_', '_', 't', 'x', 'e', 'n', '_', '_']) (o := ['p', 'a', 'm']) (by kernel_rfl) owner_map]; kernel_rfl
theorem entry_map_next : entryFor table "map.__next__" = some Builtin.«map.__next__» := entryFor_of_tree (by kernel_rfl)
theorem entry_map_new : entryFor table "map.__new__" = some Builtin.«map.__new__» := entryFor_of_tree (by kernel_rfl)
theorem entry_map_iter : entryFor table "map.__iter__" = some Builtin.«dict_keyiterator.__iter__» :=
  entryFor_alias (id' := "dict_keyiterator.__iter__") (by kernel_rfl) (by first | rfl | decide +kernel | (unfold String.splitOn; simp +decide [String.splitOnAux])) (by decide +kernel) (by kernel_rfl)
theorem called_map : TypeCalled "map" "map.__new__" "object.__init__" :=
  ⟨by decide +kernel, by decide +kernel, ⟨_, _, mro_map⟩, madeBy_type mro_map lookup_map_new (by decide +kernel), by decide +kernel, by rw [isSubtype_type]; kernel_rfl, slot_map_init⟩
theorem typeCall_map_2 (a b : Value) : checkTypeCall "map" ⟨[a, b], []⟩ = pure () := by kernel_rfl
theorem newCall_map_2 (a b : Value) : checkBuiltinCall "map.__new__" ⟨[.type "map", a, b], []⟩ = pure () := by kernel_rfl
theorem nolen_map : typeLookup (.type "map") "__len__" = pure none := by rw [typeLookup_type, builtinLookup_eq_fast]; kernel_rfl
theorem nohint_map : typeLookup (.type "map") "__length_hint__" = pure none := by rw [typeLookup_type, builtinLookup_eq_fast]; kernel_rfl
theorem sub_map : isSubtype (.type "map") (.type "map") = pure true := by rw [isSubtype_type]; kernel_rfl
end MF
end Mine
end
section
open PySem PySem.W PySem.Calls PyProof.Rows
set_option Elab.async false
set_option maxRecDepth 100000
set_option maxHeartbeats 8000000
namespace Mine
open Sem (wp)
noncomputable abbrev IsMapO (h : Heap) (z TI : Addr) (f : Value) : Prop := h.get? z = some { cls := .type "map", dict := none, data := .fields #[.ref TI, f], slots := #[] }
noncomputable abbrev IsOne (h : Heap) (T : Addr) (a : Value) : Prop := h.get? T = some { cls := .type "tuple", data := .seq #[a] }
section
variable {prog : Program} {w : World} {A : Around} {E : Value → Shared → Prop} {s : Shared}

theorem map_next_item {z TI it l : Addr} {k : Nat} {xs : Array Value} {x : Str} {t : Tok} {Q : Value → Shared → Prop} (hi : it ≠ z)
    (hz : IsMapO s.heap z TI (.builtin "str.strip")) (hTI : IsOne s.heap TI (.ref it)) (h1 : s.heap.IsListIter it l k) (hl : s.heap.IsList l xs) (hx : xs[k]? = some (.str x t)) (hsz : x.length ≤ sizeLine)
    (hQ : ∀ h' u tk, h'.IsListIter it l (k + 1) → Heap.SameBut it s.heap h' → s.toks ≤ tk → Q (.str (Txt.strip x) u) { s with heap := h', toks := tk }) :
    wpAny (model prog w) A (Builtin.«map.__next__» ⟨[.ref z], []⟩) (fun fin s' => ∃ v, fin = .done (.ret v) ∧ Q v s') E s := by
  show wpAny _ _ (field (.ref z) 0 >>= _) _ _ _
  refine wpAny_bind (wpAny_field hz rfl (x := .ref TI) rfl ?_)
  refine wpAny_bind (wpAny_seqItems hTI rfl ?_)
  show wpAny _ _ (forIn #[Value.ref it] _ _ >>= _) _ _ _
  rw [← Array.forIn_toList]
  simp only [List.forIn_cons, List.forIn_nil]
  refine wpAny_bind (wpAny_bind (wpAny_bind (wpAny_holding (wpAny_nextOf_list_item h1 hl hx fun h₂ h1₂ hs₂ => wpAny_pure (wpAny_pure ?_)))))
  have hz₂ : IsMapO h₂ z TI (.builtin "str.strip") := hs₂.extBut _ _ hi.symm hz
  refine wpAny_bind (wpAny_field hz₂ rfl (x := .builtin "str.strip") rfl ?_)
  refine wpAny_bind (wpAny_holding (wpAny_with_toks (Nat.le_refl _) (SC.strip (fun u tk htk => ?_) hsz)))
  refine wpAny_bind (wpAny_letGo ?_)
  exact wpAny_pure ⟨_, rfl, hQ _ _ _ h1₂ hs₂ htk⟩
theorem map_next_end {z TI it l : Addr} {k : Nat} {xs : Array Value} {Q : Fin → Shared → Prop} (hh : A.handled = none)
    (hz : IsMapO s.heap z TI (.builtin "str.strip")) (hTI : IsOne s.heap TI (.ref it)) (h1 : s.heap.IsListIter it l k) (hl : s.heap.IsList l xs) (hx : xs[k]? = none)
    (hE : ∀ h' e, Heap.ExtBut it s.heap h' → (∃ o, h'.get? e = some o ∧ o.cls = .type "StopIteration") → E (.ref e) { s with heap := h' }) :
    wpAny (model prog w) A (Builtin.«map.__next__» ⟨[.ref z], []⟩) Q E s := by
  show wpAny _ _ (field (.ref z) 0 >>= _) _ _ _
  refine wpAny_bind (wpAny_field hz rfl (x := .ref TI) rfl ?_)
  refine wpAny_bind (wpAny_seqItems hTI rfl ?_)
  show wpAny _ _ (forIn #[Value.ref it] _ _ >>= _) _ _ _
  rw [← Array.forIn_toList]
  simp only [List.forIn_cons, List.forIn_nil]
  exact wpAny_bind (wpAny_bind (wpAny_bind (wpAny_holding (wpAny_nextOf_list_end hh h1 hl hx fun h' e a b => hE h' e a b))))
theorem pyNext_map_item {z TI it l : Addr} {k : Nat} {xs : Array Value} {x : Str} {t : Tok} {Q : Option Value → Shared → Prop} (hi : it ≠ z)
    (hz : IsMapO s.heap z TI (.builtin "str.strip")) (hTI : IsOne s.heap TI (.ref it)) (h1 : s.heap.IsListIter it l k) (hl : s.heap.IsList l xs) (hx : xs[k]? = some (.str x t)) (hsz : x.length ≤ sizeLine)
    (hQ : ∀ h' u tk, h'.IsListIter it l (k + 1) → Heap.SameBut it s.heap h' → s.toks ≤ tk → Q (some (.str (Txt.strip x) u)) { s with heap := h', toks := tk }) :
    wpAny (model prog w) A (pyNext (.ref z)) Q E s := by
  have hT : s.TypeIs (.ref z) "map" := ⟨_, hz, rfl⟩
  unfold pyNext
  exact wpAny_bind (wpAny_attempt (wpAny_callSpecial?_slot (name := Str.ofString "__next__") hT MF.slot_map_next
    (wpAny_call_entry MF.slot_map_next hT MF.entry_map_next
      (map_next_item hi hz hTI h1 hl hx hsz fun h' u tk a b c => wpAny_pure (hQ h' u tk a b c)) (MF.args_map_next_1 _))))
theorem pyNext_map_end {z TI it l : Addr} {k : Nat} {xs : Array Value} {Q : Option Value → Shared → Prop} (hh : A.handled = none)
    (hz : IsMapO s.heap z TI (.builtin "str.strip")) (hTI : IsOne s.heap TI (.ref it)) (h1 : s.heap.IsListIter it l k) (hl : s.heap.IsList l xs) (hx : xs[k]? = none)
    (hQ : ∀ h', Heap.ExtBut it s.heap h' → Q none { s with heap := h' }) : wpAny (model prog w) A (pyNext (.ref z)) Q E s := by
  have hT : s.TypeIs (.ref z) "map" := ⟨_, hz, rfl⟩
  unfold pyNext
  refine wpAny_bind (wpAny_attempt (wpAny_callSpecial?_slot (name := Str.ofString "__next__") hT MF.slot_map_next
    (wpAny_call_entry MF.slot_map_next hT MF.entry_map_next (map_next_end hh hz hTI h1 hl hx fun h' e hk he => ?_) (MF.args_map_next_1 _))))
  obtain ⟨o, ho, hc⟩ := he
  refine wpAny_bind (wpAny_isInstance (T := "StopIteration") (b := true) ⟨o, ho, hc⟩ isSubtype_stop ?_)
  exact wpAny_pure (hQ _ hk)
theorem pyIter_map {z TI : Addr} {f : Value} {Q : Value → Shared → Prop} (hz : IsMapO s.heap z TI f) (h : Q (.ref z) s) : wpAny (model prog w) A (pyIter (.ref z)) Q E s := by
  have hT : s.TypeIs (.ref z) "map" := ⟨_, hz, rfl⟩
  refine wpAny_pyIter_slot hT MF.slot_map_iter (wpAny_call_entry MF.slot_map_iter hT MF.entry_map_iter ?_ (MF.args_map_iter_1 _))
  show wpAny _ _ (ret (.ref z)) _ _ s
  exact wpAny_pure ⟨_, rfl, "map", _, hT, MF.slot_map_next.lookup, h⟩

/-- a map of str.strip over a list of texts, walked -/
theorem walks_map (hh : A.handled = none) (z TI it l : Addr) (hi : it ≠ z) (hiT : it ≠ TI) (hil : l ≠ it) {vs : List Value} {ys : List Str} (hv : StrsAre vs ys) (hsz : ∀ y ∈ ys, y.length ≤ sizeLine) :
    WalksS prog w A z [z, TI, it, l] [it] (fun a b => b = a) ys.length (fun i v => ∃ y u, ys[i]? = some y ∧ v = .str (Txt.strip y) u)
      (fun i s => IsMapO s.heap z TI (.builtin "str.strip") ∧ IsOne s.heap TI (.ref it) ∧ s.heap.IsListIter it l i ∧ s.heap.IsList l vs.toArray) where
  sub := fun c hc => by simp at hc ⊢; simp [hc]
  grefl := fun _ => rfl
  gtrans := fun _ _ _ h1 h2 => h2.trans h1
  frame := fun i s h' _ st _ hk => ⟨hk z (by simp) _ st.1, hk TI (by simp) _ st.2.1, st.2.2.1.at fun o e => hk it (by simp) o e, st.2.2.2.at fun o e => hk l (by simp) o e⟩
  item := fun i s Q E hlt st hQ => by
    obtain ⟨y, hy⟩ : ∃ y, ys[i]? = some y := ⟨ys[i], List.getElem?_eq_getElem hlt⟩
    obtain ⟨t, ht⟩ := hv.get i y hy
    refine pyNext_map_item (t := t) hi st.1 st.2.1 st.2.2.1 st.2.2.2 (by simpa using ht) (hsz y (List.mem_of_getElem? hy)) fun h' u tk a b c => ?_
    exact hQ _ _ ⟨y, u, hy, rfl⟩ ⟨b.extBut _ _ hi.symm st.1, b.extBut _ _ hiT.symm st.2.1, a, st.2.2.2.extBut b.extBut hil⟩ ⟨fun b' o hb e => b.extBut _ _ (fun q => hb (by simp [q])) e, rfl, rfl, rfl, c⟩
  done := fun s Q E st hQ => by
    refine pyNext_map_end hh st.1 st.2.1 st.2.2.1 st.2.2.2 (by simp [hv.length]) fun h' a => ?_
    exact hQ _ ⟨fun b o hb e => a b o (fun q => hb (by simp [q])) e, rfl, rfl, rfl, Nat.le_refl _⟩
  self := fun i s Q E st hQ => pyIter_map st.1 hQ

theorem collect_map {I : Addr} {fp wr : List Addr} {G : Array GenState → Array GenState → Prop} {n : Nat} {P : Nat → Value → Prop} {St : Nat → Shared → Prop}
    {Q : List Value → Shared → Prop} (W : WalksS prog w A.in1 I fp wr G n P St) (hT : ∀ i s, St i s → s.TypeIs (.ref I) "map") (hst : St 0 s) (hfp : ∀ b ∈ fp, b < s.heap.objs.size) (hI : I ∈ fp)
    (hQ : ∀ s' acc, Moved wr G s s' → ItemsOf P acc n → Q acc.toList s') (hn : n ≤ sizeLine := by size_fits) : wpAny (model prog w) A (collect (.ref I)) Q E s := by
  have hSf : s.heap.objs.size ∉ fp := fun hm => Nat.lt_irrefl _ (hfp _ hm)
  have hSI : s.heap.objs.size ≠ I := fun e => hSf (e ▸ hI)
  unfold collect
  refine wpAny_bind (wpAny_runValue (codeAny_builtin F.entry_proto_collect ?_))
  rw [Around.under_plainId F.plain_proto_collect _]
  show wpAny _ A.in1 (newList [] >>= fun l => again (.builtin "list.__iadd__" ⟨[l, .ref I], []⟩)) _ _ s
  refine wpAny_bind (wpAny_newObj_type ?_)
  refine wpAny_pure ⟨plainId_quiet F.plain_list_iadd _, codeAny_builtin F.entry_list_iadd ?_⟩
  rw [Around.under_plainId F.plain_list_iadd _]
  have hst₁ := W.frame 0 s (s.heap.push { cls := .type "list", data := .seq ([] : List Value).toArray }) s.toks hst (Nat.le_refl _) fun b _ o e => Heap.get?_push_of_some _ e
  show wpAny _ A.in1 (Builtin.List.listExtendWith (.ref s.heap.objs.size) (.ref I) (.ref s.heap.objs.size)) _ _ _
  unfold Builtin.List.listExtendWith
  refine wpAny_bind (wpAny_typeOf (hT 0 _ hst₁) ?_)
  have h1 : Builtin.List.listSameRef (.ref s.heap.objs.size) (.ref I) = false := by simp [Builtin.List.listSameRef, hSI]
  have h2 : (Value.type "map" == Value.type "list") = false := by decide
  have h3 : (Value.type "map" == Value.type "tuple") = false := by decide
  simp only [h1, h2, h3, Bool.or_false, Bool.false_eq_true, if_false]
  refine wpAny_bind (W.self 0 _ _ _ hst₁ ?_)
  refine wpAny_bind (wpAny_holding ?_)
  unfold Builtin.List.listLengthHint
  refine wpAny_bind (wpAny_specialOf (hT 0 _ hst₁) MF.nolen_map ?_)
  show wpAny _ A.in1 (specialOf (Value.ref I) (Str.ofString "__length_hint__") >>= _) _ _ _
  refine wpAny_bind (wpAny_specialOf (hT 0 _ hst₁) MF.nohint_map ?_)
  refine wpAny_pure ?_
  show wpAny _ A.in1 (rule "list.extend.makes-room" >>= fun _ => Builtin.List.listTouch (.ref s.heap.objs.size) >>= fun _ =>
    again (.builtin "list.extend.loop" ⟨[.ref s.heap.objs.size, .ref I, .ref s.heap.objs.size], []⟩)) _ _ _
  refine wpAny_bind (wpAny_rule ?_)
  have hS₁ : (s.heap.push { cls := .type "list", data := .seq ([] : List Value).toArray }).get? s.heap.objs.size = some { cls := .type "list", data := .seq ([] : List Value).toArray } := Heap.get?_push_size _ rfl
  refine wpAny_bind ?_
  show wpAny _ A.in1 (updateSeq s.heap.objs.size (·.push .none) >>= fun _ => updateSeq s.heap.objs.size (·.pop)) _ _ _
  refine wpAny_bind (wpAny_updateSeq hS₁ rfl ?_)
  have hS₂ := Heap.get?_update_self (Obj.mapSeq (·.push Value.none)) hS₁ rfl
  refine wpAny_updateSeq hS₂ rfl ?_
  have hS₃ := Heap.get?_update_self (Obj.mapSeq (·.pop)) hS₂ rfl
  have oth : ∀ b o, b ≠ s.heap.objs.size → (s.heap.push { cls := .type "list", data := .seq ([] : List Value).toArray }).get? b = some o →
      (((s.heap.push { cls := .type "list", data := .seq ([] : List Value).toArray }).update s.heap.objs.size (Obj.mapSeq (·.push Value.none))).update s.heap.objs.size (Obj.mapSeq (·.pop))).get? b = some o :=
    fun b o hb e => (Heap.get?_update_other _ _ (Ne.symm hb)).trans ((Heap.get?_update_other _ _ (Ne.symm hb)).trans e)
  refine wpAny_pure ⟨plainId_quiet F.plain_extend_loop _, codeAny_extend_loopS W hn _ hSf _ n 0 _ _ _ rfl (Nat.zero_le _)
    (W.frame 0 ({ s with heap := s.heap.push { cls := .type "list", data := .seq ([] : List Value).toArray } } : Shared) _ s.toks hst₁ (Nat.le_refl _) fun b hb o e => oth b o (fun h => hSf (h ▸ hb)) e) hS₃ (ItemsOf.nil P) fun s' acc' c' hm hS' hacc => ?_⟩
  show wpAny _ A (load s.heap.objs.size >>= _) _ _ s'
  refine wpAny_bind (wpAny_load hS' ?_)
  refine wpAny_pure (hQ s' acc' (Moved.drop_new (o := { cls := .type "list", data := .seq ([] : List Value).toArray }) (tk := s.toks) (Moved.trans W.gtrans ((Moved.refl W.grefl).then_heap (by first | exact Nat.le_refl _ | exact Nat.le_succ _ | omega) fun b o hb e => ?_) hm) (Nat.le_refl _)) hacc)
  exact oth b o (fun h => hb (h ▸ List.mem_cons_self)) e

theorem strs_of_items {ys : List Str} {acc : Array Value} (h : ItemsOf (fun (i : Nat) (v : Value) => ∃ y u, ys[i]? = some y ∧ v = Value.str (Txt.strip y) u) acc ys.length) : StrsAre acc.toList (ys.map Txt.strip) := by
  obtain ⟨h1, h2⟩ := h
  have : ∀ (ys : List Str) (l : List Value), l.length = ys.length → (∀ (j : Nat) (v : Value), l[j]? = some v → ∃ y u, ys[j]? = some y ∧ v = Value.str (Txt.strip y) u) → StrsAre l (ys.map Txt.strip) := by
    intro ys
    induction ys with
    | nil => intro l hl _; cases l with | nil => exact .nil | cons _ _ => cases hl
    | cons y ys ih =>
      intro l hl hp
      cases l with
      | nil => cases hl
      | cons v l =>
        obtain ⟨y', u, hy, rfl⟩ := hp 0 v rfl
        simp only [List.getElem?_cons_zero, Option.some.injEq] at hy
        subst hy
        exact .cons _ _ (ih l (by simpa using hl) fun j v hj => by simpa using hp (j + 1) v (by simpa using hj))
  exact this ys acc.toList (by simpa using h1) fun j v hj => h2 j v (by simpa using hj)

noncomputable abbrev mapH1 (h : Heap) (l : Addr) : Heap := h.push { cls := .type "list_iterator", data := .fields #[.ref l, .int 0 0] }
noncomputable abbrev mapH2 (h : Heap) (l : Addr) : Heap := (mapH1 h l).push { cls := .type "tuple", data := .seq #[.ref h.objs.size] }
noncomputable abbrev mapH3 (h : Heap) (l : Addr) (f : Value) : Heap := (mapH2 h l).push { cls := .type "map", data := .fields #[.ref (mapH1 h l).objs.size, f] }
theorem meets_map_new (l : Addr) (xs : Array Value) (f : Value) :
    Meets (Builtin.«map.__new__» ⟨[.type "map", f, .ref l], []⟩) (fun _ R s => s.heap.IsList l xs ∧
      R (.ok (.ret (.ref (mapH2 s.heap l).objs.size))) { s with heap := mapH3 s.heap l f }) :=
  .of_wp fun prog w A R s h => by
    obtain ⟨hp, g, d, tk, os⟩ := s; obtain ⟨hl1, h⟩ := h
    have hsub := MF.sub_map
    have hL1 : Heap.IsList (Shared.heap ⟨hp, g, d, tk, os⟩) l xs := hl1
    wp_walk using wpAny_pyIter_list hL1
    exact ⟨_, rfl, h⟩
end
end Mine
end
section
open PySem PySem.W PySem.Calls PyProof.Rows
set_option Elab.async false
set_option maxRecDepth 100000
set_option maxHeartbeats 8000000
namespace Mine
section
variable {prog : Program} {w : World} {A : Around} {E : Value → Shared → Prop} {s : Shared} {h₀ : Heap} {L : Addr} {m : Str → Option Value} {news : Led}
theorem map_star {l : Addr} {n : Nat} {vs : List Value} {ys : List Str} {Q : List Value → Shared → Prop} (F : Fr h₀ L s.heap m) (N : News h₀ L s.heap news) (hm : (l, listOf vs.toArray n) ∈ news) (hv : StrsAre vs ys)
    (hsz : ∀ y ∈ ys, y.length ≤ sizeLine) (hn : ys.length ≤ sizeLine) (hh : A.handled = none)
    (h : ∀ vs' h' tk', StrsAre vs' (ys.map Txt.strip) → Fr h₀ L h' m → News h₀ L h' news → Q vs' { s with heap := h', toks := tk' }) :
    wpAny (model prog w) A (call (.type "map") [.builtin "str.strip", .ref l]) (fun v s₁ => StarOf (model prog w) A E v Q s₁) E s := by
  have hl : s.heap.IsList l vs.toArray := ⟨_, (N _ hm).1, rfl, n, rfl⟩
  refine callType_new MF.called_map (by decide) (MF.typeCall_map_2 _ _) (MF.newCall_map_2 _ _) (fun obj => PySem.F.args_object_init_3 obj _ _) MF.entry_map_new (meets_map_new l vs.toArray (.builtin "str.strip")) ⟨hl, ?_⟩
  have z1 : (mapH1 s.heap l).objs.size = s.heap.objs.size + 1 := Heap.size_push ..
  have z2 : (mapH2 s.heap l).objs.size = s.heap.objs.size + 2 := by rw [Heap.size_push, z1]
  have g3 : IsMapO (mapH3 s.heap l (.builtin "str.strip")) (mapH2 s.heap l).objs.size (mapH1 s.heap l).objs.size (.builtin "str.strip") := Heap.get?_push_size _ rfl
  have g2 : IsOne (mapH3 s.heap l (.builtin "str.strip")) (mapH1 s.heap l).objs.size (.ref s.heap.objs.size) := Heap.get?_push_of_some _ (Heap.get?_push_size _ rfl)
  have g1 : (mapH3 s.heap l (.builtin "str.strip")).IsListIter s.heap.objs.size l 0 := ⟨_, Heap.get?_push_of_some _ (Heap.get?_push_of_some _ (Heap.get?_push_size _ rfl)), rfl, rfl⟩
  have up : ∀ b o, s.heap.get? b = some o → (mapH3 s.heap l (.builtin "str.strip")).get? b = some o := fun b o e => Heap.get?_push_of_some _ (Heap.get?_push_of_some _ (Heap.get?_push_of_some _ e))
  have g0 : (mapH3 s.heap l (.builtin "str.strip")).IsList l vs.toArray := hl.at fun o e => up _ _ e
  have hT : Shared.TypeIs { s with heap := mapH3 s.heap l (.builtin "str.strip") } (.ref (mapH2 s.heap l).objs.size) "map" := ⟨_, g3, rfl⟩
  refine ⟨hT, ?_⟩
  unfold StarOf notIterableAtAll
  refine wpAny_bind (wpAny_specialOf hT MF.slot_map_iter.lookup ?_)
  refine wpAny_pure ⟨rfl, ?_⟩
  have hlt : @LT.lt Nat _ l s.heap.objs.size := by obtain ⟨o, ho, _⟩ := hl; exact Heap.lt_size ho
  refine collect_map (walks_map (A := A.in1) hh (mapH2 s.heap l).objs.size (mapH1 s.heap l).objs.size s.heap.objs.size l (show @Ne Nat _ _ by omega) (show @Ne Nat _ _ by omega) (show @Ne Nat _ _ by omega) hv hsz) (fun i s st => ⟨_, st.1, rfl⟩) ⟨g3, g2, g1, g0⟩ ?_ (by simp) (fun s' acc hmv hacc => ?_) hn
  · intro b hb
    have z3 : (mapH3 s.heap l (.builtin "str.strip")).objs.size = s.heap.objs.size + 3 := by rw [Heap.size_push, z2]
    simp only [List.mem_cons, List.not_mem_nil, or_false] at hb
    show @LT.lt Nat _ b (mapH3 s.heap l (.builtin "str.strip")).objs.size
    rcases hb with e | e | e | e <;> rw [e, z3] <;> (first | rw [z2] | rw [z1] | skip) <;> omega
  · have up' : ∀ b o, s.heap.get? b = some o → s'.heap.get? b = some o := fun b o e => hmv.heap b o (fun q => by rw [List.mem_singleton.mp q] at e; exact absurd (Heap.lt_size e) (Nat.lt_irrefl _)) (up _ _ e)
    obtain ⟨h', g', d', tk', os'⟩ := s'
    obtain ⟨_, e1, e2, e3, _⟩ := hmv
    dsimp only at e1 e2 e3 up'
    subst e1 e2 e3
    exact h acc.toList h' tk' (strs_of_items hacc) (F.after up') fun p hp => ⟨up' _ _ (N p hp).1, (N p hp).2⟩
end
end Mine
end
section
open PySem PySem.W PySem.Calls PyProof.Rows
set_option Elab.async false
set_option maxRecDepth 100000
set_option maxHeartbeats 800000
namespace Mine
section
variable {w : World} {A : Around} {E : Value → Shared → Prop} {s : Shared} {h₀ h h' : Heap} {L : Addr} {m : Str → Option Value} {news : Led} {p : Addr} {x y : Str} {t u : Tok}
theorem news_up (N : News h₀ L h news) (up : ∀ b o, h.get? b = some o → h'.get? b = some o) : News h₀ L h' news := fun p hp => ⟨up _ _ (N p hp).1, (N p hp).2⟩
theorem news_add {o : Obj} (F : Fr h₀ L h m) (N : News h₀ L h' news) (hp : h.get? p = none) (hp' : h'.get? p = some o) : News h₀ L h' ((p, o) :: news) := by
  intro q hq
  rcases List.mem_cons.mp hq with rfl | hq
  · refine ⟨hp', fun e => ?_, ?_⟩
    · obtain ⟨o', _, _, e2, _⟩ := F.ns
      dsimp only at e; rw [e, e2] at hp; cases hp
    · cases e : h₀.get? p with
      | none => rfl
      | some o' => rw [F.keep _ _ e] at hp; cases hp
  · exact N q hq
theorem kp_makes {Q : Value → Shared → Prop} (F : Fr h₀ L s.heap m) (X₀ : (hd.heap_1 w.params).In h₀) (N : News h₀ L s.heap news) (hh : A.handled = none) (hd : A.depth ≤ 900) (hu : A.units ≤ 9100)
    (q : ∀ p D h' tk', Fr h₀ L h' m → News h₀ L h' ((p, pairObj x t y u D) :: (D, emptyDict) :: news) → Q (.ref p) { s with heap := h', toks := tk' }) :
    wpAny (model prg w) A (call (.ref 209) [.str x t, .str y u]) Q E s :=
  wpAny_lit 900 9100 (pair_makes (X₀.keeps F.keep) fun p D h' tk' up h1 h2 h3 h4 => q p D h' tk' (F.after up) (news_add F (news_add F (news_up N up) h3 h4) h1 h2)) hh hd hu
end
end Mine
end
section
open PySem PySem.W PySem.Calls PyProof.Rows
set_option Elab.async false
set_option maxRecDepth 100000
set_option maxHeartbeats 800000
namespace Mine
noncomputable abbrev framesOf (l : List Env) : List Addr := l.filterMap (·.frame)
/-- an exception is on its way in `l`; all of `h` but its frames stands, the frames up to their slots -/
noncomputable def RaisedH (h : Heap) (l : List Env) (e : Addr) (cls : Value) (t : Addr) (vs : List Value) (h' : Heap) : Prop :=
  (∃ B, (∀ b o, h.get? b = some o → b ∉ framesOf l → B.get? b = some o) ∧ Heap.FlyingW B l e cls (.ref t) h' ∧ B.get? t = none) ∧ h'.TupAt t vs ∧ h.UpToSlots h'
section
variable {M : Model} {A : Around} {E : Value → Shared → Prop} {s' : Shared} {base g h h0 : Heap} {outer : List Env} {L a e t : Addr} {m : Str → Option Value} {name : Str} {scope : Scope} {cd : Value} {Q : Unit → Shared → Prop}
theorem leave_H {cls : Value} {vs : List Value} (K : Below A base outer g) (hx : Heap.MadeExcOf h s'.heap e cls vs) (F : Fr g L h m) (hg : ∀ b o, h0.get? b = some o → g.get? b = some o)
    (hQ : ∀ h' t, RaisedH h0 outer e cls t vs h' → Q () { s' with heap := h' }) (hk : scope.kind = .function := by rfl) :
    wpAny M (A.deeper (envOf name scope L a cd)) (leaving (envOf name scope L a cd) (.ref e)) Q E s' := by
  have K' := K.push (name := name) (a := a) (cd := cd) F hk
  have hin : ∀ env ∈ (envOf name scope L a cd :: outer), ∀ b, env.frame = some b → b ∈ framesOf (envOf name scope L a cd :: outer) := fun env he b hb => List.mem_filterMap.mpr ⟨env, he, hb⟩
  refine wpAny_leaves_madeW K'.stack rfl (fun b o q => of_hideAll _ q) (funFrames_hide K'.frames hin) hx fun h' t x1 x2 x3 x4 =>
    hQ h' t ⟨⟨_, fun b o eb hb => hideAll_get _ (F.keep _ _ (hg _ _ eb)) fun hm => ?_, x1, x3⟩, x2, ((Heap.UpToSlots.of_keeps fun b o q => hx.keeps b o (F.keep b o (hg b o q))).trans x4)⟩
  obtain ⟨env, he, hf⟩ := List.mem_filterMap.mp hm
  rcases List.mem_cons.mp he with rfl | he
  · obtain rfl : L = b := Option.some.inj hf
    exact absurd (Nat.lt_of_lt_of_le (Heap.lt_size (hg _ _ eb)) F.above) (Nat.lt_irrefl _)
  · exact hb (List.mem_filterMap.mpr ⟨env, he, hf⟩)
end
section
variable {prog : Program} {w : World} {A₀ : Around} {E : Value → Shared → Prop} {s' : Shared} {base h : Heap} {outer : List Env} {L a e t : Addr} {m : Str → Option Value} {name : Str} {scope : Scope} {cd : Value}
  {vs : List Value} {b₀ : Stmt} {suite : List Stmt} {pos np : Pos} {rest : List ExceptHandler} {Q : Flow → Shared → Prop}
  {p : Program} {loose : List Str} {mg mb : Str → Option Value} {x : Str} {X T' : String}
theorem caught_H (hst : A₀.frames = some outer) (hns : h.Ns L m) (hab : base.objs.size ≤ L) (hbs : ∀ b o, base.get? b = some o → h.get? b = some o ∧ b ∉ framesOf (envOf name scope L a cd :: outer)) (R : RaisedH h (envOf name scope L a cd :: outer) e (.type X) t vs s'.heap)
    (T : TopRead p loose mg mb base) (hv : bootBuiltins x = some (.type T'))
    (hexc : isSubtype (.type T') (.type "BaseException") = pure true) (hnt : isSubtype (.type ((Manifest.find? T').elim "type" fun y => y.metatype)) (.type "tuple") = pure false) (hsub : isSubtype (.type X) (.type T') = pure true)
    (k : ∀ h', (∀ b o, h.get? b = some o → b ∉ framesOf (envOf name scope L a cd :: outer) → h'.get? b = some o) → h.UpToSlots h' →
      wpAny (model prog w) ((A₀.deeper (envOf name scope L a cd)).mark (some (.ref e))) (execs (b₀ :: suite) (envOf name scope L a cd)) Q E { s' with heap := h' })
    (h1 : x ∉ startupNames := by decide +kernel) (h2 : x ∉ loose := by decide +kernel) (h3 : x ∉ (recsOf p).map (·.name) := by decide +kernel) (h4 : x ∉ (litsOf p).map (·.1) := by decide +kernel) (h4c : x ∉ (clssOf p loose).map (·.name) := by decide +kernel) (hn : x ≠ "__name__" := by decide +kernel)
    (hk : scope.kind = .function := by rfl) (hx : (envOf name scope L a cd).kindOf x = some .globalImplicit := by rfl) (hd : (x == ("__debug__" : Str)) = false := by decide)
    (hE : PassesOwnAt (model prog w) ((A₀.deeper (envOf name scope L a cd)).mark (some (.ref e))) (A₀.deeper (envOf name scope L a cd)) (envOf name scope L a cd) E := by passes_own) :
    wpAny (model prog w) (A₀.deeper (envOf name scope L a cd)) (noteFrame (.ref e) (envOf name scope L a cd))
      (fun _ s₂ => wpAny (model prog w) (A₀.deeper (envOf name scope L a cd)) (setFlight (.ref e) none) (fun _ s₃ =>
        wpAny (model prog w) (A₀.deeper (envOf name scope L a cd)) (handleBy (.ref e) (envOf name scope L a cd) (.ExceptHandler (some (.Name x np)) none (b₀ :: suite) pos :: rest)) Q E s₃) E s₂) E s' := by
  obtain ⟨⟨B, hl, hfl, hnew⟩, htup, hsm⟩ := R
  have hB : base.StaysIn B := fun b o q => hl b o (hbs b o q).1 (hbs b o q).2
  have F : Fr base L h m := ⟨hns, fun b o q => (hbs b o q).1, hab⟩
  refine wpAny_looks_onW (Around.frames_deeper hst) rfl hfl fun h₄ hheld₄ hsm₄ => ?_
  refine wpAny_landsW hheld₄ fun h₅ hheld hsm₅' => ?_
  have hsm₅ := hsm₄.trans hsm₅'
  have hheld' := flyingW_base hB hheld
  have F₅ := F.of_stays hheld'.1 (hsm.trans hsm₅)
  obtain ⟨ob, hob, hobc⟩ := hheld'.there
  refine wpAny_handleBy_builtin (X := X) (T := T') (b := true) hexc hnt hsub (ld_builtin_at F₅ T.g (T.free x h1 h2 h3 h4 h4c) T.b ((T.builtins x hn).trans hv) ⟨rfl, ⟨ob, hob, hobc⟩, ?_⟩ hk hx hd)
  refine lands_againW hheld fun h₆ hfl₆ hsm₆ => ?_
  exact wpAny_passesOwnAt hE (k h₆ (fun b o eb hb => hfl₆.1 _ _ (hl b o eb hb)) ((hsm.trans hsm₅).trans hsm₆))
end
end Mine
end
section
open PySem PySem.W PySem.Calls PyProof.Rows
set_option Elab.async false
set_option maxRecDepth 100000
set_option maxHeartbeats 800000
namespace Mine
section
variable {prog : Program} {w : World} {A₀ A : Around} {E : Value → Shared → Prop} {s : Shared} {base h₀ : Heap} {outer : List Env} {L : Addr} {m : Str → Option Value} {env : Env} {news : List (Addr × Obj)}
theorem codeH_defG {K : Frag} {p : Program} {loose : List Str} {mean : ExcName → Option Value} {mg mb : Str → Option Value} {R : Result → Shared → Prop} {name qual : Str} {params : Arguments} {body : List Stmt} {scope : Scope} {dV kV doc pm cdv ct oc : Value} {an od : Option Addr} {osl : Array (Option Value)} {f : Addr} {args : Args} {binds : List (Str × Value)}
    (B : Below A₀ base outer h₀) (F : Fr h₀ L s.heap m) (X₀ : K.In h₀) (N : News h₀ L s.heap news) (T : Top p loose mean mg mb h₀) (hA : A.frames = some (env :: outer)) (hf : env.frame = some L) (hke : env.scope.kind = .function)
    (ho : K.lookup f = some ⟨oc, od, .func (fnOf name qual params body scope dV kV doc pm an cdv ct), osl⟩) (hcd : codeIn K cdv qual = true) (hroom : A.depth < recursionLimit)
    (hbind : BindsTo s (fnOf name qual params body scope dV kV doc pm an cdv ct) args binds) (hloc : ∀ y ∈ binds, scope.names.lookup y.1 = some .local)
    (h : ∀ g L' h₁, Fr h₀ L g m → Fr g L' h₁ (fun y => binds.reverse.lookup y) → News g L' h₁ news → Below A base (env :: outer) g → K.In g → Top p loose mean mg mb g → GSub s.heap g (news.map (·.1)) →
      wpH (model prog w) (A.deeper (envOf qual scope L' f cdv)) (execs body (envOf qual scope L' f cdv))
        (fun fl s' => LeaveK h₀ L m g R (match fl with | .ret v => v | _ => .none) s')
        (fun e s' => wpAny (model prog w) (A.deeper (envOf qual scope L' f cdv)) (leaving (envOf qual scope L' f cdv) e) (fun _ s'' => R (.error e) s'') (fun e' s'' => R (.error e') s'') s')
        { s with heap := h₁, toks := s.toks + binds.length })
    (hco : scope.isCoroutine = false) (hgen : scope.isGenerator = false) (hk : scope.kind = .function)
    (hcell : ∀ x ∈ scope.names, x.2 ≠ .cell) : codeH (model prog w) A (.call (.ref f) args) R s := by
  obtain ⟨FG, BG, st, lv⟩ := groundX (R := R) B F N hA hf hke
  refine codeH_call_def (fd := fnX name qual params body scope [] dV kV doc pm an cdv ct) (body := body) (binds := binds) hroom ((X₀.keeps F.keep) _ _ ho) rfl (T.nolimit.keeps F.keep) (codeRec_of (X₀.keeps F.keep) hcd) rfl hbind hcell hloc (fun h₁ hns hk₁ => ?_) hco hgen hk
  exact wpH_mono (h _ s.heap.objs.size h₁ FG ⟨hns, fun b o e => hk₁ b o (of_hideAll _ e), Nat.le_of_eq (hideAll_size _ _)⟩
    (fun p hp => ⟨hk₁ _ _ (N p hp).1, Nat.ne_of_lt (Heap.lt_size (N p hp).1), hideAll_none _ (List.mem_map_of_mem hp)⟩) BG (X₀.keeps st) (T.keeps st) (fun b o e n => hideAll_get _ e n)) (fun fl s' hl => lv _ _ hl) fun _ _ y => y
end
/-- a call that is refused with TypeError, in a context over the caller -/
noncomputable def ConE (w : World) (mean : ExcName → Option Value) (mg mb : Str → Option Value) (f : Addr) (dep : Nat) (vs : List Value) : Prop :=
  ∀ (dp un : Nat) (gd : Option (List Code)) (cn : Str) (cs : Scope) (a : Addr) (ccd : Value) (cl : List (Str × Addr)) (outer : List Env) (A₀ : Around) (base h₀ : Heap) (L : Addr) (m : Str → Option Value) (s : Shared)
    (R : Result → Shared → Prop),
    Below A₀ base outer h₀ → Fr h₀ L s.heap m → (hd.heap_1 w.params).In h₀ → News h₀ L s.heap [] → Top q (looseW q loose) mean mg mb h₀ → cs.kind = .function → dp + dep < recursionLimit → un + 8 * dep < cLine →
    (∀ e t x h' tk', RaisedH s.heap (envX cn cs L a ccd cl :: outer) e (.type "TypeError") t [x] h' → R (.error (.ref e)) { s with heap := h', toks := tk' }) →
    codeH (model PySem.Challenge.rw_il0133_01.row.prog w) (ktrTop dp un gd cn cs L a ccd cl outer) (.call (.ref f) ⟨vs, []⟩) R s
/-- `Con` of the call's code -/
noncomputable def ConC (w : World) (mean : ExcName → Option Value) (mg mb : Str → Option Value) (f : Addr) (dep : Nat) (vs : List Value) (sub : Led) (post : Led → Value → Prop) : Prop :=
  ∀ (dp un : Nat) (gd : Option (List Code)) (cn : Str) (cs : Scope) (a : Addr) (ccd : Value) (cl : List (Str × Addr)) (outer : List Env) (A₀ : Around) (base h₀ : Heap) (L : Addr) (m : Str → Option Value) (s : Shared)
    (R : Result → Shared → Prop),
    Below A₀ base outer h₀ → Fr h₀ L s.heap m → (hd.heap_1 w.params).In h₀ → News h₀ L s.heap sub → Top q (looseW q loose) mean mg mb h₀ → cs.kind = .function → dp + dep < recursionLimit → un + 8 * dep < cLine →
    (∀ r tl h' tk', Fr h₀ L h' m → (∀ b o, s.heap.get? b = some o → h'.get? b = some o) → (∀ p ∈ tl, s.heap.get? p.1 = none ∧ h'.get? p.1 = some p.2) → post tl r → R (.ok (.ret r)) { s with heap := h', toks := tk' }) →
    codeAny (model PySem.Challenge.rw_il0133_01.row.prog w) (ktrTop dp un gd cn cs L a ccd cl outer) (.call (.ref f) ⟨vs, []⟩) R s
theorem ConC.con {w : World} {mean : ExcName → Option Value} {mg mb : Str → Option Value} {f : Addr} {dep : Nat} {vs : List Value} {sub : Led} {post : Led → Value → Prop} (C : ConC w mean mg mb f dep vs sub post) : Con w mean mg mb f dep vs sub post := by
  intro dp un gd cn cs a ccd cl outer A₀ base h₀ L m s Q E B F X N T hk hd hu ret
  exact wpAny_call (C dp un gd cn cs a ccd cl outer A₀ base h₀ L m s _ B F X N T hk hd hu ret)
section
variable {prog : Program} {w : World} {A : Around} {R : Result → Shared → Prop} {s : Shared} {q f : Addr} {self : Value} {pos : List Value}
theorem codeAny_meth (ho : s.heap.get? q = some (methodObj (.ref f) self)) (h : codeAny (model prog w) A (.call (.ref f) ⟨self :: pos, []⟩) R s) : codeAny (model prog w) A (.call (.ref q) ⟨pos, []⟩) R s := by
  refine codeAny_of_tree ?_
  show wpAny _ _ (callAny (.ref q) _) _ _ _
  refine nd_load ho ?_
  exact wpAny_pure ⟨rfl, h⟩
theorem codeH_meth (ho : s.heap.get? q = some (methodObj (.ref f) self)) (h : codeH (model prog w) A (.call (.ref f) ⟨self :: pos, []⟩) R s) : codeH (model prog w) A (.call (.ref q) ⟨pos, []⟩) R s := by
  refine codeH_of_tree (wpH_of_any ?_)
  show wpAny _ _ (callAny (.ref q) _) _ _ _
  refine nd_load ho ?_
  exact wpAny_pure ⟨rfl, h⟩
end
end Mine
end
section
section
theorem Mine.anew_PA : (0 : Nat) = 0 := by w_top off; walk1
end
open PySem PySem.W PyProof.Rows
set_option Elab.async false
set_option maxRecDepth 100000
set_option maxHeartbeats 8000000
namespace Mine
set_option hygiene false in
local macro_rules | `(tactic| walk_at "CON enter") => `(tactic| (
  unfold ConC; k_fill;
  intro dp un gd cn cs a ccd cl outer A₀ base h₀ L m s R B F X N T hk hd hu hret;
  k_dflt (refine' code_defG ?k1 ?k2 ?k3 ?k4 ?k5 ?kA ?kF ?kK ?k6 ?k7 ?k8 ?k9 ?kB ?_ ?c2 ?c3 ?c4 ?c5; (case kA => exact rfl); (case kF => exact rfl); (case kK => assumption); (case k1 => k_asm); (case k2 => k_asm); (case k3 => k_asm); (case k4 => k_asm); (case k5 => k_asm); (case k6 => k_is); (case k7 => k_is); (case k8 => ktr_room); (case k9 => exact BindsTo.of_eq rfl); (case c5 => decide); (case kB => exact locs rfl); (case c2 => exact rfl); (case c3 => exact rfl); (case c4 => exact rfl); k_whole; intro g' L' h' FG' F' N' B' X' T' kG'; (try dsimp only); (try k_fold))))
local macro_rules | `(tactic| walk_at "getAttr") => `(tactic| (k_here; (with_reducible show wpAny _ _ (getAttr (Value.type "str") (PySem.Str.ofString "strip") _) _ _ _); k_dflt (refine' type_val (a := .builtin "str.strip") ?F ?X ?t ?s ?e ?q ?_; (case F => k_asm); (case X => k_asm); (case t => decide +kernel); (case s => decide +kernel); (case e => kernel_rfl); (case q => kernel_rfl))))
local macro_rules | `(tactic| walk_at "call type:map") => `(tactic| (k_here; (with_reducible show wpAny _ _ (call (Value.type "map") [Value.builtin "str.strip", Value.ref _]) _ _ _); k_dflt (refine' map_star ?F ?N ?m ?v ?z ?n ?h ?_; (case F => k_asm); (case N => k_asm); (case m => k_mem); (case v => k_asm); rotate_right)))
theorem cc_parse {w : World} {mean : ExcName → Option Value} {mg mb : Str → Option Value} (x xa xb : Str) (t : Tok) (hx : Txt.splitMax x (Str.ofString "=") 1 = [xa, xb]) (hsz : x.length < 100) (ha : xa.length < 100) (hb : xb.length < 100) :
    ConC w mean mg mb 203 120 [.ref 209, .str x t] [] (fun tl r => ∃ p D t1 t2, r = .ref p ∧ tl = [(p, pairObj (Txt.strip xa) t1 (Txt.strip xb) t2 D), (D, emptyDict)]) := by
  walk_at "CON enter"
  replace F' : Fr g' L' h' (fun y => List.lookup y [(Str.ofString "text", Value.str x t), (Str.ofString "cls", Value.ref 209)]) := F'
  k_steps
  case z =>
    rename_i y hy
    rename _ = Txt.splitMax x (Str.ofString "=") 1 => e
    rw [e, hx] at hy
    simp only [List.mem_cons, List.not_mem_nil, or_false] at hy
    have : sizeLine = 16777216 := rfl
    rcases hy with rfl | rfl <;> omega
  case n =>
    rename _ = Txt.splitMax x (Str.ofString "=") 1 => e
    rw [e, hx]
    exact Nat.le_of_ble_eq_true rfl
  rename _ = Txt.splitMax x (Str.ofString "=") 1 => e
  rename StrsAre _ (List.map Txt.strip _) => hv
  rw [e, hx] at hv
  obtain ⟨t1, v1, rfl, hv1⟩ := hv.cons_inv
  obtain ⟨t2, v2, rfl, hv2⟩ := hv1.cons_inv
  obtain rfl := hv2.nil_inv
  refine kp_makes (by assumption) (by assumption) (by assumption) rfl (show dp + 1 ≤ 900 by have e9 : recursionLimit = 1000 := rfl; omega) (show un + 3 ≤ 9100 by have e9 : cLine = 9900 := rfl; omega) ?_
  intro p D h₃ tk₃ F₃ N₃
  k_steps
  refine' con_fin (Q := fun r s => R (.ok (.ret r)) s) hret kG' N (by assumption) F₃ N₃ (List.forall_mem_nil _) ⟨_, ?hm, List.forall_mem_nil _, ⟨_, _, _, _, rfl, rfl⟩⟩
  case hm => exact List.forall_mem_cons.mpr ⟨by k_mem, List.forall_mem_cons.mpr ⟨by k_mem, List.forall_mem_nil _⟩⟩
end Mine
end
section
section
theorem Mine.anew_PE : (0 : Nat) = 0 := by w_top off; walk1
end
open PySem PySem.W PyProof.Rows
set_option Elab.async false
set_option maxRecDepth 100000
set_option maxHeartbeats 8000000
namespace Mine
local macro_rules | `(tactic| walk_at "getAttr") => `(tactic| (k_here; (with_reducible show wpAny _ _ (getAttr (Value.type "str") (PySem.Str.ofString "strip") _) _ _ _); k_dflt (refine' type_val (a := .builtin "str.strip") ?F ?X ?t ?s ?e ?q ?_; (case F => k_asm); (case X => k_asm); (case t => decide +kernel); (case s => decide +kernel); (case e => kernel_rfl); (case q => kernel_rfl))))
local macro_rules | `(tactic| walk_at "call type:map") => `(tactic| (k_here; (with_reducible show wpAny _ _ (call (Value.type "map") [Value.builtin "str.strip", Value.ref _]) _ _ _); k_dflt (refine' map_star ?F ?N ?m ?v ?z ?n ?h ?_; (case F => k_asm); (case N => k_asm); (case m => k_mem); (case v => k_asm); rotate_right)))
theorem ce_parse {w : World} {mean : ExcName → Option Value} {mg mb : Str → Option Value} (x : Str) (t : Tok) (hx : Txt.splitMax x (Str.ofString "=") 1 = [x]) (hsz : x.length < 100) :
    ConE w mean mg mb 203 120 [.ref 209, .str x t] := by
  unfold ConE; k_fill
  intro dp un gd cn cs a ccd cl outer A₀ base h₀ L m s R B F X N T hk hd hu hret
  k_dflt (refine' codeH_defG ?k1 ?k2 ?k3 ?k4 ?k5 ?kA ?kF ?kK ?k6 ?k7 ?k8 ?k9 ?kB ?_ ?c2 ?c3 ?c4 ?c5; (case kA => exact rfl); (case kF => exact rfl); (case kK => assumption); (case k1 => k_asm); (case k2 => k_asm); (case k3 => k_asm); (case k4 => k_asm); (case k5 => k_asm); (case k6 => k_is); (case k7 => k_is); (case k8 => ktr_room); (case k9 => exact BindsTo.of_eq rfl); (case c5 => decide); (case kB => exact locs rfl); (case c2 => exact rfl); (case c3 => exact rfl); (case c4 => exact rfl))
  intro g' L' h' FG' F' N' B' X' T' kG'
  replace F' : Fr g' L' h' (fun y => List.lookup y [(Str.ofString "text", Value.str x t), (Str.ofString "cls", Value.ref 209)]) := F'
  refine wpH_execs_cons (wpH_Return (wpH_Call_Name ?_))
  k_steps
  refine wpH_callWith_of (P := (Mine.hd.heap_1 w.params).In) (fun h X => let ⟨k, _, L⟩ := keeps_K (K := Mine.hd.heap_1 w.params) (f := .ref 209) (by kernel_rfl) h X; ⟨k, L⟩) ?_
  refine ks_lone ?_
  k_steps
  case z =>
    rename_i y hy
    rename _ = Txt.splitMax x (Str.ofString "=") 1 => e
    rw [e, hx] at hy
    simp only [List.mem_cons, List.not_mem_nil, or_false] at hy
    have : sizeLine = 16777216 := rfl
    subst hy
    omega
  case n =>
    rename _ = Txt.splitMax x (Str.ofString "=") 1 => e
    rw [e, hx]
    exact Nat.le_of_ble_eq_true rfl
  rename _ = Txt.splitMax x (Str.ofString "=") 1 => e
  rename StrsAre _ (List.map Txt.strip _) => hv
  rw [e, hx] at hv
  obtain ⟨t1, v1, rfl, hv1⟩ := hv.cons_inv
  obtain rfl := hv1.nil_inv
  refine wpH_call (pair_raises ?_ rfl fun h₄ e₄ x₄ tk₄ hx₄ => ?_)
  · exact Frag.In.keeps (by assumption) (Fr.keep (by assumption))
  refine leave_H (h0 := s.heap) B' hx₄.of (by assumption) (fun b o eb => kG' b o eb (by simp)) fun h₅ t₅ R₅ => ?_
  exact hret _ _ _ _ _ R₅
end Mine
end
section
open PySem PySem.W PySem.Calls PyProof.Rows
set_option Elab.async false
set_option maxRecDepth 100000
set_option maxHeartbeats 800000
namespace Mine
noncomputable abbrev iterO (x left step : Int) : Obj := { cls := .type "range_iterator", dict := none, data := .fields #[rawInt x, rawInt left, rawInt step], slots := #[] }
section
variable {prog : Program} {w : World} {A : Around} {E : Value → Shared → Prop} {s : Shared} {h₀ : Heap} {L : Addr} {m : Str → Option Value} {news rest : Led} {env : Env}
theorem kp_iter {rg : Addr} {a b c : Int} {t u v : Tok} {Q : Value → Shared → Prop} (F : Fr h₀ L s.heap m) (N : News h₀ L s.heap news) (hr : IsRange s.heap rg a b c t u v)
    (hs : Builtin.Range.small a b c = true) (k : ∀ it h', Fr h₀ L h' m → News h₀ L h' ((it, iterO a (Builtin.Range.rangeSize a b c) c) :: news) → Q (.ref it) { s with heap := h' }) : wpAny (model prog w) A (pyIter (.ref rg)) Q E s :=
  wpAny_pyIter_range hr hs (k _ _ (F.push _) (N.push F _))
theorem kp_next {it : Addr} {x left : Int} {Q : Option Value → Shared → Prop} (F : Fr h₀ L s.heap m) (N : News h₀ L s.heap news) (hm : (it, iterO x left 1) ∈ news) (hl : 0 < left) (hr : ∀ p ∈ rest, p ∈ news ∧ p.2.cls ≠ .type "range_iterator")
    (k : ∀ h', Fr h₀ L h' m → News h₀ L h' ((it, iterO (x + 1) (left - 1) 1) :: rest) → Q (some (.int x s.toks)) { s with heap := h', toks := s.toks + 1 }) : wpAny (model prog w) A (pyNext (.ref it)) Q E s := by
  refine wpAny_pyNext_range_item (N _ hm).1 hl fun h' h1 hs => k h' (F.change hs (N _ hm).2.1 (N _ hm).2.2) ?_
  refine News.setHead (o := iterO x left 1) (fun p hp => ?_) (fun p hp e => ?_) hs h1
  · rcases List.mem_cons.mp hp with rfl | hp
    · exact N _ hm
    · exact N _ (hr p hp).1
  · have h2 := (N _ (hr p hp).1).1
    rw [e, (N _ hm).1] at h2
    exact (hr p hp).2 (by rw [← Option.some.inj h2])
theorem wpH_Call_Attr {M : Model} {o : Expr} {name : Str} {apos pos : Pos} {args : List Expr} {keywords : List Keyword} {Q : Value → Shared → Prop}
    (hb : attributeBase o name env (eval o env) = eval o env) (hf : methodCallForm (args.length + keywords.length) (backTo pos (starEach args env)) (backToKw pos (keywordEach keywords env)) = true)
    (hp : methodCallPos true o env apos pos = pure pos)
    (h : wpAny M A (eval o env) (fun ov s₁ => wpAny M A (getMethod ov name (do return (← importBound o env).getD true)) (fun fp s₂ => wpH M A (callWith pos fp.1 fp.2 (backTo pos (starEach args env)) (backToKw pos (keywordEach keywords env))) Q E s₂) E s₁) E s) :
    wpH M A (eval (.Call (.Attribute o name apos) args keywords pos) env) Q E s := by
  rw [arm_eval_Call, hb]
  refine wpH_pre (wpAny_mono h (fun ov s₁ h₁ => wpH_pre (wpAny_standAt ?_)) fun _ _ x => x)
  unfold methodCall
  rw [hf]
  refine wpH_pre (wpAny_holding ?_)
  show wpAny M A (getMethod ov name (do return (← importBound o env).getD true)) _ _ s₁
  refine wpAny_mono h₁ (fun fp s₂ h₂ => ?_) fun _ _ x => x
  obtain ⟨f, first⟩ := fp
  dsimp only
  rw [hp]
  exact wpH_pre (wpAny_pure h₂)
end
section
variable {M : Model} {A : Around} {E : Value → Shared → Prop} {s : Shared} {K : Frag} {env : Env} {pos : Pos} {first : List Value} {Q : Value → Shared → Prop} {e : Expr} {rest : List Expr}
theorem wpH_callWith_M {q g : Addr} {self : Value} (hf : fnIn K g = true) (h : wpAny M A (spliced (backTo pos (starEach (e :: rest) env))) (fun vs s₁ => MethP K q g self s₁.heap ∧ wpH M A (call (.ref q) (first ++ vs)) Q E s₁) E s)
    (he : starEach (e :: rest) env = (false, eval e env) :: starEach rest env := by rfl) :
    wpH M A (callWith pos (.ref q) first (backTo pos (starEach (e :: rest) env)) (backToKw pos (keywordEach [] env))) Q E s := by
  rw [he] at h ⊢
  exact wpH_callWith_of (P := MethP K q g self) (fun h X => let ⟨k, _, L⟩ := keeps_M hf h X; ⟨k, L⟩) (PySem.Calls.evalArgs_plain h)
theorem wpH_callWith_K {f : Value} (hk : keepIn K f = true) (h : wpAny M A (spliced (backTo pos (starEach (e :: rest) env))) (fun vs s₁ => K.In s₁.heap ∧ wpH M A (call f (first ++ vs)) Q E s₁) E s)
    (he : starEach (e :: rest) env = (false, eval e env) :: starEach rest env := by rfl) :
    wpH M A (callWith pos f first (backTo pos (starEach (e :: rest) env)) (backToKw pos (keywordEach [] env))) Q E s := by
  rw [he] at h ⊢
  exact wpH_callWith_of (P := K.In) (fun h X => let ⟨k, _, L⟩ := keeps_K hk h X; ⟨k, L⟩) (PySem.Calls.evalArgs_plain h)
end
end Mine
end
section
open PySem PySem.W PySem.Calls PyProof.Rows
set_option Elab.async false
set_option maxRecDepth 100000
set_option maxHeartbeats 800000
namespace Mine
section
variable {prog : Program} {w : World} {A₀ A : Around} {E : Value → Shared → Prop} {s : Shared} {base h₀ : Heap} {outer : List Env} {L : Addr} {m : Str → Option Value} {env : Env} {news : List (Addr × Obj)}
theorem codeH_defR {K : Frag} {p : Program} {loose : List Str} {mean : ExcName → Option Value} {mg mb : Str → Option Value} {R : Result → Shared → Prop} {name qual : Str} {params : Arguments} {body : List Stmt} {scope : Scope} {dV kV doc pm cdv ct oc : Value} {an od : Option Addr} {osl : Array (Option Value)} {f : Addr} {args : Args} {binds : List (Str × Value)}
    (B : Below A₀ base outer h₀) (F : Fr h₀ L s.heap m) (X₀ : K.In h₀) (N : News h₀ L s.heap news) (T : Top p loose mean mg mb h₀) (hA : A.frames = some (env :: outer)) (hf : env.frame = some L) (hke : env.scope.kind = .function)
    (ho : K.lookup f = some ⟨oc, od, .func (fnOf name qual params body scope dV kV doc pm an cdv ct), osl⟩) (hcd : codeIn K cdv qual = true) (hroom : A.depth < recursionLimit)
    (hbind : BindsTo s (fnOf name qual params body scope dV kV doc pm an cdv ct) args binds) (hloc : ∀ y ∈ binds, scope.names.lookup y.1 = some .local)
    (h : ∀ g L' h₁, L' = s.heap.objs.size → Fr h₀ L g m → Fr g L' h₁ (fun y => binds.reverse.lookup y) → News g L' h₁ news → Below A base (env :: outer) g → K.In g → Top p loose mean mg mb g → GSub s.heap g (news.map (·.1)) →
      wpH (model prog w) (A.deeper (envOf qual scope L' f cdv)) (execs body (envOf qual scope L' f cdv))
        (fun fl s' => R (.ok (.ret (match fl with | .ret v => v | _ => .none))) s')
        (fun e s' => wpAny (model prog w) (A.deeper (envOf qual scope L' f cdv)) (leaving (envOf qual scope L' f cdv) e) (fun _ s'' => R (.error e) s'') (fun e' s'' => R (.error e') s'') s')
        { s with heap := h₁, toks := s.toks + binds.length })
    (hco : scope.isCoroutine = false) (hgen : scope.isGenerator = false) (hk : scope.kind = .function)
    (hcell : ∀ x ∈ scope.names, x.2 ≠ .cell) : codeH (model prog w) A (.call (.ref f) args) R s := by
  obtain ⟨FG, BG, st, lv⟩ := groundX (R := R) B F N hA hf hke
  refine codeH_call_def (fd := fnX name qual params body scope [] dV kV doc pm an cdv ct) (body := body) (binds := binds) hroom ((X₀.keeps F.keep) _ _ ho) rfl (T.nolimit.keeps F.keep) (codeRec_of (X₀.keeps F.keep) hcd) rfl hbind hcell hloc (fun h₁ hns hk₁ => ?_) hco hgen hk
  exact h _ s.heap.objs.size h₁ rfl FG ⟨hns, fun b o e => hk₁ b o (of_hideAll _ e), Nat.le_of_eq (hideAll_size _ _)⟩
    (fun p hp => ⟨hk₁ _ _ (N p hp).1, Nat.ne_of_lt (Heap.lt_size (N p hp).1), hideAll_none _ (List.mem_map_of_mem hp)⟩) BG (X₀.keeps st) (T.keeps st) (fun b o e n => hideAll_get _ e n)
end
end Mine
end
section
open PySem PySem.W PySem.Calls PyProof.Rows
set_option Elab.async false
set_option maxRecDepth 100000
set_option maxHeartbeats 800000
namespace Mine
/-- `g`, with the objects at `as` as they stand in `h` -/
noncomputable def patch (g h : Heap) (as : List Addr) : Heap := as.foldl (fun g a => match h.get? a with | some o => g.update a (fun _ => o) | none => g) g
theorem patch_spec (h : Heap) : ∀ (as : List Addr) (g : Heap), (∀ a ∈ as, ∃ o, g.get? a = some o) → (∀ a ∈ as, ∃ o, h.get? a = some o) →
    (patch g h as).objs.size = g.objs.size ∧ (∀ b, b ∉ as → (patch g h as).get? b = g.get? b) ∧ (∀ a ∈ as, (patch g h as).get? a = h.get? a)
  | [], g, _, _ => ⟨rfl, fun _ _ => rfl, fun _ hm => nomatch hm⟩
  | a :: r, g, hg, hh => by
    obtain ⟨o, ho⟩ := hg a (.head _)
    obtain ⟨o', ho'⟩ := hh a (.head _)
    have e : patch g h (a :: r) = patch (g.update a fun _ => o') h r := by unfold patch; rw [List.foldl_cons, ho']
    have hs : (g.update a fun _ => o').get? a = some o' := Heap.get?_update_self _ ho (Heap.get?_some_iff.mp ho').2
    have hn : ∀ b, a ≠ b → (g.update a fun _ => o').get? b = g.get? b := fun b hb => Heap.get?_update_other _ _ hb
    obtain ⟨i1, i2, i3⟩ := patch_spec h r (g.update a fun _ => o') (fun x hx => by
      by_cases q : a = x
      · subst q; exact ⟨_, hs⟩
      · rw [hn x q]; exact hg x (.tail _ hx)) (fun x hx => hh x (.tail _ hx))
    rw [e]
    refine ⟨i1.trans (Heap.size_update ..), fun b hb => ?_, fun x hx => ?_⟩
    · rw [i2 b fun q => hb (.tail _ q)]
      exact hn b fun q => hb (q ▸ .head _)
    · by_cases q : x ∈ r
      · exact i3 x q
      · rcases List.mem_cons.mp hx with rfl | hx
        · rw [i2 x q, hs, ho']
        · exact absurd hx q
theorem reframe {A₀ : Around} {base g h h' : Heap} {outer : List Env} {L : Addr} {m : Str → Option Value} {env : Env} (B : Below A₀ base outer g) (F : Fr g L h m) (hf : env.frame = some L)
    (hk : ∀ b o, h.get? b = some o → b ∉ framesOf (env :: outer) → h'.get? b = some o) (hsm : h.UpToSlots h') :
    Fr (patch g h' (framesOf outer)) L h' m ∧ Below A₀ base outer (patch g h' (framesOf outer)) ∧ base.StaysIn (patch g h' (framesOf outer)) := by
  have hg : ∀ a ∈ framesOf outer, ∃ o, g.get? a = some o := fun a ha => let ⟨_, o, ho, _⟩ := B.frames.mem ha; ⟨o, ho⟩
  have hh : ∀ a ∈ framesOf outer, ∃ o, h'.get? a = some o := fun a ha => by
    obtain ⟨_, o, ho, hd⟩ := B.frames.mem ha
    obtain ⟨sl, e⟩ := hsm a o (F.keep _ _ ho) hd
    exact ⟨_, e⟩
  obtain ⟨p1, p2, p3⟩ := patch_spec h' (framesOf outer) g hg hh
  have st : base.StaysIn (patch g h' (framesOf outer)) := fun b o e => by
    rw [p2 b fun q => by rw [(B.frames.mem q).1] at e; cases e]
    exact B.stays b o e
  refine ⟨⟨hsm.ns F.ns, fun b o e => ?_, by rw [p1]; exact F.above⟩, ⟨B.stack, st, B.frames.of_keeps fun b o ho hd => ?_⟩, st⟩
  · by_cases q : b ∈ framesOf outer
    · rw [← p3 b q]; exact e
    · rw [p2 b q] at e
      refine hk b o (F.keep b o e) fun z => ?_
      rw [show framesOf (env :: outer) = L :: framesOf outer from by show List.filterMap _ _ = _; rw [List.filterMap_cons, hf]] at z
      rcases List.mem_cons.mp z with rfl | z
      · exact absurd (Nat.lt_of_lt_of_le (Heap.lt_size e) F.above) (Nat.lt_irrefl _)
      · exact q z
  · by_cases q : b ∈ framesOf outer
    · obtain ⟨sl, e⟩ := hsm b o (F.keep _ _ ho) hd
      exact ⟨_, (p3 b q).trans e, rfl⟩
    · exact ⟨o, (p2 b q).trans ho, rfl⟩
end Mine
end
section
open PySem PySem.W PySem.Calls PyProof.Rows
set_option Elab.async false
set_option maxRecDepth 100000
set_option maxHeartbeats 800000
namespace Mine
section
variable {prog : Program} {w : World} {A₀ : Around} {E : Value → Shared → Prop} {s' : Shared} {base g h : Heap} {outer : List Env} {L a e t : Addr} {m : Str → Option Value} {name : Str} {scope : Scope} {cd : Value}
  {vs : List Value} {b₀ : Stmt} {suite : List Stmt} {pos np : Pos} {rest : List ExceptHandler} {Q : Flow → Shared → Prop}
  {p : Program} {loose : List Str} {mg mb : Str → Option Value} {x : Str} {X T' : String}
theorem caught_G (K : Below A₀ base outer g) (F : Fr g L h m) (R : RaisedH h (envOf name scope L a cd :: outer) e (.type X) t vs s'.heap)
    (T : TopRead p loose mg mb base) (hv : bootBuiltins x = some (.type T'))
    (hexc : isSubtype (.type T') (.type "BaseException") = pure true) (hnt : isSubtype (.type ((Manifest.find? T').elim "type" fun y => y.metatype)) (.type "tuple") = pure false) (hsub : isSubtype (.type X) (.type T') = pure true)
    (k : ∀ h', (∀ b o, h.get? b = some o → b ∉ framesOf (envOf name scope L a cd :: outer) → h'.get? b = some o) → h.UpToSlots h' →
      wpAny (model prog w) ((A₀.deeper (envOf name scope L a cd)).mark (some (.ref e))) (execs (b₀ :: suite) (envOf name scope L a cd)) Q E { s' with heap := h' })
    (h1 : x ∉ startupNames := by decide +kernel) (h2 : x ∉ loose := by decide +kernel) (h3 : x ∉ (recsOf p).map (·.name) := by decide +kernel) (h4 : x ∉ (litsOf p).map (·.1) := by decide +kernel) (h4c : x ∉ (clssOf p loose).map (·.name) := by decide +kernel) (hn : x ≠ "__name__" := by decide +kernel)
    (hk : scope.kind = .function := by rfl) (hx : (envOf name scope L a cd).kindOf x = some .globalImplicit := by rfl) (hd : (x == ("__debug__" : Str)) = false := by decide)
    (hE : PassesOwnAt (model prog w) ((A₀.deeper (envOf name scope L a cd)).mark (some (.ref e))) (A₀.deeper (envOf name scope L a cd)) (envOf name scope L a cd) E := by passes_own) :
    wpAny (model prog w) (A₀.deeper (envOf name scope L a cd)) (noteFrame (.ref e) (envOf name scope L a cd))
      (fun _ s₂ => wpAny (model prog w) (A₀.deeper (envOf name scope L a cd)) (setFlight (.ref e) none) (fun _ s₃ =>
        wpAny (model prog w) (A₀.deeper (envOf name scope L a cd)) (handleBy (.ref e) (envOf name scope L a cd) (.ExceptHandler (some (.Name x np)) none (b₀ :: suite) pos :: rest)) Q E s₃) E s₂) E s' := by
  obtain ⟨⟨B, hl, hfl, hnew⟩, htup, hsm⟩ := R
  have hB : base.StaysIn B := fun b o q => hl b o (F.keep b o (K.stays b o q)) fun z => by
    rcases List.mem_cons.mp (show b ∈ L :: framesOf outer from z) with rfl | z
    · exact absurd (Nat.lt_of_lt_of_le (Heap.lt_size (K.stays b o q)) F.above) (Nat.lt_irrefl _)
    · rw [(K.frames.mem z).1] at q; cases q
  refine wpAny_looks_onW (Around.frames_deeper K.stack) rfl hfl fun h₄ hheld₄ hsm₄ => ?_
  refine wpAny_landsW hheld₄ fun h₅ hheld hsm₅' => ?_
  have hsm₅ := hsm₄.trans hsm₅'
  have hheld' := flyingW_base hB hheld
  obtain ⟨F₅, _, st₅⟩ := reframe (env := envOf name scope L a cd) K F rfl (fun b o eb hb => hheld.1 _ _ (hl b o eb hb)) (hsm.trans hsm₅)
  have T := T.keeps st₅
  obtain ⟨ob, hob, hobc⟩ := hheld'.there
  refine wpAny_handleBy_builtin (X := X) (T := T') (b := true) hexc hnt hsub (ld_builtin_at F₅ T.g (T.free x h1 h2 h3 h4 h4c) T.b ((T.builtins x hn).trans hv) ⟨rfl, ⟨ob, hob, hobc⟩, ?_⟩ hk hx hd)
  refine lands_againW hheld fun h₆ hfl₆ hsm₆ => ?_
  exact wpAny_passesOwnAt hE (k h₆ (fun b o eb hb => hfl₆.1 _ _ (hl b o eb hb)) ((hsm.trans hsm₅).trans hsm₆))
end
theorem news_reframe {A₀ : Around} {base g h h' : Heap} {outer : List Env} {L : Addr} {m : Str → Option Value} {env : Env} {news : Led} (B : Below A₀ base outer g) (F : Fr g L h m) (N : News g L h news) (hf : env.frame = some L)
    (hk : ∀ b o, h.get? b = some o → b ∉ framesOf (env :: outer) → h'.get? b = some o) (hsm : h.UpToSlots h') : News (patch g h' (framesOf outer)) L h' news := by
  have hg : ∀ a ∈ framesOf outer, ∃ o, g.get? a = some o := fun a ha => let ⟨_, o, ho, _⟩ := B.frames.mem ha; ⟨o, ho⟩
  have hh : ∀ a ∈ framesOf outer, ∃ o, h'.get? a = some o := fun a ha => by
    obtain ⟨_, o, ho, hd⟩ := B.frames.mem ha
    obtain ⟨sl, e⟩ := hsm a o (F.keep _ _ ho) hd
    exact ⟨_, e⟩
  obtain ⟨p1, p2, p3⟩ := patch_spec h' (framesOf outer) g hg hh
  intro p hp
  obtain ⟨n1, n2, n3⟩ := N p hp
  have nf : p.1 ∉ framesOf outer := fun q => by obtain ⟨o, ho⟩ := hg _ q; rw [n3] at ho; cases ho
  refine ⟨hk _ _ n1 fun z => ?_, n2, (p2 _ nf).trans n3⟩
  rw [show framesOf (env :: outer) = L :: framesOf outer from by show List.filterMap _ _ = _; rw [List.filterMap_cons, hf]] at z
  rcases List.mem_cons.mp z with e | z
  · exact n2 e
  · exact nf z
theorem ret_keep {A₀ : Around} {base g h h₆ h' h0 : Heap} {outer : List Env} {L L2 : Addr} {m m' : Str → Option Value} (B : Below A₀ base outer g) (F : Fr g L h m) (hsm : h.UpToSlots h₆)
    (hg0 : ∀ b o, h0.get? b = some o → g.get? b = some o) (F7 : Fr (patch g h₆ (framesOf outer)) L2 h' m') : (∀ b o, h0.get? b = some o → b ∉ framesOf outer → h'.get? b = some o) ∧ h0.UpToSlots h' ∧ ∀ b, (patch g h₆ (framesOf outer)).get? b = none → h0.get? b = none := by
  have hg : ∀ a ∈ framesOf outer, ∃ o, g.get? a = some o := fun a ha => let ⟨_, o, ho, _⟩ := B.frames.mem ha; ⟨o, ho⟩
  have hh : ∀ a ∈ framesOf outer, ∃ o, h₆.get? a = some o := fun a ha => by
    obtain ⟨_, o, ho, hd⟩ := B.frames.mem ha
    obtain ⟨sl, e⟩ := hsm a o (F.keep _ _ ho) hd
    exact ⟨_, e⟩
  obtain ⟨p1, p2, p3⟩ := patch_spec h₆ (framesOf outer) g hg hh
  have k : ∀ b o, h0.get? b = some o → b ∉ framesOf outer → h'.get? b = some o := fun b o e q => F7.keep b o ((p2 b q).trans (hg0 b o e))
  refine ⟨k, fun b o e hd => ?_, fun b e => ?_⟩
  rotate_left
  · cases e0 : h0.get? b with
    | none => rfl
    | some o =>
      by_cases q : b ∈ framesOf outer
      · obtain ⟨o', ho'⟩ := hh b q
        rw [p3 b q, ho'] at e; cases e
      · rw [p2 b q, hg0 b o e0] at e; cases e
  by_cases q : b ∈ framesOf outer
  · obtain ⟨sl, e6⟩ := hsm b o (F.keep _ _ (hg0 b o e)) hd
    exact ⟨sl, F7.keep _ _ ((p3 b q).trans e6)⟩
  · exact ⟨o.slots, k b o e q⟩
theorem kp_append {prog : Program} {w : World} {A : Around} {E : Value → Shared → Prop} {s : Shared} {h₀ : Heap} {L : Addr} {m : Str → Option Value} {news rest : Led} {D : Addr} {its : Array Value} {n : Nat} {x : Value} {Q : Value → Shared → Prop}
    (F : Fr h₀ L s.heap m) (N : News h₀ L s.heap news) (hm : (D, PySem.W.listOf its n) ∈ news) (hr : ∀ p ∈ rest, p ∈ news ∧ p.2.cls ≠ .type "list") (hsz : its.size ≤ sizeLine)
    (h : ∀ h', Fr h₀ L h' m → News h₀ L h' ((D, PySem.W.listOf (its.push x) (n + 1)) :: rest) → Q .none { s with heap := h' }) :
    wpAny (model prog w) A (call (.builtin "list.append") [.ref D, x]) Q E s := by
  refine append_head (rest := rest) F (fun p hp => ?_) (fun p hp e => ?_) h hsz
  · rcases List.mem_cons.mp hp with rfl | hp
    · exact N _ hm
    · exact N _ (hr p hp).1
  · have h2 := (N _ (hr p hp).1).1
    rw [e, (N _ hm).1] at h2
    exact (hr p hp).2 (by rw [← Option.some.inj h2])
end Mine
end
section
section
theorem Mine.anew_RD : (0 : Nat) = 0 := by w_top off; walk1
end
open PySem PySem.W PyProof.Rows
set_option Elab.async false
set_option maxRecDepth 100000
set_option maxHeartbeats 8000000
namespace Mine
inductive Reads : Str → List Str → Str → Prop
  | stop (x : Str) : Txt.splitMax x (Str.ofString "=") 1 = [x] → x.length < 100 → Reads x [] x
  | step (x a b : Str) (ns : List Str) (r : Str) : Txt.splitMax x (Str.ofString "=") 1 = [a, b] → x.length < 100 → a.length < 100 → b.length < 100 → Reads (Txt.strip b) ns r → Reads x (Txt.strip a :: ns) r
noncomputable def ConR (w : World) (mean : ExcName → Option Value) (mg mb : Str → Option Value) (f : Addr) (dep : Nat) (vs : List Value) (post : Led → Value → Prop) : Prop :=
  ∀ (dp un : Nat) (gd : Option (List Code)) (cn : Str) (cs : Scope) (a : Addr) (ccd : Value) (cl : List (Str × Addr)) (outer : List Env) (A₀ : Around) (base h₀ : Heap) (L : Addr) (m : Str → Option Value) (s : Shared)
    (R : Result → Shared → Prop),
    Below A₀ base outer h₀ → Fr h₀ L s.heap m → (hd.heap_1 w.params).In h₀ → News h₀ L s.heap [] → Top q (looseW q loose) mean mg mb h₀ → (hd.heap_1 w.params).In base → Top q (looseW q loose) mean mg mb base → cs.kind = .function → dp + dep < recursionLimit → un + 8 * dep < cLine →
    (∀ r tl h' tk', (∀ b o, s.heap.get? b = some o → b ∉ framesOf (envX cn cs L a ccd cl :: outer) → h'.get? b = some o) → s.heap.UpToSlots h' → (∀ p ∈ tl, s.heap.get? p.1 = none ∧ h'.get? p.1 = some p.2) → post tl r → R (.ok (.ret r)) { s with heap := h', toks := tk' }) →
    codeH (model PySem.Challenge.rw_il0133_01.row.prog w) (ktrTop dp un gd cn cs L a ccd cl outer) (.call (.ref f) ⟨vs, []⟩) R s
theorem codeH_anyTok {M : Model} {A : Around} {c : Code} {R : Result → Shared → Prop} {h : Heap} {g : Array GenState} {d : Drawn} {tk : Nat} {o : OsState} (H : ∀ tk, codeH M A c R ⟨h, g, d, tk, o⟩) : codeH M A c R ⟨h, g, d, tk, o⟩ := H tk
theorem News.two {h₀ h : Heap} {L : Addr} {a b c d : Addr × Obj} (N : News h₀ L h [a, b, c, d]) : News h₀ L h [d, a] := fun p hp => N p (by
  rcases List.mem_cons.mp hp with rfl | hp
  · exact .tail _ (.tail _ (.tail _ (.head _)))
  · obtain rfl := List.mem_singleton.mp hp; exact .head _)
theorem cr_read {w : World} {mean : ExcName → Option Value} {mg mb : Str → Option Value} (x : Str) (ns : List Str) (r0 : Str) (t : Tok) (hR : Reads x ns r0) (hn : ns.length ≤ 3) :
    ConR w mean mg mb 236 260 [.str x t] (fun tl r => ∃ p l vs n t, r = .ref p ∧ StrsAre vs ns ∧ tl = [(p, { cls := .type "tuple", data := .seq #[.ref l, .str r0 t] }), (l, listOf vs.toArray n)]) := by
  unfold ConR; k_fill
  intro dp un gd cn cs a ccd cl outer A₀ base h₀ L m s R B F X N T XB TB hk hd hu hret
  k_dflt (refine' codeH_defR ?k1 ?k2 ?k3 ?k4 ?k5 ?kA ?kF ?kK ?k6 ?k7 ?k8 ?k9 ?kB ?_ ?c2 ?c3 ?c4 ?c5; (case kA => exact rfl); (case kF => exact rfl); (case kK => assumption); (case k1 => k_asm); (case k2 => k_asm); (case k3 => k_asm); (case k4 => k_asm); (case k5 => k_asm); (case k6 => k_is); (case k7 => k_is); (case k8 => ktr_room); (case k9 => exact BindsTo.of_eq rfl); (case c5 => decide); (case kB => exact locs rfl); (case c2 => exact rfl); (case c3 => exact rfl); (case c4 => exact rfl))
  intro g' L' h' eL' FG' F' N' B' X' T' kG'
  replace F' : Fr g' L' h' (fun y => List.lookup y [(Str.ofString "line", Value.str x t)]) := F'
  refine wpH_execs_pre ?_
  k_steps
  rename Addr => ln
  refine wpH_execs_pre ?_
  k_steps
  refine wpH_execs_cons (wpH_For ?_)
  k_steps
  rename IsRange _ _ _ _ _ _ _ _ => hrg
  rename News g' L' _ [(_, PySem.W.listOf #[] 0)] => N1
  rename Fr g' L' _ _ => F1
  refine kp_iter F1 N1 hrg (by rfl) ?_
  intro it hI FI NI
  dsimp only
  obtain ⟨lv, hlv⟩ : ∃ lv, lv = Value.str x t := ⟨_, rfl⟩
  replace FI : Fr g' L' hI (fun y => if y = Str.ofString "turn" then (none : Option Value) else if y = Str.ofString "pair" then none else if y = Str.ofString "rest" then some (Value.str x t) else if y = Str.ofString "names" then some (Value.ref ln) else List.lookup y [(Str.ofString "line", lv)]) := by
    subst hlv
    refine (congrArg (Fr g' L' hI) (funext fun y => ?_)).mp FI
    by_cases h1 : y = Str.ofString "turn"
    · subst h1; rfl
    · by_cases h2 : y = Str.ofString "pair"
      · subst h2; rfl
      · simp only [if_neg h1, if_neg h2]
  clear F1 N1
  revert FI NI
  (repeat (rename Fr g' L' _ _ => Fz; clear Fz))
  (repeat (rename News g' L' _ _ => Fz; clear Fz))
  rename (∀ (b : Addr) (o : Obj), Heap.get? _ b = some o → Heap.get? _ b = some o) => az
  clear az
  intro NI FI
  obtain ⟨acc, hacc⟩ : ∃ acc : List Str, acc = [] := ⟨_, rfl⟩
  obtain ⟨vs, hvs⟩ : ∃ vs : List Value, StrsAre vs acc ∧ vs = [] := ⟨[], hacc ▸ .nil, rfl⟩
  obtain ⟨n0, k0, left, e0, e1, e2⟩ : ∃ (n0 : Nat) (k0 left : Int), n0 = 0 ∧ k0 = 0 ∧ left = Builtin.Range.rangeSize 0 9 1 := ⟨_, _, _, rfl, rfl, rfl⟩
  replace NI : News g' L' hI [(it, iterO k0 left 1), (ln, PySem.W.listOf vs.toArray n0)] := by rw [hvs.2, e0, e1, e2]; exact NI
  have hleft : (ns.length : Int) + 1 ≤ left := by rw [e2, show Builtin.Range.rangeSize 0 9 1 = 9 from rfl]; omega
  clear e0 e1 e2
  obtain ⟨tot, htot⟩ : ∃ tot : List Str, tot = acc ++ ns := ⟨_, rfl⟩
  have ht9 : tot = ns := by rw [htot, hacc]; rfl
  rw [← ht9] at hret
  have hav : vs.length + ns.length ≤ 3 := by rw [hvs.2]; simpa using hn
  replace hvs := hvs.1
  obtain ⟨mt, emt⟩ : ∃ mt : Option Value, mt = none := ⟨_, rfl⟩
  obtain ⟨mp, emp⟩ : ∃ mp : Option Value, mp = none := ⟨_, rfl⟩
  replace FI : Fr g' L' hI (fun y => if y = Str.ofString "turn" then mt else if y = Str.ofString "pair" then mp else if y = Str.ofString "rest" then some (Value.str x t) else if y = Str.ofString "names" then some (Value.ref ln) else List.lookup y [(Str.ofString "line", lv)]) := by rw [emt, emp]; exact FI
  clear hlv hacc ht9 emt emp hn hrg
  refine codeH_anyTok fun tk => ?_
  induction hR generalizing acc vs hI t n0 k0 left mt mp tk with
  | stop x hx hsz =>
    have e9 : cLine = 9900 := rfl
    obtain rfl : tot = acc := by rw [htot, List.append_nil]
    refine codeH_forTurn ?_
    refine kp_next (rest := [(ln, PySem.W.listOf vs.toArray n0)]) FI NI (by k_mem) (by omega) (List.forall_mem_cons.mpr ⟨⟨by k_mem, show PySem.Value.type "list" ≠ PySem.Value.type "range_iterator" by decide⟩, List.forall_mem_nil _⟩) ?_
    intro h1 F2 N2
    dsimp only
    refine wpAny_of_eq (a := ()) rfl ?_
    k_steps
    refine wpH_execs_cons (wpH_Try_except (wpH_execs_cons (wpH_Assign_Name (wpH_Call_Attr rfl rfl rfl ?_))))
    k_steps
    rename Addr => qm
    refine wpH_callWith_M (K := Mine.hd.heap_1 w.params) (q := qm) (g := 203) (self := .ref 209) (by kernel_rfl) ?_
    k_steps
    rename News g' L' _ _ => N3
    rename Fr g' L' _ _ => F3
    refine wpH_call (codeH_meth (N3 (qm, methodObj (.ref 203) (.ref 209)) (by k_mem)).1 ?_)
    refine' ce_parse (mean := mean) (mg := mg) (mb := mb) x t hx hsz (dp + 1) (un + 3) gd (Str.ofString "_law_read") _ 236 (.ref 235) [] (envX cn cs L a ccd cl :: outer) (ktrTop dp un gd cn cs L a ccd cl outer) base g' L' _ _ _ B' ?F X' News.nil T' rfl ?dd ?uu ?_
    case F => exact F3
    case dd => omega
    case uu => omega
    intro e₅ t₅ x₅ h₅ tk₅ R₅
    dsimp only
    refine caught_G (T' := "TypeError") B' F3 R₅ (topRead_of TB) PyProof.Rows.Boot.«TypeError» PySem.F.isExc_TypeError PySem.F.notTuple_TypeError (by rw [isSubtype_type]; kernel_rfl) ?_
    intro h₆ keep₆ slots₆
    obtain ⟨F₆, B₆, st₆⟩ := reframe B' F3 rfl keep₆ slots₆
    have N₆ := news_reframe B' F3 N3 rfl keep₆ slots₆
    have X₆ := Frag.In.keeps XB st₆
    have T₆ := Top.keeps TB st₆
    k_steps
    rename News (patch _ _ _) L' _ _ => N7
    rename Fr (patch _ _ _) L' _ _ => F7
    obtain ⟨kk, uu, nn⟩ := ret_keep (h0 := s.heap) B' F3 slots₆ (fun b o eb => kG' b o eb (by simp)) F7
    have fin : ∀ tl : Led, (∀ p ∈ tl, p ∈ _) → ∀ p ∈ tl, s.heap.get? p.1 = none ∧ _ = some p.2 := fun tl ht p hp => ⟨nn _ (N7 p (ht p hp)).2.2, (N7 p (ht p hp)).1⟩
    refine' hret _ _ _ _ kk uu (fin _ ?hm) ⟨_, _, _, _, _, rfl, hvs, rfl⟩
    case hm => exact List.forall_mem_cons.mpr ⟨by k_mem, List.forall_mem_cons.mpr ⟨by k_mem, List.forall_mem_nil _⟩⟩
  | step x xa xb ns r0 hx hsz ha hb hR ih =>
    have e9 : cLine = 9900 := rfl
    refine codeH_forTurn ?_
    refine kp_next (rest := [(ln, PySem.W.listOf vs.toArray n0)]) FI NI (by k_mem) (by omega) (List.forall_mem_cons.mpr ⟨⟨by k_mem, show PySem.Value.type "list" ≠ PySem.Value.type "range_iterator" by decide⟩, List.forall_mem_nil _⟩) ?_
    intro h1 F2 N2
    dsimp only
    refine wpAny_of_eq (a := ()) rfl ?_
    k_steps
    refine wpH_execs_cons (wpH_Try_except (wpH_execs_cons (wpH_Assign_Name (wpH_Call_Attr rfl rfl rfl ?_))))
    k_steps
    rename Addr => qm
    refine wpH_callWith_M (K := Mine.hd.heap_1 w.params) (q := qm) (g := 203) (self := .ref 209) (by kernel_rfl) ?_
    k_steps
    rename News g' L' _ _ => N3
    rename Fr g' L' _ _ => F3
    refine wpH_of_any (wpAny_call (codeAny_meth (N3 (qm, methodObj (.ref 203) (.ref 209)) (by k_mem)).1 ?_))
    refine' cc_parse (mean := mean) (mg := mg) (mb := mb) x xa xb t hx hsz ha hb (dp + 1) (un + 3) gd (Str.ofString "_law_read") _ 236 (.ref 235) [] (envX cn cs L a ccd cl :: outer) (ktrTop dp un gd cn cs L a ccd cl outer) base g' L' _ _ _ B' ?F X' News.nil T' rfl ?dd ?uu ?_
    case F => exact F3
    case dd => omega
    case uu => omega
    rintro _ _ h₅ tk₅ F₅ up₅ tl₅ ⟨p, D, t1, t2, rfl, rfl⟩
    have N₅ : News g' L' h₅ _ := news_add F3 (news_add F3 (news_up N3 up₅) (tl₅ _ (.tail _ (.head _))).1 (tl₅ _ (.tail _ (.head _))).2) (tl₅ _ (.head _)).1 (tl₅ _ (.head _)).2
    dsimp only
    k_steps
    refine wpH_of_any (wpAny_execs_nil (wpAny_execs_nil ?_))
    dsimp only
    refine wpH_execs_pre ?_
    k_steps
    refine' kp_name (mean := mean) (mg := mg) (mb := mb) (x := Txt.strip xa) (y := Txt.strip xb) (t := t1) (u := t2) (D := D) (dp := dp + 1) (un := un + 3) (gd := gd) (cn := Str.ofString "_law_read") (L := L') (a := 236) (ccd := .ref 235) (cl := []) (outer := envX cn cs L a ccd cl :: outer) B' ?F X' ?N T' ?m ?mD ?k ?d ?u ?_
    case F => k_asm
    case N => k_asm
    case m => k_mem
    case mD => k_mem
    case k => rfl
    case d => omega
    case u => omega
    intro h₇ tk₇ F₇ N₇
    k_steps
    have hvn : vs.length ≤ 3 := by omega
    refine' kp_append (rest := [(p, pairObj (Txt.strip xa) t1 (Txt.strip xb) t2 D), (D, emptyDict), (it, iterO (k0 + 1) (left - 1) 1)]) F₇ N₇ ?hm ?hr ?hsz ?_
    case hm => k_mem
    case hr => exact List.forall_mem_cons.mpr ⟨⟨by k_mem, show PySem.Value.ref 209 ≠ PySem.Value.type "list" by decide⟩, List.forall_mem_cons.mpr ⟨⟨by k_mem, show PySem.Value.type "dict" ≠ PySem.Value.type "list" by decide⟩, List.forall_mem_cons.mpr ⟨⟨by k_mem, show PySem.Value.type "range_iterator" ≠ PySem.Value.type "list" by decide⟩, List.forall_mem_nil _⟩⟩⟩
    case hsz => rw [List.size_toArray]; exact Nat.le_trans hvn (Nat.le_of_ble_eq_true rfl)
    intro h₈ F₈ N₈
    dsimp only
    k_steps
    refine wpH_execs_pre ?_
    k_steps
    refine' kp_value (mean := mean) (mg := mg) (mb := mb) (x := Txt.strip xa) (y := Txt.strip xb) (t := t1) (u := t2) (D := D) (dp := dp + 1) (un := un + 3) (gd := gd) (cn := Str.ofString "_law_read") (L := L') (a := 236) (ccd := .ref 235) (cl := []) (outer := envX cn cs L a ccd cl :: outer) B' ?F X' ?N T' ?m ?mD ?k ?d ?u ?_
    case F => k_asm
    case N => k_asm
    case m => k_mem
    case mD => k_mem
    case k => rfl
    case d => omega
    case u => omega
    intro h₉ tk₉ F₉ N₉
    k_steps
    rename News g' L' _ _ => N10
    rename Fr g' L' _ _ => F10
    refine wpH_of_any (wpAny_execs_nil ?_)
    dsimp only
    refine ih t2 _ (acc ++ [Txt.strip xa]) (vs ++ [Value.str (Txt.strip xa) t1]) (n0 + 1) (k0 + 1) (left - 1) ?N ?left hret ?tot ?hav ?hvs (some (.int k0 tk)) (some (.ref p)) ?F _
    case N => rw [← List.push_toArray]; exact News.two N10
    case left => rw [List.length_cons] at hleft; omega
    case tot => rw [htot, List.append_assoc]; rfl
    case hav => rw [List.length_cons] at hav; rw [List.length_append]; show vs.length + 1 + _ ≤ 3; omega
    case hvs => exact kct_snoc hvs
    case F =>
      refine (congrArg (Fr g' L' _) (funext fun y => ?_)).mp F10
      by_cases h1 : y = Str.ofString "turn"
      · subst h1; rfl
      · by_cases h2 : y = Str.ofString "pair"
        · subst h2; rfl
        · simp only [if_neg h1, if_neg h2]
          by_cases h3 : y = Str.ofString "rest"
          · subst h3; rfl
          · simp only [if_neg h3]
end Mine
end
section
section
theorem Mine.anew_FM0 : (0 : Nat) = 0 := by w_top off; walk1
end
open PySem PySem.W PySem.W.X PySem.Calls PyProof.Rows
set_option Elab.async false
set_option maxRecDepth 100000
set_option maxHeartbeats 0
namespace Mine
noncomputable abbrev enumO (it : Addr) (i : Int) (old : Value) : Obj := { cls := .type "enumerate", dict := none, data := .fields #[.none, .bool false, .ref it, rawInt i, .none, old], slots := #[] }
noncomputable abbrev tupIterO (t : Addr) (i : Nat) : Obj := { cls := .type "tuple_iterator", dict := none, data := .fields #[.ref t, .int i 0], slots := #[] }
section
set_option hygiene false in
local macro_rules | `(tactic| x_close) => `(tactic| (refine hq _ _ _ _ (fun b o e => D.keep b o e (by cases hasCls o <;> rfl)) (D.nw _ List.mem_cons_self).2 (D.nw _ List.mem_cons_self).1 (D.nw _ (List.mem_cons_of_mem _ List.mem_cons_self)).2 (D.nw _ (List.mem_cons_of_mem _ List.mem_cons_self)).1))
theorem enum_makes {prog : Program} {w : World} {s : Shared} {Q E : Value → Shared → Prop}
   (X : (hd.heap_1 w.params).In s.heap)
   (hq : ∀ e it h' tk', (∀ b o, s.heap.get? b = some o → h'.get? b = some o) → s.heap.get? e = none → h'.get? e = some (enumO it 0 .none) → s.heap.get? it = none → h'.get? it = some (tupIterO 68 0) → Q (.ref e) { s with heap := h', toks := tk' }) :
   wpAny (model prog w) (litA 900 9100) (call (.type "enumerate") [.ref 68]) Q E s := by
  x_run
end
end Mine
end
section
open PySem PySem.W PySem.Calls PyProof.Rows
open Sem (wp)
set_option Elab.async false
set_option maxRecDepth 100000
set_option maxHeartbeats 800000
namespace Mine
section
variable {prog : Program} {w : World} {A : Around} {E : Value → Shared → Prop} {s : Shared}
/-- the item behind a tuple's iterator, drawn by another iterator -/
theorem drawn_tuple {it t : Addr} {i : Nat} {items : Array Value} {Q : Value → Shared → Prop} (hit : s.heap.IsTupleIter it t i) (ht : s.heap.IsTuple t items)
    (hI : ∀ x h', items[i]? = some x → h'.IsTupleIter it t (i + 1) → Heap.SameBut it s.heap h' → Q x { s with heap := h' })
    (hN : items[i]? = none → A.handled = none ∧ ∀ h' e, Heap.ExtBut it s.heap h' → (∃ o, h'.get? e = some o ∧ o.cls = .type "StopIteration") → E (.ref e) { s with heap := h' }) :
    wpAny (model prog w) A (Builtin.SmallTypes.nextOf (.ref it)) Q E s := by
  have hT := hit.typeIs
  obtain ⟨o, ho, hc, hd⟩ := hit
  obtain ⟨ot, hot, _, n, hdt⟩ := ht
  unfold Builtin.SmallTypes.nextOf
  refine wpAny_bind (wpAny_callSpecial?_slot (name := Str.ofString "__next__") hT F.slot_tuple_iterator_next
    (wpAny_call_entry F.slot_tuple_iterator_next hT F.entry_tuple_iterator_next ?_ (F.args_tuple_iterator_next_1 _)))
  show wpAny _ _ (field (.ref it) 0 >>= _) _ _ s
  refine wpAny_bind (wpAny_field ho hd (x := .ref t) rfl ?_)
  show wpAny _ _ (if (Value.ref t == Value.none) = true then _ else _) _ _ s
  rw [if_neg (show ¬ ((Value.ref t == Value.none) = true) from Bool.false_ne_true)]
  show wpAny _ _ (field (.ref it) 1 >>= _) _ _ s
  refine wpAny_bind (wpAny_field ho hd (x := .int i 0) rfl ?_)
  show wpAny _ _ (seqItems? (.ref t) >>= _) _ _ s
  refine wpAny_bind (wpAny_seqItems hot hdt ?_)
  cases hx : items[i]? with
  | some x =>
    simp only [Int.toNat_natCast, hx]
    refine wpAny_bind (wpAny_setField ho hd (by simp) (wpAny_pure ⟨x, rfl, wpAny_pure (hI x _ hx ⟨_, Heap.get?_update_self _ ho (Obj.isFreed_of_fields (Obj.data_mapFields hd _)), (Obj.cls_mapFields ..).trans hc, ?_⟩ (Heap.SameBut.update ..))⟩))
    rw [Obj.data_mapFields hd]; simp [rawInt]
  | none =>
    obtain ⟨hh, hE⟩ := hN hx
    simp only [Int.toNat_natCast, hx]
    refine wpAny_bind (wpAny_rule (wpAny_bind (wpAny_setField ho hd (by simp) ?_)))
    show wpAny _ _ (newExc (.type "StopIteration") [] >>= _) _ _ _
    refine wpAny_bind ?_
    simp only [newExc, newTuple]
    refine wpAny_bind (wpAny_newObj_type (wpAny_bind (m := firstArgMember _ _) (wpAny_of_eq (a := Value.none) (by first | rfl | (simp only [firstArgMember]; rfl)) (wpAny_newObj_type ?_ (by size_fits)))) (by size_fits))
    simp only [raiseNew]
    refine wpAny_bind (wpAny_handled ?_)
    first | rw [show A.in1.handled = none from hh] | rw [hh]
    exact wpAny_bind (wpAny_pure (wpAny_throw (hE _ _ (((Heap.SameBut.update ..).extBut.push _).push _) ⟨_, Heap.get?_push_size _ rfl, rfl⟩)))
end
theorem drawsTuple {prog : Program} {w : World} {A : Around} (hh : A.handled = none) (it t : Addr) (hne : t ≠ it) (items : Array Value) :
    Draws prog w A it [it, t] items.size (fun i v => items[i]? = some v) (fun i h => h.IsTupleIter it t i ∧ h.IsTuple t items) where
  live := fun _ _ st => let ⟨o, ho, _⟩ := st.1; ⟨o, ho⟩
  frame := fun _ _ _ st hk => ⟨st.1.at fun o e => hk it (by simp) o e, st.2.at fun o e => hk t (by simp) o e⟩
  item := fun i s Q E hi st hQ => drawn_tuple st.1 st.2 (fun x h' hx hit' hs' => hQ _ h' s.toks hx ⟨hit', st.2.extBut hs'.extBut hne⟩ hs') fun hx => absurd hi (by simpa using hx)
  done := fun s Q E st hE => drawn_tuple st.1 st.2 (fun x h' hx _ _ => absurd hx (by simp)) fun _ => ⟨hh, hE⟩
section
variable {prog : Program} {w : World} {A : Around} {E : Value → Shared → Prop} {s : Shared} {h₀ : Heap} {L : Addr} {m : Str → Option Value} {news rest : Led}
noncomputable abbrev TupIt (o : Obj) (t : Addr) (i : Nat) : Prop := o.cls = .type "tuple_iterator" ∧ o.data = .fields #[.ref t, .int i 0]
/-- the next turn of `for i, x in enumerate(t)` -/
theorem kp_enext {oi : Obj} {e it t : Addr} {i : Nat} {old x : Value} {items : Array Value} {Q : Option Value → Shared → Prop} (F : Fr h₀ L s.heap m) (N : News h₀ L s.heap ((e, enumO it i old) :: (it, oi) :: rest)) (ho : TupIt oi t i) (ht : h₀.IsTuple t items) (hx : items[i]? = some x) (hh : A.handled = none)
    (off : ∀ p ∈ rest, p.1 ≠ e ∧ p.1 ≠ it) (hei : e ≠ it)
    (k : ∀ T h' tk oi', TupIt oi' t (i + 1) → Fr h₀ L h' m → News h₀ L h' ((T, { cls := .type "tuple", data := .seq #[.int i tk, x] }) :: (it, oi') :: rest) → IsEnumOut h' e it ((i : Int) + 1) x T → T ≠ e → T ≠ it → (∀ p ∈ rest, T ≠ p.1) → Q (some (.ref T)) { s with heap := h', toks := tk + 1 }) :
    wpAny (model prog w) A (pyNext (.ref e)) Q E s := by
  obtain ⟨ne, neL, ne0⟩ := N _ (.head _)
  obtain ⟨ni, niL, ni0⟩ := N _ (.tail _ (.head _))
  dsimp only at ne neL ne0 ni niL ni0
  have htt : t ≠ it := fun q => by obtain ⟨o, ho, _⟩ := ht; rw [q, ni0] at ho; cases ho
  have hte : t ≠ e := fun q => by obtain ⟨o, ho, _⟩ := ht; rw [q, ne0] at ho; cases ho
  have hlt : i < items.size := (Array.getElem?_eq_some_iff.mp hx).1
  refine wpAny_pyNext_enum_itemD (drawsTuple (A := A.in1) hh it t htt items) ne ⟨⟨_, ni, ho⟩, ht.at fun o q => F.keep _ _ q⟩ hlt hei (by simp only [List.mem_cons, List.not_mem_nil, or_false, not_or]; exact ⟨hei, Ne.symm hte⟩) fun y h' tk hy he hst hT hz hk => ?_
  obtain rfl : x = y := by rw [hx] at hy; exact Option.some.inj hy
  have up : ∀ b o, s.heap.get? b = some o → b ≠ e → b ≠ it → h'.get? b = some o := fun b o q h1 h2 => hk b o h1 h2 q
  have keep : ∀ b o, h₀.get? b = some o → h'.get? b = some o := fun b o q => up b o (F.keep b o q) (fun z => by rw [z, ne0] at q; cases q) (fun z => by rw [z, ni0] at q; cases q)
  have Tl : ∀ b o, s.heap.get? b = some o → s.heap.objs.size ≠ b := fun b o q => Nat.ne_of_gt (Heap.lt_size q)
  obtain ⟨oi', hoi, hod⟩ := hst.1
  refine k s.heap.objs.size h' tk oi' hod ⟨F.ns.at' fun o q => up _ _ q (Ne.symm neL) (Ne.symm niL), keep, F.above⟩ (fun p hp => ?_) he (Tl _ _ ne) (Tl _ _ ni) fun p hp => Tl _ _ (N p (.tail _ (.tail _ hp))).1
  rcases List.mem_cons.mp hp with rfl | hp
  · refine ⟨hT, Nat.ne_of_gt F.ns.lt, ?_⟩
    cases q : h₀.get? s.heap.objs.size with
    | none => rfl
    | some o => exact absurd (Heap.lt_size (F.keep _ _ q)) (Nat.lt_irrefl _)
  · rcases List.mem_cons.mp hp with rfl | hp
    · exact ⟨hoi, niL, ni0⟩
    · have z := N p (.tail _ (.tail _ hp))
      exact ⟨up _ _ z.1 (off p hp).1 (off p hp).2, z.2⟩
theorem kp_ego {elts : List Expr} {x1} {pos : Pos} {e it T : Addr} {i : Int} {x : Value} {Q : Unit → Shared → Prop} (F : Fr h₀ L s.heap m) (N : News h₀ L s.heap rest) (he : IsEnumOut s.heap e it i x T) (heL : e ≠ L) (he0 : h₀.get? e = none) (off : ∀ p ∈ rest, p.1 ≠ e)
    (k : ∀ h', Fr h₀ L h' m → News h₀ L h' ((e, enumO it i x) :: rest) → Q () { s with heap := h' }) :
    wpAny (model prog w) A (letOwnedTupleGo (.Tuple elts x1 pos) (.ref e) (.ref T)) Q E s :=
  wpAny_letOwnedTupleGo_enum he fun h' he' hs => k h' (F.change hs heL he0) fun p hp => by
    rcases List.mem_cons.mp hp with rfl | hp
    · exact ⟨he', heL, he0⟩
    · exact ⟨hs.extBut _ _ (off p hp) (N p hp).1, (N p hp).2⟩
theorem kp_eend {oi : Obj} {e it t : Addr} {old : Value} {items : Array Value} {Q : Option Value → Shared → Prop} (F : Fr h₀ L s.heap m) (N : News h₀ L s.heap ((e, enumO it (items.size : Nat) old) :: (it, oi) :: rest)) (ho : TupIt oi t items.size) (ht : h₀.IsTuple t items) (hh : A.handled = none)
    (off : ∀ p ∈ rest, p.1 ≠ it)
    (k : ∀ h', Fr h₀ L h' m → News h₀ L h' rest → Q none { s with heap := h' }) : wpAny (model prog w) A (pyNext (.ref e)) Q E s := by
  obtain ⟨ne, neL, ne0⟩ := N _ (.head _)
  obtain ⟨ni, niL, ni0⟩ := N _ (.tail _ (.head _))
  dsimp only at ne neL ne0 ni niL ni0
  have htt : t ≠ it := fun q => by obtain ⟨o, ho, _⟩ := ht; rw [q, ni0] at ho; cases ho
  refine wpAny_pyNext_enum_endD (drawsTuple (A := A.in1) hh it t htt items) ne ⟨⟨_, ni, ho⟩, ht.at fun o q => F.keep _ _ q⟩ fun h' hk => k h' ⟨F.ns.at' fun o q => hk _ _ (Ne.symm niL) q, fun b o q => hk _ _ (fun z => by rw [z, ni0] at q; cases q) (F.keep _ _ q), F.above⟩ fun p hp => ?_
  have z := N p (.tail _ (.tail _ hp))
  exact ⟨hk _ _ (off p hp) z.1, z.2⟩
end
theorem kp_enum {w : World} {A : Around} {E : Value → Shared → Prop} {s : Shared} {h₀ : Heap} {L : Addr} {m : Str → Option Value} {news : Led} {Q : Value → Shared → Prop} (F : Fr h₀ L s.heap m) (X₀ : (hd.heap_1 w.params).In h₀) (N : News h₀ L s.heap news) (hh : A.handled = none) (hd : A.depth ≤ 900) (hu : A.units ≤ 9100)
    (q : ∀ e it h' tk', Fr h₀ L h' m → News h₀ L h' ((e, enumO it 0 .none) :: (it, tupIterO 68 0) :: news) → e ≠ it → (∀ p ∈ news, p.1 ≠ e ∧ p.1 ≠ it) → Q (.ref e) { s with heap := h', toks := tk' }) :
    wpAny (model prg w) A (call (.type "enumerate") [.ref 68]) Q E s :=
  wpAny_lit 900 9100 (enum_makes (X₀.keeps F.keep) fun e it h' tk' up h1 h2 h3 h4 => q e it h' tk' (F.after up) (news_add F (news_add F (news_up N up) h3 h4) h1 h2)
    (fun z => by rw [z, h4] at h2; exact absurd (congrArg Obj.cls (Option.some.inj h2)) (by show PySem.Value.type "tuple_iterator" ≠ PySem.Value.type "enumerate"; decide))
    (fun p hp => ⟨fun z => (by have := (N p hp).1; rw [z, h1] at this; cases this), fun z => (by have := (N p hp).1; rw [z, h3] at this; cases this)⟩)) hh hd hu
section
variable {prog : Program} {w : World} {A : Around} {E : Value → Shared → Prop} {s : Shared} {h₀ : Heap} {L : Addr} {m : Str → Option Value} {news rest : Led}
/-- the next turn of `for .. in t` -/
theorem kp_tnext {oi : Obj} {it t : Addr} {i : Nat} {x : Value} {items : Array Value} {Q : Option Value → Shared → Prop} (F : Fr h₀ L s.heap m) (N : News h₀ L s.heap ((it, oi) :: rest)) (ho : TupIt oi t i) (ht : h₀.IsTuple t items) (hx : items[i]? = some x)
    (off : ∀ p ∈ rest, p.1 ≠ it)
    (k : ∀ h' oi', TupIt oi' t (i + 1) → Fr h₀ L h' m → News h₀ L h' ((it, oi') :: rest) → Q (some x) { s with heap := h' }) : wpAny (model prog w) A (pyNext (.ref it)) Q E s := by
  obtain ⟨ni, niL, ni0⟩ := N _ (.head _)
  dsimp only at ni niL ni0
  refine wpAny_pyNext_tuple_item ⟨_, ni, ho⟩ (ht.at fun o q => F.keep _ _ q) hx fun h' hit hs => ?_
  obtain ⟨oi', h1, h2⟩ := hit
  refine k h' oi' h2 (F.change hs niL ni0) fun p hp => ?_
  rcases List.mem_cons.mp hp with rfl | hp
  · exact ⟨h1, niL, ni0⟩
  · have z := N p (.tail _ hp)
    exact ⟨hs.extBut _ _ (off p hp) z.1, z.2⟩
theorem kp_tend {oi : Obj} {it t : Addr} {items : Array Value} {Q : Option Value → Shared → Prop} (F : Fr h₀ L s.heap m) (N : News h₀ L s.heap ((it, oi) :: rest)) (ho : TupIt oi t items.size) (ht : h₀.IsTuple t items) (hh : A.handled = none)
    (off : ∀ p ∈ rest, p.1 ≠ it)
    (k : ∀ h', Fr h₀ L h' m → News h₀ L h' rest → Q none { s with heap := h' }) : wpAny (model prog w) A (pyNext (.ref it)) Q E s := by
  obtain ⟨ni, niL, ni0⟩ := N _ (.head _)
  dsimp only at ni niL ni0
  refine wpAny_pyNext_tuple_end hh ⟨_, ni, ho⟩ (ht.at fun o q => F.keep _ _ q) (by simp) fun h' hk => k h' ⟨F.ns.at' fun o q => hk _ _ (Ne.symm niL) q, fun b o q => hk _ _ (fun z => by rw [z, ni0] at q; cases q) (F.keep _ _ q), F.above⟩ fun p hp => ?_
  have z := N p (.tail _ hp)
  exact ⟨hk _ _ (off p hp) z.1, z.2⟩
theorem kp_tgo {oi : Obj} {elts : List Expr} {x1} {pos : Pos} {it t T : Addr} {i : Nat} {Q : Unit → Shared → Prop} (ni : s.heap.get? it = some oi) (ho : TupIt oi t i) (h : Q () s) :
    wpAny (model prog w) A (letOwnedTupleGo (.Tuple elts x1 pos) (.ref it) (.ref T)) Q E s := by
  obtain ⟨c, d, dd, ss⟩ := oi
  obtain ⟨h1, h2⟩ := ho
  dsimp only at h1 h2
  subst h1 h2
  unfold letOwnedTupleGo
  refine wpAny_bind (wpAny_load ni ?_)
  show wpAny _ A (if (["enumerate", "zip", "dict_itemiterator", "dict_reverseitemiterator", "odict_iterator", "itertools.zip_longest", "itertools.pairwise"].contains "tuple_iterator" && (#[Value.ref t, .int i 0] : Array Value)[0]? == some (rawInt T)) = true then _ else _) Q E s
  rw [if_neg (by simp)]
  exact wpAny_pure h
theorem kp_titer {t : Addr} {items : Array Value} {Q : Value → Shared → Prop} (F : Fr h₀ L s.heap m) (N : News h₀ L s.heap news) (ht : h₀.IsTuple t items)
    (k : ∀ it h', Fr h₀ L h' m → News h₀ L h' ((it, tupIterO t 0) :: news) → (∀ p ∈ news, p.1 ≠ it) → Q (.ref it) { s with heap := h' }) : wpAny (model prog w) A (pyIter (.ref t)) Q E s :=
  wpAny_pyIter_tuple (ht.at fun o q => F.keep _ _ q) (k _ _ (F.push _) (N.push F _) fun p hp => Nat.ne_of_lt (Heap.lt_size (N p hp).1))
theorem kp_tassign {env : Env} {elts : List Expr} {x1} {pos : Pos} {t : Addr} {items : Array Value} {Q : Unit → Shared → Prop} (F : Fr h₀ L s.heap m) (N : News h₀ L s.heap news) (hh : A.handled = none) (ht : s.heap.IsTuple t items)
    (hn : (assignEach elts env).length = items.size) (hstar : (assignEach elts env).findIdx? (·.1) = none)
    (h : ∀ h', Fr h₀ L h' m → News h₀ L h' news → wpAny (model prog w) A (assignInOrder ((assignEach elts env).map (·.2)) items.toList) Q E { s with heap := h' }) :
    wpAny (model prog w) A (assign (.Tuple elts x1 pos) env (.ref t)) Q E s :=
  wpAny_assign_Tuple hh ht hn hstar fun h' hk => by
    have up : ∀ b o, s.heap.get? b = some o → h'.get? b = some o := fun b o q => hk b o (Nat.ne_of_lt (Heap.lt_size q)) q
    exact h h' (F.after up) (news_up N up)
theorem codeAny_anyTok {M : Model} {A : Around} {c : Code} {R : Result → Shared → Prop} {h : Heap} {g : Array GenState} {d : Drawn} {tk : Nat} {o : OsState} (H : ∀ tk, codeAny M A c R ⟨h, g, d, tk, o⟩) : codeAny M A c R ⟨h, g, d, tk, o⟩ := H tk
theorem codeAny_to {M : Model} {A : Around} {c : Code} {R : Result → Shared → Prop} {s : Shared} (R' : Result → Shared → Prop) (h : codeAny M A c R' s) (k : ∀ r s, R' r s → R r s) : codeAny M A c R s := codeAny_mono h k
end
theorem news_sub {h₀ h : Heap} {L : Addr} {l l' : Led} (N : News h₀ L h l) (k : ∀ p ∈ l', p ∈ l) : News h₀ L h l' := fun p hp => N p (k p hp)
theorem fr_map {h₀ h : Heap} {L : Addr} {m m' : Str → Option Value} (F : Fr h₀ L h m) (e : m = m') : Fr h₀ L h m' := e ▸ F
end Mine
end
section
open PySem PySem.W PySem.Calls PyProof.Rows
set_option Elab.async false
set_option maxRecDepth 100000
set_option maxHeartbeats 800000
namespace Mine
noncomputable abbrev LstIt (o : Obj) (l : Addr) (i : Nat) : Prop := o.cls = .type "list_iterator" ∧ o.data = .fields #[.ref l, .int i 0]
noncomputable abbrev lstIterO (l : Addr) (i : Nat) : Obj := { cls := .type "list_iterator", dict := none, data := .fields #[.ref l, .int i 0], slots := #[] }
section
variable {prog : Program} {w : World} {A : Around} {E : Value → Shared → Prop} {s : Shared} {h₀ : Heap} {L : Addr} {m : Str → Option Value} {news rest : Led}
theorem news_isList {h : Heap} {l : Addr} {vs : List Value} {n : Nat} (N : News h₀ L h news) (hm : (l, PySem.W.listOf vs.toArray n) ∈ news) : h.IsList l vs.toArray := ⟨_, (N _ hm).1, rfl, n, rfl⟩
theorem kp_liter {l : Addr} {vs : List Value} {n : Nat} {Q : Value → Shared → Prop} (F : Fr h₀ L s.heap m) (N : News h₀ L s.heap news) (hl : (l, PySem.W.listOf vs.toArray n) ∈ news)
    (k : ∀ it h', Fr h₀ L h' m → News h₀ L h' ((it, lstIterO l 0) :: news) → (∀ p ∈ news, p.1 ≠ it) → Q (.ref it) { s with heap := h' }) : wpAny (model prog w) A (pyIter (.ref l)) Q E s :=
  wpAny_pyIter_list (news_isList N hl) (k _ _ (F.push _) (N.push F _) fun p hp => Nat.ne_of_lt (Heap.lt_size (N p hp).1))
theorem kp_lnext {oi : Obj} {it l : Addr} {i n : Nat} {x : Value} {vs : List Value} {Q : Option Value → Shared → Prop} (F : Fr h₀ L s.heap m) (N : News h₀ L s.heap ((it, oi) :: rest)) (ho : LstIt oi l i) (hl : (l, PySem.W.listOf vs.toArray n) ∈ rest) (hx : vs[i]? = some x)
    (off : ∀ p ∈ rest, p.1 ≠ it)
    (k : ∀ h' oi', LstIt oi' l (i + 1) → Fr h₀ L h' m → News h₀ L h' ((it, oi') :: rest) → Q (some x) { s with heap := h' }) : wpAny (model prog w) A (pyNext (.ref it)) Q E s := by
  obtain ⟨ni, niL, ni0⟩ := N _ (.head _)
  dsimp only at ni niL ni0
  refine wpAny_pyNext_list_item ⟨_, ni, ho⟩ (news_isList N (.tail _ hl)) (by simpa using hx) fun h' hit hs => ?_
  obtain ⟨oi', h1, h2⟩ := hit
  refine k h' oi' h2 (F.change hs niL ni0) fun p hp => ?_
  rcases List.mem_cons.mp hp with rfl | hp
  · exact ⟨h1, niL, ni0⟩
  · have z := N p (.tail _ hp)
    exact ⟨hs.extBut _ _ (off p hp) z.1, z.2⟩
theorem kp_lend {oi : Obj} {it l : Addr} {n : Nat} {vs : List Value} {Q : Option Value → Shared → Prop} (F : Fr h₀ L s.heap m) (N : News h₀ L s.heap ((it, oi) :: rest)) (ho : LstIt oi l vs.length) (hl : (l, PySem.W.listOf vs.toArray n) ∈ rest) (hh : A.handled = none)
    (off : ∀ p ∈ rest, p.1 ≠ it)
    (k : ∀ h', Fr h₀ L h' m → News h₀ L h' rest → Q none { s with heap := h' }) : wpAny (model prog w) A (pyNext (.ref it)) Q E s := by
  obtain ⟨ni, niL, ni0⟩ := N _ (.head _)
  dsimp only at ni niL ni0
  refine wpAny_pyNext_list_end hh ⟨_, ni, ho⟩ (news_isList N (.tail _ hl)) (by simp) fun h' hk => k h' ⟨F.ns.at' fun o q => hk _ _ (Ne.symm niL) q, fun b o q => hk _ _ (fun z => by rw [z, ni0] at q; cases q) (F.keep _ _ q), F.above⟩ fun p hp => ?_
  have z := N p (.tail _ hp)
  exact ⟨hk _ _ (off p hp) z.1, z.2⟩
end
/-- one turn of a list comprehension -/
theorem codeAny_compTurn {prog : Program} {w : World} {A : Around} {s : Shared} {R : Result → Shared → Prop} {elt target iter : Expr} {ifs : List Expr} {scope : Scope} {pos : Pos} {it acc : Value} {env : Env}
    (h : wpAny (model prog w) A (pyNext it) (fun r s₁ => match r with
      | none => R (.ok .next) s₁
      | some v => wpAny (model prog w) A (assign target env v) (fun _ s₂ =>
          wpAny (model prog w) A (forIn ifs true fun c r => if r = true then do let ok ← isTrue c env (eval c env); pure (ForInStep.yield ok) else pure (ForInStep.yield r)) (fun ok s₃ =>
            if ok = true then wpAny (model prog w) A (eval elt env) (fun x s₄ =>
              wpAny (model prog w) A (call (.builtin "list.append") [acc, x]) (fun _ s₅ => codeAny (model prog w) A (.compLoop (.ListComp elt [⟨target, iter, ifs, 0⟩] scope pos) 0 it acc env) R s₅) (notedBy (model prog w) A env fun e s' => R (.error e) s') s₄) (notedBy (model prog w) A env fun e s' => R (.error e) s') s₃
            else codeAny (model prog w) A (.compLoop (.ListComp elt [⟨target, iter, ifs, 0⟩] scope pos) 0 it acc env) R s₃) (notedBy (model prog w) A env fun e s' => R (.error e) s') s₂) (notedBy (model prog w) A env fun e s' => R (.error e) s') s₁) (notedBy (model prog w) A env fun e s' => R (.error e) s') s)
    (ht : ∀ v, letOwnedTupleGo target it v = pure () := by intro _; rfl) :
    codeAny (model prog w) A (.compLoop (.ListComp elt [⟨target, iter, ifs, 0⟩] scope pos) 0 it acc env) R s := by
  refine codeAny_of_tree ?_
  show wpAny _ A ((compTurn (.ListComp elt [⟨target, iter, ifs, 0⟩] scope pos) 0 it acc env).onRaise (fun x => do noteFrame x env; theTreesLotGoes x)) _ _ s
  refine wpAny_noted ?_
  rw [compTurn_list]
  refine wpAny_bind (wpAny_standAt (wpAny_bind (wpAny_mono h (fun r s₁ h₁ => ?_) fun _ _ h' => h')))
  cases r with
  | none => exact wpAny_pure h₁
  | some v =>
    refine wpAny_bind (wpAny_of_eq (ht v) (wpAny_bind (wpAny_mono h₁ (fun _ s₂ h₂ => wpAny_bind (wpAny_mono h₂ (fun ok s₃ h₃ => ?_) fun _ _ h' => h')) fun _ _ h' => h')))
    cases ok with
    | false => exact wpAny_pure ⟨rfl, h₃⟩
    | true => exact wpAny_bind (wpAny_bind (wpAny_mono h₃ (fun x s₄ h₄ => wpAny_bind (wpAny_mono h₄ (fun _ s₅ h₅ => wpAny_pure (wpAny_pure ⟨rfl, h₅⟩)) fun _ _ h' => h')) fun _ _ h' => h'))
theorem newEnv_cell {M : Model} {A : Around} {E : Value → Shared → Prop} {s : Shared} {scope : Scope} {x a0 b0 : Str} {env : Env} {g : Addr} {qual : Str} {Q : Env → Shared → Prop} (hn : scope.names = [(a0, .local), (x, .cell), (b0, .globalImplicit)])
    (h : Q { scope, locals := s.heap.objs.size, globals := g, cells := [(x, s.heap.objs.size + 1)], qual, func := none, code := env.code, frame := env.frame, builtins := env.builtins }
      { s with heap := (s.heap.push { cls := .type "dict", data := .dict #[] }).push { cls := .type "cell", data := .cell none } }) :
    wpAny M A (newFunctionEnv scope g [] [] qual none .none (some env)) Q E s := by
  simp only [newFunctionEnv, hn, Option.isSome_some, if_true]
  refine wpAny_bind (wpAny_alloc ?_)
  refine wpAny_bind (wpAny_layCells _ (fun name kind cells => by cases hkc : kind == NameKind.cell <;> simp [hkc]) _ _ _ _ ?_)
  have e : cellsFrom ({ s with heap := s.heap.push { cls := .type "dict", data := .dict #[] } } : Shared).heap.objs.size [(a0, NameKind.local), (x, .cell), (b0, .globalImplicit)] [] = [(x, s.heap.objs.size + 1)] := by
    show cellsFrom (s.heap.push _).objs.size _ _ = _
    rw [Heap.size_push]; rfl
  rw [e]
  exact wpAny_pure h
section
variable {prog : Program} {w : World} {A : Around} {E : Value → Shared → Prop} {s : Shared} {h₀ : Heap} {L : Addr} {m : Str → Option Value} {env : Env}
noncomputable def EltEnd (bs : Heap) (C : Addr) (s₁ : Shared) (led : Led) (G : Value → Prop) (r : Value) (s'' : Shared) : Prop :=
  ∃ h' tk', s'' = { s₁ with heap := h', toks := tk' } ∧ G r ∧ Fr bs C h' (fun _ => none) ∧ News bs C h' led
/-- the list that such a comprehension goes over, and what it asks -/
noncomputable def CellSrc (prog : Program) (w : World) (A : Around) (h₀ : Heap) (L : Addr) (m : Str → Option Value) (env : Env) (elt : Expr) (x y : Str) (scope : Scope) (G : Value → Value → Prop) (Q : Flow → Shared → Prop) (xv : Value) (s₁ : Shared) : Prop :=
  ∃ l vs n news, xv = .ref l ∧ A.handled = none ∧ Fr h₀ L s₁.heap m ∧ News h₀ L s₁.heap news ∧ (l, PySem.W.listOf vs.toArray n) ∈ news ∧ vs.length ≤ 1000 ∧
      (∀ v ∈ vs, ∀ bs c C D I oc oI ys hh tk (E' : Value → Shared → Prop), (∀ b o, h₀.get? b = some o → bs.get? b = some o) → oc.data = .cell (some v) → Fr bs C hh (fun _ => none) → News bs C hh [(c, oc), (D, LCg.lst ys), (I, oI)] → ((@Ne Nat c D) ∧ (@Ne Nat c I) ∧ (@Ne Nat D I)) →
        wpAny (model prog w) A (eval elt (compEnvC scope [(x, c)] C env)) (EltEnd bs C s₁ [(c, oc), (D, LCg.lst ys), (I, oI)] (G v)) E' { s₁ with heap := hh, toks := tk }) ∧
      (∀ D ys hh tk, Paired G vs ys → (∀ p ∈ news, @LT.lt Nat _ p.1 D) → Fr h₀ L hh (fun z => if z = y then some (.ref D) else m z) → News h₀ L hh ((D, LCg.lst ys) :: news) → Q .next { s₁ with heap := hh, toks := tk })
/-- `y = [elt for x in l]`, where a comprehension within elt closes over x -/
theorem assign_comp_cell {elt iter : Expr} {x y a0 b0 : Str} {px py : Pos} {scope : Scope} {pos spos : Pos} {Q : Flow → Shared → Prop} {G : Value → Value → Prop} (_F : Fr h₀ L s.heap m) (hLe : env.locals = L)
    (hsw : swapsWith (.ListComp elt [⟨.Name x px, iter, [], 0⟩] scope pos) (some (.Name y py)) spos.line env = pure true)
    (hclos : closureFor scope env = pure []) (hn : scope.names = [(a0, .local), (x, .cell), (b0, .globalImplicit)]) (hkind : scope.kind = .function)
    (hnames : ∀ z ∈ scope.names, z.2 = .local → scope.names.lookup z.1 = some .local) (hxc : ∀ c C, (compEnvC scope [(x, c)] C env).kindOf x = some .cell) (hkc : ∀ c C, (compEnvC scope [(x, c)] C env).scope.kind = .function)
    (hy : env.kindOf y = some .local) (hp : (env.scope.kind == .class || (env.scope.kind == .module && env.locals != env.globals)) = false)
    (h : wpAny (model prog w) A (eval iter env) (CellSrc prog w A h₀ L m env elt x y scope G Q) E s)
    (hs : ∀ x, foldedSetIterable iter env x = pure x := by intro _; rfl) :
    wpAny (model prog w) A (exec (.Assign [.Name y py] (.ListComp elt [⟨.Name x px, iter, [], 0⟩] scope pos) spos) env) Q E s := by
  rw [exec_Assign_Name_used _ _ _ _ hsw]
  refine wpAny_bind (wpAny_standAt (wpAny_bind ?_))
  show wpAny _ A (do let _ ← comprehension (.ListComp elt [⟨.Name x px, iter, [], 0⟩] scope pos) scope env _ (newList []) false (eval iter env) (some (assign (.Name y py) env))) _ _ s
  refine wpAny_bind (wpAny_mono (wpAny_comprehension_free (use := some (assign (.Name y py) env)) (Q := fun _ s' => Q .next s') rfl hs hclos hkind hnames
    (wpAny_mono h (fun xv s₁ h₁ => ?_) fun _ _ e => e)) (fun _ s' hq => wpAny_pure (wpAny_pure hq)) fun _ _ e => e)
  obtain ⟨l, vs, n, news, rfl, hh', F, N, hl, hlen, el, fin⟩ := h₁
  refine kp_liter F N hl fun I h2 F2 N2 off2 => ?_
  obtain ⟨nI, nIL, nI0⟩ := N2 _ (.head _)
  dsimp only at nI nIL nI0
  refine wpAny_newObj_type (newEnv_cell (x := x) hn ?_)
  have hI2 : I < h2.objs.size := Heap.lt_size nI
  have gD : (h2.push { cls := .type "list", dict := none, data := .seq ([] : List Value).toArray }).get? h2.objs.size = some (LCg.lst []) := Heap.get?_push_size _ rfl
  have gC : ((h2.push { cls := .type "list", dict := none, data := .seq ([] : List Value).toArray }).push { cls := .type "dict", data := .dict #[] }).get? (h2.objs.size + 1) = some { cls := .type "dict", data := .dict #[] } := by
    have := Heap.get?_push_size (h2.push { cls := .type "list", dict := none, data := .seq ([] : List Value).toArray }) (o := { cls := .type "dict", data := .dict #[] }) rfl
    rw [Heap.size_push] at this; exact this
  have gc : (((h2.push { cls := .type "list", dict := none, data := .seq ([] : List Value).toArray }).push { cls := .type "dict", data := .dict #[] }).push { cls := .type "cell", data := .cell none }).get? (h2.objs.size + 1 + 1) = some { cls := .type "cell", data := .cell none } := by
    have := Heap.get?_push_size ((h2.push { cls := .type "list", dict := none, data := .seq ([] : List Value).toArray }).push { cls := .type "dict", data := .dict #[] }) (o := { cls := .type "cell", data := .cell none }) rfl
    rw [Heap.size_push, Heap.size_push] at this; exact this
  replace gC := Heap.get?_push_of_some { cls := .type "cell", data := .cell none } gC
  replace gD := Heap.get?_push_of_some { cls := .type "cell", data := .cell none } (Heap.get?_push_of_some { cls := .type "dict", data := .dict #[] } gD)
  have kp0 : ∀ b o, b ≠ I → h2.get? b = some o → (((h2.push { cls := .type "list", dict := none, data := .seq ([] : List Value).toArray }).push { cls := .type "dict", data := .dict #[] }).push { cls := .type "cell", data := .cell none }).get? b = some o := fun b o _ e => Heap.get?_push_of_some _ (Heap.get?_push_of_some _ (Heap.get?_push_of_some _ e))
  have gI := Heap.get?_push_of_some { cls := .type "cell", data := .cell none } (Heap.get?_push_of_some { cls := .type "dict", data := .dict #[] } (Heap.get?_push_of_some { cls := .type "list", dict := none, data := .seq ([] : List Value).toArray } nI))
  dsimp only
  rw [Heap.size_push]
  have hLl : l ≠ I := off2 _ hl
  have nl := N2 _ (.tail _ hl)
  generalize ((h2.push _).push _).push _ = H at gD gC gc gI kp0 ⊢
  obtain ⟨D, hD⟩ : ∃ D, D = h2.objs.size := ⟨_, rfl⟩
  rw [← hD] at gD gC gc hI2 ⊢
  have hIn : @LT.lt Nat _ I D := hI2
  have hDn : @Eq Nat D h2.objs.size := hD
  have key : ∀ (rem : List Value) (i : Nat) (ys : List Value) (hh : Heap) (oI oc : Obj) (v0 : Option Value) (tk : Nat), vs.drop i = rem → Paired G (vs.take i) ys → LstIt oI l i → hh.get? I = some oI → oc.data = .cell v0 → hh.get? (D + 1 + 1) = some oc →
      hh.get? D = some (LCg.lst ys) → hh.Ns (D + 1) (fun _ => none) → (∀ b o, b ≠ I → h2.get? b = some o → hh.get? b = some o) → ys.length = i → i ≤ vs.length →
      codeAny (model prog w) A (.compLoop (.ListComp elt [⟨.Name x px, iter, [], 0⟩] scope pos) 0 (.ref I) (.ref D) (compEnvC scope [(x, D + 1 + 1)] (D + 1) env)) (compPost (model prog w) A E (some (assign (.Name y py) env)) (fun _ s' => Q .next s') (.ref D) (D + 1)) { s₁ with heap := hh, toks := tk } := by
    intro rem
    induction rem with
    | nil =>
      intro i ys hh oI oc v0 tk hd hP ho eI hoc ec eD eC kp hyl hil
      have hi : i = vs.length := Nat.le_antisymm hil (by simpa using hd)
      subst hi
      rw [List.take_length] at hP
      refine codeAny_compTurn ?_
      refine wpAny_pyNext_list_end hh' ⟨_, eI, ho⟩ ⟨_, kp _ _ hLl nl.1, rfl, _, rfl⟩ (by simp) fun h5 hs5 => ?_
      replace hs5 : Heap.ExtBut I hh h5 := hs5
      show wpAny _ _ (assign (.Name y py) env (.ref D)) _ _ _
      subst hLe
      have F5 : Fr h₀ env.locals h5 m := ⟨F2.ns.at' fun o e => hs5 _ _ (Ne.symm nIL) (kp _ _ (Ne.symm nIL) e), fun b o e => hs5 _ _ (fun z => by rw [z, nI0] at e; cases e) (kp _ _ (fun z => by rw [z, nI0] at e; cases e) (F2.keep _ _ e)), F2.above⟩
      have DL : D ≠ env.locals := fun z => by have := F2.ns.lt; rw [← z, ← hD] at this; exact Nat.lt_irrefl _ this
      have D0 : h₀.get? D = none := by
        cases e : h₀.get? D with
        | none => rfl
        | some o => have := Heap.lt_size (F2.keep _ _ e); rw [← hD] at this; exact absurd this (Nat.lt_irrefl _)
      have CL : D + 1 ≠ env.locals := fun z => by have q : @LT.lt Nat _ env.locals h2.objs.size := F2.ns.lt; have z' : @Eq Nat (D + 1) env.locals := z; omega
      have C0 : h₀.get? (D + 1) = none := by
        cases e : h₀.get? (D + 1) with
        | none => rfl
        | some o => have q : @LT.lt Nat _ (D + 1) h2.objs.size := Heap.lt_size (F2.keep _ _ e); omega
      have N5 : News h₀ env.locals h5 ((D, LCg.lst ys) :: news) := fun p hp => by
        rcases List.mem_cons.mp hp with rfl | hp
        · exact ⟨hs5 _ _ (Nat.ne_of_gt hI2) eD, DL, D0⟩
        · have z := N2 p (.tail _ hp)
          exact ⟨hs5 _ _ (off2 p hp) (kp _ _ (off2 p hp) z.1), z.2⟩
      have n5 : h5.Ns (D + 1) (fun _ => none) := eC.at' fun o e => hs5 _ _ (Nat.ne_of_gt (Nat.lt_succ_of_lt hI2)) e
      refine wpAny_assign_Name (wpAny_storeName_local hy F5.ns (fun h6 hn6 hs6 => ?_) hp)
      have F6 := F5.set hn6 hs6
      have N6 := N5.set hs6
      refine ⟨fun _ => none, n5.at' fun o e => hs6.extBut _ _ CL e, fun h7 hs7 => ?_⟩
      refine fin D ys h7 _ hP (fun p hp => by have := Heap.lt_size (N2 p (.tail _ hp)).1; rw [← hD] at this; exact this) (F6.change hs7 CL C0) fun p hp => ?_
      have z := N6 p hp
      refine ⟨hs7.extBut _ _ ?_ z.1, z.2⟩
      rcases List.mem_cons.mp hp with rfl | hp
      · exact Nat.ne_of_lt (Nat.lt_succ_self _)
      · have := Heap.lt_size (N2 p (.tail _ hp)).1
        rw [← hD] at this
        exact Nat.ne_of_lt (Nat.lt_succ_of_lt this)
    | cons v rem ih =>
      intro i ys hh oI oc v0 tk hd hP ho eI hoc ec eD eC kp hyl hil
      have hx : vs[i]? = some v := by
        have := List.getElem?_drop (xs := vs) (i := i) (j := 0)
        rw [hd] at this; exact this.symm
      have hlt : i < vs.length := (List.getElem?_eq_some_iff.mp hx).1
      have hd' : vs.drop (i + 1) = rem := by rw [← List.drop_drop, hd]; rfl
      refine codeAny_compTurn ?_
      refine wpAny_pyNext_list_item ⟨_, eI, ho⟩ ⟨_, kp _ _ hLl nl.1, rfl, _, rfl⟩ (by simpa using hx) fun h5 hit5 hs5 => ?_
      replace hs5 : Heap.SameBut I hh h5 := hs5
      obtain ⟨oI5, eI5, hoI5⟩ := hit5
      dsimp only
      refine wpAny_assign_Name (wpAny_storeName_cell (hkc _ _) (hxc _ _) (c := D + 1 + 1) (by show List.lookup x [(x, D + 1 + 1)] = _; simp [List.lookup]) ⟨oc, hs5.extBut _ _ (by show @Ne Nat _ _; omega) ec, hoc⟩ fun h6 hv6 hs6 => ?_)
      replace hs6 : Heap.SameBut (D + 1 + 1) h5 h6 := hs6
      obtain ⟨oc6, hc6, hd6⟩ := hv6
      have bD : (hideAll h2 [I]).objs.size = D := (hideAll_size _ _).trans hD.symm
      have big : ∀ b, D ≤ b → (hideAll h2 [I]).get? b = none := fun b hb => by
        cases e : (hideAll h2 [I]).get? b with
        | none => rfl
        | some o => have := Heap.lt_size e; rw [bD] at this; exact absurd this (Nat.not_lt.mpr hb)
      have kp6 : ∀ b o, b ≠ I → h2.get? b = some o → h6.get? b = some o := fun b o q e => hs6.extBut _ _ (fun z => by have q : @LT.lt Nat _ b h2.objs.size := Heap.lt_size e; have z' : @Eq Nat b _ := z; omega) (hs5.extBut _ _ q (kp _ _ q e))
      have ofb : ∀ b o, (hideAll h2 [I]).get? b = some o → b ≠ I ∧ h2.get? b = some o := fun b o e => ⟨fun z => (by rw [z, hideAll_none _ (List.mem_singleton.mpr rfl)] at e; cases e), of_hideAll _ e⟩
      have F6 : Fr (hideAll h2 [I]) (D + 1) h6 (fun _ => none) := ⟨eC.at' fun o e => hs6.extBut _ _ (by show @Ne Nat _ _; omega) (hs5.extBut _ _ (by show @Ne Nat _ _; omega) e), fun b o e => kp6 b o (ofb b o e).1 (ofb b o e).2, by rw [bD]; exact Nat.le_succ _⟩
      have N6 : News (hideAll h2 [I]) (D + 1) h6 [(D + 1 + 1, oc6), (D, LCg.lst ys), (I, oI5)] := fun p hp => by
        simp only [List.mem_cons, List.not_mem_nil, or_false] at hp
        rcases hp with rfl | rfl | rfl
        · exact ⟨hc6, Nat.ne_of_gt (Nat.lt_succ_self _), big _ (by show @LE.le Nat _ D (D + 1 + 1); omega)⟩
        · exact ⟨hs6.extBut _ _ (by show @Ne Nat _ _; omega) (hs5.extBut _ _ (by show @Ne Nat _ _; omega) eD), Nat.ne_of_lt (Nat.lt_succ_self _), big _ (Nat.le_refl _)⟩
        · exact ⟨hs6.extBut _ _ (by show @Ne Nat _ _; omega) eI5, Nat.ne_of_lt (Nat.lt_succ_of_lt hI2), hideAll_none _ (List.mem_singleton.mpr rfl)⟩
      refine wpAny_tests_nil ?_
      simp only [if_true]
      refine wpAny_mono (el v (List.mem_of_getElem? hx) _ _ _ _ _ oc6 _ _ h6 _ _ (fun b o e => hideAll_get _ (F2.keep _ _ e) (fun z => by rw [List.mem_singleton.mp z, nI0] at e; cases e)) hd6 F6 N6 ⟨by show @Ne Nat _ _; omega, by show @Ne Nat _ _; omega, by show @Ne Nat _ _; omega⟩) ?_ fun _ _ e => e
      rintro r s'' ⟨h7, tk7, rfl, hG, F7, N7⟩
      have eD7 := (N7 _ (.tail _ (.head _))).1
      have eI7 := (N7 _ (.tail _ (.tail _ (.head _)))).1
      have ec7 := (N7 _ (.head _)).1
      refine append_at eD7 (fun h8 hs8 hD8 => ?_) (by rw [List.size_toArray]; exact Nat.le_trans (by omega) (Nat.le_of_ble_eq_true (n := 1000) rfl))
      replace hs8 : Heap.SameBut D h7 h8 := hs8
      refine ih (i + 1) (ys ++ [r]) h8 oI5 oc6 (some v) _ hd' ?_ hoI5 (hs8.extBut _ _ (by show @Ne Nat _ _; omega) eI7) hd6 (hs8.extBut _ _ (by show @Ne Nat _ _; omega) ec7) (hD8.trans (congrArg some (LCg.lst_snoc ys r))) (F7.ns.at' fun o e => hs8.extBut _ _ (by show @Ne Nat _ _; omega) e) (fun b o q e => ?_) (by rw [List.length_append, hyl]; rfl) hlt
      · rw [List.take_add_one, hx]; exact hP.snoc hG
      · exact hs8.extBut _ _ (fun z => by have q : @LT.lt Nat _ b h2.objs.size := Heap.lt_size e; have z' : @Eq Nat b _ := z; omega) (F7.keep _ _ (hideAll_get _ e fun z => q (List.mem_singleton.mp z)))
  have st := key vs 0 [] H (lstIterO l 0) { cls := .type "cell", data := .cell none } none s₁.toks rfl (by rw [List.take_zero]; exact .nil) ⟨rfl, rfl⟩ gI rfl gc gD ⟨_, #[], _, gC, rfl, (by intro e he; simp at he), fun _ => rfl⟩ kp0 rfl (Nat.zero_le _)
  refine codeAny_compStart_list st ?_
  exact wpAny_pyIter_listiter ⟨_, gI, rfl, rfl⟩ st
end
end Mine
end
section
open PySem PySem.W PySem.Calls PyProof.Rows
set_option Elab.async false
set_option maxRecDepth 100000
set_option maxHeartbeats 800000
namespace Mine
/-- a goal that no line of the walk takes -/
noncomputable def Hold (P : Prop) : Prop := P
theorem hold_of {P : Prop} (h : Hold P) : P := h
noncomputable def KtsEl (p : Int → Bool) (g : Int → Str) (news : Led) (k : Int) (y : Value) (news' : Led) : Prop := news' = news ∧ p k = true ∧ ∃ t, y = .str (g k) t
noncomputable def KtsNo (p : Int → Bool) (news : Led) (k : Int) (news' : Led) : Prop := news' = news ∧ p k = false
section
variable {prog : Program} {w : World} {A : Around} {E : Value → Shared → Prop} {s : Shared} {h₀ : Heap} {L : Addr} {m : Str → Option Value} {env : Env} {ct elt : Expr} {x : Str} {scope : Scope} {cl : List (Str × Addr)} {S : Led → Prop} {P : Nat → Value → Prop} {Fin : List Value → Led → Prop} {news : Led}
theorem kts_rest {n : Nat} {ks : List Int} (p : Int → Bool) (g : Int → Str) (hks : ks.length = n) (hP : ∀ i v, i < n → P i v → ∃ k t, ks[i]? = some k ∧ v = .int k t)
    (turn : ∀ k t I oI C oC D m₂ ys h tk (E' : Value → Shared → Prop), k ∈ ks → LCg.NsObj oC m₂ → m₂ x = some (.int k t) → Fr h₀ L h m → News h₀ L h ((I, oI) :: (C, oC) :: (D, LCg.lst ys) :: news) → LCg.Off3 I C D news → ((@Ne Nat I C) ∧ (@Ne Nat I D) ∧ (@Ne Nat C D)) →
      wpAny (model prog w) A (isTrue ct (compEnvC scope cl C env) (eval ct (compEnvC scope cl C env))) (fun b s' => if b = true then wpAny (model prog w) A (eval elt (compEnvC scope cl C env)) (LCg.CompEnd h₀ L m { s with heap := h, toks := tk } I oI C oC D (LCg.lst ys) S (fun y news' => KtsEl p g news k y news')) E' s'
        else LCg.CompEnd h₀ L m { s with heap := h, toks := tk } I oI C oC D (LCg.lst ys) S (fun _ news' => KtsNo p news k news') Value.none s') E' { s with heap := h, toks := tk })
    (fin : ∀ ys, StrsAre ys ((ks.filter p).map g) → Fin ys news) : LCt.CompRestT prog w A h₀ L m env ct elt x scope cl s S P Fin n 0 [] news := by
  suffices key : ∀ (j i : Nat) (ys : List Value), i + j = n → StrsAre ys (((ks.take i).filter p).map g) → LCt.CompRestT prog w A h₀ L m env ct elt x scope cl s S P Fin j i ys news from
    key n 0 [] (Nat.zero_add n) .nil
  intro j
  induction j with
  | zero =>
    intro i ys hi hy
    rw [show i = ks.length by omega, List.take_length] at hy
    exact LCt.CompRestT.zero (fin ys hy)
  | succ j ih =>
    intro i ys hi hy
    refine LCt.CompRestT.succ fun v I oI C oC D m₂ h tk E' hv hC hx F N off ne => ?_
    obtain ⟨k, t, hk, rfl⟩ := hP i v (by omega) hv
    have hs : ks.take (i + 1) = ks.take i ++ [k] := by rw [List.take_add_one, hk]; rfl
    refine wpAny_mono (turn k t I oI C oC D m₂ ys h tk E' (List.mem_of_getElem? hk) hC hx F N off ne) (fun b s₂ hq => ?_) fun _ _ e => e
    cases b with
    | true =>
      simp only [if_true] at hq ⊢
      refine wpAny_mono hq (fun y s₃ hr => ?_) fun _ _ e => e
      obtain ⟨h', tk', nw, e, F', N', off', hS, rfl, hp, u, rfl⟩ := hr
      refine ⟨h', tk', nw, e, F', N', off', hS, ih (i + 1) _ (by omega) ?_⟩
      rw [hs, List.filter_append, List.map_append, List.filter_cons_of_pos (by simpa using hp)]
      exact kct_snoc hy
    | false =>
      simp only [Bool.false_eq_true, if_false] at hq ⊢
      obtain ⟨h', tk', nw, e, F', N', off', hS, rfl, hp⟩ := hq
      refine ⟨h', tk', nw, e, F', N', off', hS, ih (i + 1) _ (by omega) ?_⟩
      rw [hs, List.filter_append, List.map_append, List.filter_cons_of_neg (by simp [hp])]
      simpa using hy
theorem kts_range {n : Nat} {a : Int} (p : Int → Bool) (g : Int → Str)
    (turn : ∀ k t I oI C oC D m₂ ys h tk (E' : Value → Shared → Prop), a ≤ k → k < a + (n : Int) → LCg.NsObj oC m₂ → m₂ x = some (.int k t) → Fr h₀ L h m → News h₀ L h ((I, oI) :: (C, oC) :: (D, LCg.lst ys) :: news) → LCg.Off3 I C D news → ((@Ne Nat I C) ∧ (@Ne Nat I D) ∧ (@Ne Nat C D)) →
      wpAny (model prog w) A (isTrue ct (compEnvC scope cl C env) (eval ct (compEnvC scope cl C env))) (fun b s' => if b = true then wpAny (model prog w) A (eval elt (compEnvC scope cl C env)) (LCg.CompEnd h₀ L m { s with heap := h, toks := tk } I oI C oC D (LCg.lst ys) S (fun y news' => KtsEl p g news k y news')) E' s'
        else LCg.CompEnd h₀ L m { s with heap := h, toks := tk } I oI C oC D (LCg.lst ys) S (fun _ news' => KtsNo p news k news') Value.none s') E' { s with heap := h, toks := tk })
    (fin : ∀ ys, StrsAre ys (((rangeKs a n).filter p).map g) → Fin ys news) : LCt.CompRestT prog w A h₀ L m env ct elt x scope cl s S (fun i v => ∃ t, v = .int (a + (i : Int)) t) Fin n 0 [] news :=
  kts_rest (ks := rangeKs a n) p g (rangeKs_length a n) (fun i v hi hv => by
    obtain ⟨t, e⟩ := hv
    exact ⟨a + (i : Int), t, by simp [rangeKs, hi], e⟩)
    (fun k t I oI C oC D m₂ ys h tk E' hk hC hx F N off ne => turn k t I oI C oC D m₂ ys h tk E' (mem_rangeKs hk).1 (mem_rangeKs hk).2 hC hx F N off ne) fin
noncomputable def KtxEl (g : Str → Str) (news : Led) (k : Str) (y : Value) (news' : Led) : Prop := news' = news ∧ ∃ t, y = .str (g k) t
theorem strs_at : ∀ {vs : List Value} {ks : List Str}, StrsAre vs ks → ∀ (i : Nat) (v : Value), vs[i]? = some v → ∃ k t, ks[i]? = some k ∧ v = .str k t
  | _, _, .nil, i, v, h => by simp at h
  | _, _, .cons y t r, 0, v, h => ⟨y, t, rfl, (Option.some.inj h).symm⟩
  | _, _, .cons y t r, i + 1, v, h => strs_at r i v h
/-- a comprehension over a list of texts -/
theorem ktx_list {vs : List Value} {ks : List Str} (g : Str → Str) (hi : StrsAre vs ks)
    (turn : ∀ k t I oI C oC D m₂ ys h tk (E' : Value → Shared → Prop), k ∈ ks → LCg.NsObj oC m₂ → m₂ x = some (.str k t) → Fr h₀ L h m → News h₀ L h ((I, oI) :: (C, oC) :: (D, LCg.lst ys) :: news) → LCg.Off3 I C D news → ((@Ne Nat I C) ∧ (@Ne Nat I D) ∧ (@Ne Nat C D)) →
      wpAny (model prog w) A (eval elt (compEnvC scope cl C env)) (LCg.CompEnd h₀ L m { s with heap := h, toks := tk } I oI C oC D (LCg.lst ys) S (fun y news' => KtxEl g news k y news')) E' { s with heap := h, toks := tk })
    (fin : ∀ ys, StrsAre ys (ks.map g) → Fin ys news) : LCg.CompRest prog w A h₀ L m env elt x scope cl s S (fun i v => vs.toArray[i]? = some v) Fin vs.toArray.size 0 [] news := by
  suffices key : ∀ (j i : Nat) (ys : List Value), i + j = vs.toArray.size → StrsAre ys ((ks.take i).map g) → LCg.CompRest prog w A h₀ L m env elt x scope cl s S (fun i v => vs.toArray[i]? = some v) Fin j i ys news from
    key _ 0 [] (Nat.zero_add _) .nil
  have hlen : vs.toArray.size = ks.length := by rw [List.size_toArray]; exact hi.length
  intro j
  induction j with
  | zero =>
    intro i ys hij hy
    rw [show i = ks.length by omega, List.take_length] at hy
    exact LCg.CompRest.zero (fin ys hy)
  | succ j ih =>
    intro i ys hij hy
    refine LCg.CompRest.succ fun v I oI C oC D m₂ h tk E' hv hC hx F N off ne => ?_
    obtain ⟨k, t, hk, rfl⟩ := strs_at hi i v (by simpa using hv)
    refine wpAny_mono (turn k t I oI C oC D m₂ ys h tk E' (List.mem_of_getElem? hk) hC hx F N off ne) (fun y s₂ hr => ?_) fun _ _ e => e
    obtain ⟨h', tk', nw, e, F', N', off', hS, rfl, u, rfl⟩ := hr
    refine ⟨h', tk', nw, e, F', N', off', hS, ih (i + 1) _ (by omega) ?_⟩
    rw [List.take_add_one, hk, List.map_append]
    exact kct_snoc hy
/-- a comprehension that keeps some of a list's ints -/
theorem kif_list {vs : List Value} {ks : List Int} (p : Int → Bool) (hi : IntsAre vs ks)
    (turn : ∀ k t I oI C oC D m₂ ys h tk (E' : Value → Shared → Prop), k ∈ ks → LCg.NsObj oC m₂ → m₂ x = some (.int k t) → Fr h₀ L h m → News h₀ L h ((I, oI) :: (C, oC) :: (D, LCg.lst ys) :: news) → LCg.Off3 I C D news → ((@Ne Nat I C) ∧ (@Ne Nat I D) ∧ (@Ne Nat C D)) →
      wpAny (model prog w) A (isTrue ct (compEnvC scope cl C env) (eval ct (compEnvC scope cl C env))) (fun b s' => if b = true then wpAny (model prog w) A (eval elt (compEnvC scope cl C env)) (LCg.CompEnd h₀ L m { s with heap := h, toks := tk } I oI C oC D (LCg.lst ys) S (fun y news' => news' = news ∧ p k = true ∧ ∃ t, y = .int k t)) E' s'
        else LCg.CompEnd h₀ L m { s with heap := h, toks := tk } I oI C oC D (LCg.lst ys) S (fun _ news' => KtsNo p news k news') Value.none s') E' { s with heap := h, toks := tk })
    (fin : ∀ ys, IntsAre ys (ks.filter p) → Fin ys news) : LCt.CompRestT prog w A h₀ L m env ct elt x scope cl s S (fun i v => vs.toArray[i]? = some v) Fin vs.toArray.size 0 [] news := by
  suffices key : ∀ (j i : Nat) (ys : List Value), i + j = vs.toArray.size → IntsAre ys ((ks.take i).filter p) → LCt.CompRestT prog w A h₀ L m env ct elt x scope cl s S (fun i v => vs.toArray[i]? = some v) Fin j i ys news from
    key _ 0 [] (Nat.zero_add _) .nil
  have hlen : vs.toArray.size = ks.length := by rw [List.size_toArray]; exact hi.length
  intro j
  induction j with
  | zero =>
    intro i ys hij hy
    rw [show i = ks.length by omega, List.take_length] at hy
    exact LCt.CompRestT.zero (fin ys hy)
  | succ j ih =>
    intro i ys hij hy
    refine LCt.CompRestT.succ fun v I oI C oC D m₂ h tk E' hv hC hx F N off ne => ?_
    obtain ⟨k, t, rfl, hk⟩ := IntsAre.at hi i v (by simpa using hv)
    have hs : ks.take (i + 1) = ks.take i ++ [k] := by rw [List.take_add_one, hk]; rfl
    refine wpAny_mono (turn k t I oI C oC D m₂ ys h tk E' (List.mem_of_getElem? hk) hC hx F N off ne) (fun b s₂ hq => ?_) fun _ _ e => e
    cases b with
    | true =>
      simp only [if_true] at hq ⊢
      refine wpAny_mono hq (fun y s₃ hr => ?_) fun _ _ e => e
      obtain ⟨h', tk', nw, e, F', N', off', hS, rfl, hp, u, rfl⟩ := hr
      refine ⟨h', tk', nw, e, F', N', off', hS, ih (i + 1) _ (by omega) ?_⟩
      rw [hs, List.filter_append, List.filter_cons_of_pos (by simpa using hp)]
      exact IntsAre.append hy (.cons k u .nil)
    | false =>
      simp only [Bool.false_eq_true, if_false] at hq ⊢
      obtain ⟨h', tk', nw, e, F', N', off', hS, rfl, hp⟩ := hq
      refine ⟨h', tk', nw, e, F', N', off', hS, ih (i + 1) _ (by omega) ?_⟩
      rw [hs, List.filter_append, List.filter_cons_of_neg (by simp [hp])]
      simpa using hy
end
end Mine
end
section
open PySem PySem.W PySem.Calls PySem.Spec PyProof.Rows
set_option Elab.async false
set_option maxRecDepth 100000
set_option maxHeartbeats 800000
namespace Mine
section
variable {prog : Program} {w : World} {A₀ A : Around} {s : Shared} {base h₀ : Heap} {outer : List Env} {L : Addr} {m : Str → Option Value} {news : Led}
/-- entering a def some of whose names are cells; what stands but the ledger's stays in the ground -/
theorem code_defCG {K : Frag} {p : Program} {loose : List Str} {mean : ExcName → Option Value} {mg mb : Str → Option Value} {env : Env} {R : Result → Shared → Prop} {name qual : Str} {params : Arguments} {body : List Stmt} {scope : Scope} {dV kV doc pm cdv ct oc : Value} {an od : Option Addr} {osl : Array (Option Value)} {f : Addr} {args : Args} {binds : List (Str × Value)}
    (B : Below A₀ base outer h₀) (F : Fr h₀ L s.heap m) (X₀ : K.In h₀) (N : News h₀ L s.heap news) (T : Top p loose mean mg mb h₀) (hA : A.frames = some (env :: outer)) (hf : env.frame = some L) (hke : env.scope.kind = .function)
    (ho : K.lookup f = some ⟨oc, od, .func (fnOf name qual params body scope dV kV doc pm an cdv ct), osl⟩) (hcd : codeIn K cdv qual = true) (hroom : A.depth < recursionLimit)
    (hbind : BindsTo s (fnOf name qual params body scope dV kV doc pm an cdv ct) args binds) (hkind : (binds.all fun y => scope.names.lookup y.1 == some .local || scope.names.lookup y.1 == some .cell) = true)
    (hnd : ((cellsFrom 0 scope.names []).map (·.1)).Nodup)
    (h : ∀ g L' h₁ tk cells, Fr h₀ L g m → Fr g L' h₁ (bindL (envOfC qual scope L' f cdv).kindOf binds fun _ => none) → News g L' h₁ (cells ++ news) →
      CellsAre (bindC (envOfC qual scope L' f cdv).kindOf binds fun _ => none) (cellsFrom (L' + 1) scope.names []) cells → Below A base (env :: outer) g → K.In g → Top p loose mean mg mb g → (∀ p ∈ news, p.1 < L') → GSub s.heap g (news.map (·.1)) →
      wpAny (model prog w) (A.deeper (envOfC qual scope L' f cdv)) (execs body (envOfC qual scope L' f cdv))
        (fun fl s' => LeaveK h₀ L m g R (match fl with | .ret v => v | _ => .none) s')
        (fun e s' => wpAny (model prog w) (A.deeper (envOfC qual scope L' f cdv)) (leaving (envOfC qual scope L' f cdv) e) (fun _ s'' => R (.error e) s'') (fun e' s'' => R (.error e') s'') s')
        { s with heap := h₁, toks := tk })
    (hco : scope.isCoroutine = false) (hgen : scope.isGenerator = false) (hk : scope.kind = .function) : codeAny (model prog w) A (.call (.ref f) args) R s := by
  obtain ⟨FG, BG, st, lv⟩ := groundX (R := R) B F N hA hf hke
  refine codeAny_call_function (fd := fnX name qual params body scope [] dV kV doc pm an cdv ct) hroom ((X₀.keeps F.keep) _ _ ho) rfl hco hgen rfl (codeRec_of (X₀.keeps F.keep) hcd) (hbind _ _ _ _ ?_)
  refine wpAny_newFunctionEnv_cells hk (kindsX hkind _) fun env' he s' x => ?_
  subst he
  refine ⟨(T.nolimit.keeps F.keep).keeps x.toInCall.keep, codeAny_func ?_⟩
  obtain ⟨h₁, tk, rfl, _⟩ := x.done
  have up := x.toInCall.keep
  obtain ⟨cells, NC, Y⟩ := Cl.news (h₀ := s.heap) (Nat.le_refl _) fun n c hm => ⟨x.cell n c (lookup_of_mem_nodup (cellsFrom_names scope.names 0 (s.heap.objs.size + 1) [] [] rfl ▸ hnd) hm), x.above n c hm⟩
  refine wpAny_mono (h _ s.heap.objs.size h₁ tk cells FG ⟨x.toInCall.ns, fun b o e => up b o (of_hideAll _ e), Nat.le_of_eq (hideAll_size _ _)⟩ (fun p hp => ?_) Y BG (X₀.keeps st) (T.keeps st) (fun p hp => Heap.lt_size (N p hp).1) (fun b o e n => hideAll_get _ e n)) (fun fl s' hl => lv _ _ hl) fun _ _ y => y
  rcases List.mem_append.mp hp with hp | hp
  · refine ⟨(NC p hp).1, (NC p hp).2.1, ?_⟩
    cases e : (hideAll s.heap (news.map (·.1))).get? p.1 with
    | none => rfl
    | some o => have := of_hideAll _ e; rw [(NC p hp).2.2] at this; cases this
  · exact ⟨up _ _ (N p hp).1, Nat.ne_of_lt (Heap.lt_size (N p hp).1), hideAll_none _ (List.mem_map_of_mem hp)⟩
end
end Mine
end
section
section
theorem Mine.anew_WD : (0 : Nat) = 0 := by w_top off; walk1
end
open PySem PySem.W PyProof.Rows
set_option Elab.async false
set_option maxRecDepth 100000
set_option maxHeartbeats 8000000
namespace Mine
local macro_rules | `(tactic| walk_at "CompSrcT") => `(tactic| (k_here; refine Mine.hold_of ?_))
local macro_rules | `(tactic| walk_at "CompEnd") => `(tactic| (refine Mine.hold_of ?_))
noncomputable def wordOf (w : Int) : Str := Txt.join (Str.ofString "") (((rangeKs 0 3).filter fun k => (w.fdiv ([1, 2, 4].getD k.toNat 0)).fmod 2 == 1).map fun k => Txt.item (Str.ofString "ugo") k)
theorem ints_mem : ∀ {vs : List Value} {ns : List Int}, IntsAre vs ns → ∀ {v : Value}, v ∈ vs → ∃ w u, v = Value.int w u ∧ w ∈ ns
  | _, _, .nil, _, h => nomatch h
  | _, _, .cons n t r, v, h => by
    rcases List.mem_cons.mp h with rfl | h
    · exact ⟨n, t, rfl, .head _⟩
    · obtain ⟨w, u, e, hm⟩ := ints_mem r h
      exact ⟨w, u, e, .tail _ hm⟩
theorem join_few {l : List Str} {sep : Str} (h : ∀ y ∈ l, y.length ≤ 30) (hl : l.length ≤ 30) (hs : sep.length ≤ 30) : (l.map (·.length)).sum + l.length * sep.length ≤ 16777216 := by
  have h1 : (l.map (·.length)).sum ≤ l.length * 30 := by
    clear hl
    induction l with
    | nil => simp
    | cons y r ih =>
      have := ih fun z hz => h z (.tail _ hz)
      have := h y (.head _)
      rw [List.map_cons, List.sum_cons, List.length_cons]; omega
  have h2 : l.length * sep.length ≤ 30 * 30 := Nat.mul_le_mul hl hs
  omega
noncomputable def lastOf (whos : List Int) (what : Int) : Str :=
  if whos = [] then Txt.item (Str.ofString "0pc3d5b7-9lBsDEF") (what.fmod 16)
  else if 15 < what then Txt.item (Str.ofString "ugo") (what - 16)
  else Txt.join (Str.ofString "") (((rangeKs 0 4).filter fun k => (what.fdiv ([1, 2, 4, 8].getD k.toNat 0)).fmod 2 == 1).map fun k => Txt.item (Str.ofString "rwxs") k)
/-- the objects of a pair (words, last) -/
noncomputable def WordsAt (ws : List Str) (y : Str) (tl : Led) (r : Value) : Prop :=
  ∃ p l ys n k t, r = .ref p ∧ tl = [(p, ({ cls := .type "tuple", data := .seq #[.ref l, .str y t] k } : Obj)), (l, PySem.W.listOf ys.toArray n)] ∧ StrsAre ys ws
theorem strs_words : ∀ {vs ys : List Value} {ns : List Int}, IntsAre vs ns → Paired (fun v r => ∃ w u t, v = Value.int w u ∧ r = Value.str (wordOf w) t) vs ys → StrsAre ys (ns.map wordOf)
  | _, _, _, .nil, .nil => .nil
  | _, _, _, .cons n t r, .cons h k => by
    obtain ⟨w, u, t', e, rfl⟩ := h
    obtain ⟨rfl, _⟩ := Value.int.injEq .. ▸ e
    exact .cons _ _ (strs_words r k)
theorem con_two {h₀ g h' : Heap} {L L' : Addr} {m m' : Str → Option Value} {s : Shared} {sub rest : Led} {a b : Addr × Obj} {post : Led → Value → Prop} {Q : Value → Shared → Prop} {r : Value} {tk : Nat}
    (hret : ∀ r tl h' tk', Fr h₀ L h' m → (∀ b o, s.heap.get? b = some o → h'.get? b = some o) → (∀ p ∈ tl, s.heap.get? p.1 = none ∧ h'.get? p.1 = some p.2) → post tl r → Q r { s with heap := h', toks := tk' })
    (kG : GSub s.heap g (sub.map (·.1))) (N : News h₀ L s.heap sub) (kF : Fr h₀ L h' m) (F' : Fr g L' h' m') (N' : News g L' h' (a :: b :: rest))
    (hsub : ∀ p ∈ sub, p ∈ a :: b :: rest) (_hm : ∀ p ∈ [a, b], p ∈ [a, b]) (hne : ∀ q ∈ sub, @Ne Nat a.1 q.1 ∧ @Ne Nat b.1 q.1) (hp : post [a, b] r) : Q r { s with heap := h', toks := tk } :=
  con_fin hret kG N kF F' N' hsub ⟨[a, b], fun p hp => by
    simp only [List.mem_cons, List.not_mem_nil, or_false] at hp ⊢
    rcases hp with rfl | rfl <;> simp, fun q hq p hp => by
    simp only [List.mem_cons, List.not_mem_nil, or_false] at hp
    rcases hp with rfl | rfl
    · exact (hne q hq).1
    · exact (hne q hq).2, hp⟩
theorem con_two3 {h₀ g h' : Heap} {L L' : Addr} {m m' : Str → Option Value} {s : Shared} {sub rest : Led} {a b c : Addr × Obj} {post : Led → Value → Prop} {Q : Value → Shared → Prop} {r : Value} {tk : Nat}
    (hret : ∀ r tl h' tk', Fr h₀ L h' m → (∀ b o, s.heap.get? b = some o → h'.get? b = some o) → (∀ p ∈ tl, s.heap.get? p.1 = none ∧ h'.get? p.1 = some p.2) → post tl r → Q r { s with heap := h', toks := tk' })
    (kG : GSub s.heap g (sub.map (·.1))) (N : News h₀ L s.heap sub) (kF : Fr h₀ L h' m) (F' : Fr g L' h' m') (N' : News g L' h' (a :: c :: b :: rest))
    (hsub : ∀ p ∈ sub, p ∈ a :: b :: rest) (hne : ∀ q ∈ sub, @Ne Nat a.1 q.1 ∧ @Ne Nat b.1 q.1) (hp : post [a, b] r) : Q r { s with heap := h', toks := tk } :=
  con_two hret kG N kF F' (news_sub N' fun p hp => by
    rcases List.mem_cons.mp hp with rfl | hp
    · exact .head _
    · exact .tail _ (.tail _ hp)) hsub (fun _ hp => hp) hne hp
theorem ct_words {w : World} {mean : ExcName → Option Value} {mg mb : Str → Option Value} (t1 t2 t3 : Tok) (x l : Addr) (vs : List Value) (n k : Nat) (whos : List Int) (what : Int) (ahead behind : Str) (h0 : 0 ≤ what) (h1 : what < 19) (hv : IntsAre vs whos) (hw : ∀ w ∈ whos, 1 ≤ w ∧ w ≤ 7) (hlen : whos.length ≤ 3) :
    Con w mean mg mb 224 20 [.ref x] [(x, { cls := .type "tuple", data := .seq #[.ref l, .int what t1, .str ahead t2, .str behind t3] k }), (l, listOf vs.toArray n)] (WordsAt (whos.map wordOf) (lastOf whos what)) := by
  walk_at "CONC enter"
  replace F' := fr_map (m' := fun y => if y = Str.ofString "step" then some (Value.ref x) else none) F' rfl
  k_steps
  · rename (_ : Bool) = true => hn
    have hwn : whos = [] := of_decide_eq_true hn
    rename News g' L' _ _ => N9
    rename Fr g' L' _ _ => F9
    rename Fr h₀ L _ m => kF
    have e1 : lastOf whos what = Txt.item (Str.ofString "0pc3d5b7-9lBsDEF") (what.fmod 16) := if_pos hwn
    refine con_two hret kG' N kF F9 N9 (fun p hp => .tail _ (.tail _ (.tail _ (.tail _ hp)))) (fun p hp => hp) (fun q hq => ?_) ?_
    · simp only [List.mem_cons, List.not_mem_nil, or_false] at hq
      rcases hq with rfl | rfl <;> exact ⟨by show @Ne Nat _ _; dsimp only; omega, by show @Ne Nat _ _; dsimp only; omega⟩
    · rw [e1, hwn]
      exact ⟨_, _, [], _, _, _, rfl, rfl, .nil⟩
  · rename Fr g' L' _ _ => F1
    rename News g' L' _ _ => N1
    refine assign_comp_cell (G := fun v r => ∃ w u t, v = Value.int w u ∧ r = Value.str (wordOf w) t) F1 rfl (by with_unfolding_all rfl) (by with_unfolding_all rfl) rfl rfl (by decide) (fun _ _ => rfl) (fun _ _ => rfl) rfl rfl ?_
    k_steps
    have hvl : vs.length ≤ 1000 := by rw [hv.length]; omega
    refine ⟨l, vs, n, _, rfl, rfl, F1, N1, by k_mem, hvl, ?_, ?_⟩
    · intro v hvm bs c C D I oc oI ys hh tk1 E' up hoc F2 N2 ne2
      obtain ⟨w1, u1, rfl, hw1⟩ : ∃ w1 u1, v = Value.int w1 u1 ∧ w1 ∈ whos := ints_mem hv hvm
      obtain ⟨b1, b2⟩ := hw w1 hw1
      have X2 := Frag.In.keeps X' up
      have T2 := Top.keeps T' up
      clear N1 F1 X' T'
      k_steps
      rename Fr bs C _ _ => F3
      rename News bs C _ _ => N3
      unfold Hold
      refine LCt.CompSrcT.range (n := 3) rfl F3 N3 (by assumption) (by decide) (by rfl) (Nat.le_of_ble_eq_true rfl) ?_
      intro gg
      refine kts_range (fun k => (w1.fdiv ([1, 2, 4].getD k.toNat 0)).fmod 2 == 1) (fun k => Txt.item (Str.ofString "ugo") k) ?_ ?_
      · intro kk tt I3 oI3 C3 oC3 D3 m3 ys3 h3 tk3 E3 hk0 hk1 hC3 hx3 F4 N4 off4 ne4
        have off5 := off4
        simp only [LCg.Off3, and_true] at off4
        k_steps
        generalize hdv : ([1, 2, 4] : List Int).getD kk.toNat 0 = d
        obtain ⟨hd1, hd2⟩ : 1 ≤ d ∧ d ≤ 4 := by
          subst hdv
          have : kk = 0 ∨ kk = 1 ∨ kk = 2 := by omega
          rcases this with rfl | rfl | rfl <;> decide
        k_steps
        · rename News bs C _ _ => N5
          rename Fr bs C _ _ => F5
          rename (w1.fdiv d).fmod 2 = 1 => hq
          unfold Hold
          exact LCg.CompEnd.intro F5 N5 _ (fun p hp => .tail _ hp) off5 trivial ⟨rfl, by simp only [hdv, hq]; rfl, _, rfl⟩
        · rename News bs C _ _ => N5
          rename Fr bs C _ _ => F5
          rename (w1.fdiv d).fmod 2 ≠ 1 => hq
          unfold Hold
          exact LCg.CompEnd.intro F5 N5 _ (fun p hp => .tail _ hp) off5 trivial ⟨rfl, by simp only [hdv]; exact beq_eq_false_iff_ne.mpr hq⟩
      · intro ys3 hy3
        k_steps
        rename News bs C _ _ => N4
        rename Fr bs C _ _ => F4
        refine join_list (items := ys3.toArray) (News.isList N4 (.head _)) hy3 (join_few (fun y hy => ?_) ?_ (by decide)) ?_
        · obtain ⟨k1, hk1, rfl⟩ := List.mem_map.mp hy
          have hk2 := mem_rangeKs (List.mem_filter.mp hk1).1
          have : k1 = 0 ∨ k1 = 1 ∨ k1 = 2 := by omega
          rcases this with rfl | rfl | rfl <;> decide
        · rw [List.length_map]; exact Nat.le_trans (List.length_filter_le _ _) (by rw [rangeKs_length]; decide)
        intro t' k'
        k_steps
        exact ⟨_, _, rfl, ⟨w1, u1, t', rfl, rfl⟩, F4, news_sub N4 fun p hp => .tail _ hp⟩
    · intro D ys hh tk1 hP hlt F2 N2
      rename decide (whos = []) = false => hn
      have hwn : whos ≠ [] := of_decide_eq_false hn
      have hlt1 := hlt _ (.tail _ (.tail _ (.head _)))
      have hlt2 := hlt _ (.tail _ (.tail _ (.tail _ (.head _))))
      dsimp only at hlt1 hlt2
      k_steps
      · rename 15 < what => hb
        rename News g' L' _ _ => N9
        rename Fr g' L' _ _ => F9
        rename Fr h₀ L _ m => kF
        have e1 : lastOf whos what = Txt.item (Str.ofString "ugo") (what - 16) := by rw [lastOf, if_neg hwn, if_pos hb]
        refine con_two hret kG' N kF F9 N9 (fun p hp => .tail _ (.tail _ (.tail _ (.tail _ hp)))) (fun p hp => hp) (fun q hq => ?_) ?_
        · simp only [List.mem_cons, List.not_mem_nil, or_false] at hq
          rcases hq with rfl | rfl <;> exact ⟨by show @Ne Nat _ _; dsimp only; omega, by show @Ne Nat _ _; dsimp only; omega⟩
        · rw [e1]
          exact ⟨_, _, ys, _, _, _, rfl, rfl, strs_words hv hP⟩
      · rename ¬ 15 < what => hb
        rename Fr g' L' _ _ => F3
        rename News g' L' _ _ => N3
        unfold Hold
        refine LCt.CompSrcT.range (n := 4) rfl F3 N3 (by assumption) (by decide) (by rfl) (Nat.le_of_ble_eq_true rfl) ?_
        intro gg
        refine kts_range (fun k => (what.fdiv ([1, 2, 4, 8].getD k.toNat 0)).fmod 2 == 1) (fun k => Txt.item (Str.ofString "rwxs") k) ?_ ?_
        · intro kk tt I3 oI3 C3 oC3 D3 m3 ys3 h3 tk3 E3 hk0 hk1 hC3 hx3 F4 N4 off4 ne4
          have off5 := off4
          simp only [LCg.Off3, and_true] at off4
          k_steps
          generalize hdv : ([1, 2, 4, 8] : List Int).getD kk.toNat 0 = d
          obtain ⟨hd1, hd2⟩ : 1 ≤ d ∧ d ≤ 8 := by
            subst hdv
            have : kk = 0 ∨ kk = 1 ∨ kk = 2 ∨ kk = 3 := by omega
            rcases this with rfl | rfl | rfl | rfl <;> decide
          k_steps
          · rename News g' L' _ _ => N5
            rename Fr g' L' _ _ => F5
            rename (what.fdiv d).fmod 2 = 1 => hq
            unfold Hold
            exact LCg.CompEnd.intro F5 N5 _ (fun p hp => .tail _ hp) off5 trivial ⟨rfl, by simp only [hdv, hq]; rfl, _, rfl⟩
          · rename News g' L' _ _ => N5
            rename Fr g' L' _ _ => F5
            rename (what.fdiv d).fmod 2 ≠ 1 => hq
            unfold Hold
            exact LCg.CompEnd.intro F5 N5 _ (fun p hp => .tail _ hp) off5 trivial ⟨rfl, by simp only [hdv]; exact beq_eq_false_iff_ne.mpr hq⟩
        · intro ys3 hy3
          k_steps
          rename News g' L' _ _ => N4
          refine join_list (items := ys3.toArray) (News.isList N4 (.head _)) hy3 (join_few (fun y hy => ?_) ?_ (by decide)) ?_
          · obtain ⟨k1, hk1, rfl⟩ := List.mem_map.mp hy
            have hk2 := mem_rangeKs (List.mem_filter.mp hk1).1
            have : k1 = 0 ∨ k1 = 1 ∨ k1 = 2 ∨ k1 = 3 := by omega
            rcases this with rfl | rfl | rfl | rfl <;> decide
          · rw [List.length_map]; exact Nat.le_trans (List.length_filter_le _ _) (by rw [rangeKs_length]; decide)
          intro t' k'
          k_steps
          rename News g' L' _ _ => N9
          rename Fr g' L' _ _ => F9
          rename Fr h₀ L _ m => kF
          have e1 : lastOf whos what = Txt.join (Str.ofString "") (((rangeKs 0 4).filter fun k => (what.fdiv ([1, 2, 4, 8].getD k.toNat 0)).fmod 2 == 1).map fun k => Txt.item (Str.ofString "rwxs") k) := by rw [lastOf, if_neg hwn, if_neg hb]
          refine con_two3 hret kG' N kF F9 N9 (fun p hp => .tail _ (.tail _ (.tail _ (.tail _ hp)))) (fun q hq => ?_) ?_
          · simp only [List.mem_cons, List.not_mem_nil, or_false] at hq
            rcases hq with rfl | rfl <;> exact ⟨by show @Ne Nat _ _; dsimp only; omega, by show @Ne Nat _ _; dsimp only; omega⟩
          · rw [e1]
            exact ⟨_, _, ys, _, _, _, rfl, rfl, strs_words hv hP⟩
end Mine
end
section
section
theorem Mine.anew_LN : (0 : Nat) = 0 := by w_top off; walk1
end
open PySem PySem.W PyProof.Rows
set_option Elab.async false
set_option maxRecDepth 100000
set_option maxHeartbeats 8000000
namespace Mine
local macro_rules | `(tactic| walk_at "CompSrc") => `(tactic| (k_here; refine Mine.hold_of ?_))
local macro_rules | `(tactic| walk_at "CompEnd") => `(tactic| (refine Mine.hold_of ?_))
local macro_rules | `(tactic| walk_at "eval ListComp") => `(tactic| (k_here; k_dflt (refine LCg.ListComp_U (F₀ := by k_asm) (by with_unfolding_all rfl) (by decide) (by rfl) (by decide) (by rfl) ?_)))
local macro_rules | `(tactic| walk_at "call ref") => `(tactic| (k_here; (with_reducible show wpAny _ _ (call (Value.ref 224) [Value.ref _]) _ _ _); refine Mine.hold_of ?_))
theorem word_ok {w : Int} (h1 : 1 ≤ w) (h2 : w ≤ 7) : (wordOf w).length ≤ 3 ∧ PyData.strOk (wordOf w) = true := by
  have := int7 h1 h2
  rcases this with rfl | rfl | rfl | rfl | rfl | rfl | rfl <;> decide +kernel
theorem last_ok (whos : List Int) {what : Int} (h1 : 0 ≤ what) (h2 : what < 19) : (lastOf whos what).length ≤ 4 ∧ PyData.strOk (lastOf whos what) = true := by
  have e : lastOf whos what = lastOf (if whos = [] then [] else [1]) what := by
    by_cases h : whos = []
    · rw [if_pos h, h]
    · rw [if_neg h]; unfold lastOf; rw [if_neg h]; rfl
  rw [e]
  have := int19 h1 h2
  by_cases h : whos = []
  · rw [if_pos h]
    rcases this with rfl | rfl | rfl | rfl | rfl | rfl | rfl | rfl | rfl | rfl | rfl | rfl | rfl | rfl | rfl | rfl | rfl | rfl | rfl <;> decide +kernel
  · rw [if_neg h]
    rcases this with rfl | rfl | rfl | rfl | rfl | rfl | rfl | rfl | rfl | rfl | rfl | rfl | rfl | rfl | rfl | rfl | rfl | rfl | rfl <;> decide +kernel
theorem str_len2 (a b : Str) : (a ++ b).length = a.length + b.length := Array.size_append
noncomputable def lineOf (whos : List Int) (what : Int) (ahead behind : Str) : Str :=
  if whos = [] then lastOf whos what else Txt.join (Str.ofString "=") ((whos.map wordOf ++ [lastOf whos what]).map fun y => ahead ++ y ++ behind)
theorem news_skip4 {h₀ h : Heap} {L : Addr} {a b c d e : Addr × Obj} {r : Led} (N : News h₀ L h (a :: b :: c :: d :: e :: r)) : News h₀ L h (a :: r) := news_sub N fun p hp => by
  rcases List.mem_cons.mp hp with rfl | hp
  · exact .head _
  · exact .tail _ (.tail _ (.tail _ (.tail _ (.tail _ hp))))
theorem dat_strs {news : Led} : ∀ {vs : List Value} {ns : List Str}, StrsAre vs ns → DatAll news vs (ns.map .str)
  | _, _, .nil => .nil
  | _, _, .cons y t r => .cons (.str y t) (dat_strs r)
theorem kqdOk_strs : ∀ (ns : List Str), (∀ y ∈ ns, PyData.strOk y = true) → ∀ d ∈ ns.map Dat.str, kqdOk 8 d = true := fun ns h d hd => by
  obtain ⟨n, hm, rfl⟩ := List.mem_map.mp hd; exact h n hm
theorem kp_isnilS {prog : Program} {w : World} {A : Around} {E : Value → Shared → Prop} {s : Shared} {h₀ : Heap} {L : Addr} {news : Led} {a b : Addr} {vs : List Value} {ns : List Str} {n k : Nat} {Q : Value → Shared → Prop} (N : News h₀ L s.heap news) (ma : (a, PySem.W.listOf vs.toArray n) ∈ news) (mb : (b, PySem.W.listOf #[] k) ∈ news) (hi : StrsAre vs ns) (hok : ∀ y ∈ ns, PyData.strOk y = true) (hu : A.units + 64 < cLine)
    (h : Q (.bool (decide (ns = []))) s) : wpAny (model prog w) A (compareOp .Eq (.ref a) (.ref b)) Q E s := by
  refine kqd_eq N ma rfl rfl (dat_strs hi) (List.forall_mem_nil _) mb rfl (show _ = Data.seq (List.toArray []) _ from rfl) (.nil (news := [])) (List.forall_mem_nil _) (kqdOk_strs ns hok) (List.forall_mem_nil _) hu ?_
  cases ns <;> simpa using h
theorem ct_line {w : World} {mean : ExcName → Option Value} {mg mb : Str → Option Value} (t1 t2 t3 : Tok) (x l : Addr) (vs : List Value) (n k : Nat) (whos : List Int) (what : Int) (ahead behind : Str) (h0 : 0 ≤ what) (h1 : what < 19) (hv : IntsAre vs whos) (hw : ∀ w ∈ whos, 1 ≤ w ∧ w ≤ 7) (hlen : whos.length ≤ 3) (ha : ahead.length ≤ 2) (hb : behind.length ≤ 2) :
    Con w mean mg mb 229 40 [.ref x] [(x, { cls := .type "tuple", data := .seq #[.ref l, .int what t1, .str ahead t2, .str behind t3] k }), (l, listOf vs.toArray n)] (fun tl r => tl = [] ∧ ∃ u, r = .str (lineOf whos what ahead behind) u) := by
  walk_at "CONC enter"
  replace F' := fr_map (m' := fun y => if y = Str.ofString "step" then some (Value.ref x) else none) F' rfl
  k_steps
  unfold Hold
  rename Fr g' L' _ _ => F1
  rename News g' L' _ _ => N1
  have e9 : cLine = 9900 := rfl
  have e10 : recursionLimit = 1000 := rfl
  refine' con_use (mean := mean) (mg := mg) (mb := mb) (dp := dp + 1) (un := un + 3) (gd := gd) (cn := Str.ofString "_law_line") (L := L') (a := 229) (ccd := .ref 228) (outer := envX cn cs L a ccd cl :: outer) (ct_words t1 t2 t3 x l vs n k whos what ahead behind h0 h1 hv hw hlen) B' F1 X' N1 T' ?s ?k ?d ?u ?_
  case s => exact fun p hp => .tail _ (.tail _ hp)
  case k => rfl
  case d => omega
  case u => omega
  rintro _ _ h9 tk9 F9 N9 ne9 ⟨pw, lw, ys, nw, kw, tw, rfl, rfl, hys⟩
  simp only [List.cons_append, List.nil_append] at N9
  k_steps
  rename Fr g' L' _ _ => F10
  rename News g' L' _ _ => N10
  refine' kp_isnilS N10 ?ma ?mb hys ?hok ?hu ?_
  case ma => k_mem
  case mb => k_mem
  case hok => exact fun y hy => by obtain ⟨w1, hw1, rfl⟩ := List.mem_map.mp hy; exact (word_ok (hw w1 hw1).1 (hw w1 hw1).2).2
  case hu => show un + 3 + 64 < cLine; omega
  have hall : ∀ y ∈ whos.map wordOf ++ [lastOf whos what], y.length ≤ 4 := fun y hy => by
    rcases List.mem_append.mp hy with hy | hy
    · obtain ⟨w1, hw1, rfl⟩ := List.mem_map.mp hy
      exact Nat.le_succ_of_le (word_ok (hw w1 hw1).1 (hw w1 hw1).2).1
    · rw [List.mem_singleton.mp hy]; exact (last_ok whos h0 h1).1
  k_steps
  · rename List.map wordOf whos = [] => hn
    rename News g' L' _ _ => N15
    rename Fr g' L' _ _ => F15
    rename Fr h₀ L _ m => kF
    refine' con_fin hret kG' N kF F15 N15 (fun p hp => .tail _ (.tail _ (.tail _ (.tail _ (.tail _ hp))))) ⟨[], List.forall_mem_nil _, fun _ _ => List.forall_mem_nil _, ⟨rfl, tw, ?_⟩⟩
    rw [lineOf, if_pos (List.map_eq_nil_iff.mp hn)]
  · rename ¬ List.map wordOf whos = [] => hn
    have hne : ¬ whos = [] := fun z => hn (by rw [z]; rfl)
    rename Fr g' L' _ _ => F11
    rename News g' L' _ _ => N11
    refine' add_arrays (its := ys.toArray) (its2 := #[Value.str (lastOf whos what) tw]) F11 N11 ?hl ?hb ?_ ?hz
    case hl => exact news_isList (n := nw) N11 (by k_mem)
    case hb => exact ⟨_, (N11 _ (.head _)).1, rfl, _, rfl⟩
    · intro h12 F12 N12
      have N13 := news_skip4 N12
      clear N12 N11
      refine LCg.CompSrc.ledger (its := (ys ++ [Value.str (lastOf whos what) tw]).toArray) rfl F12 N13 (.head _) ?hsz ?_
      case hsz => rw [List.size_toArray, List.length_append, hys.length, List.length_map]; exact Nat.le_trans (show _ ≤ 30 by show _ + 1 ≤ 30; omega) (Nat.le_of_ble_eq_true rfl)
      intro gg
      refine ktx_list (ks := whos.map wordOf ++ [lastOf whos what]) (fun y => ahead ++ y ++ behind) (kct_snoc hys) ?_ ?_
      · intro kk tt I3 oI3 C3 oC3 D3 m3 ys3 h3 tk3 E3 hk0 hC3 hx3 F4 N4 off4 ne4
        have off5 := off4
        simp only [LCg.Off3, and_true] at off4
        have hkl : kk.length ≤ 4 := hall kk hk0
        k_steps
        unfold Hold
        rename News g' L' _ _ => N14
        rename Fr g' L' _ _ => F14
        exact LCg.CompEnd.intro F14 N14 _ (fun p hp => hp) off5 (.inr ⟨_, .head _, rfl, _, rfl⟩) ⟨rfl, _, rfl⟩
      · intro ys3 hy3
        k_steps
        rename News g' L' _ _ => N14
        refine join_list (items := ys3.toArray) (News.isList N14 (.head _)) hy3 (join_few (fun y hy => ?_) ?_ (by decide)) ?_
        · obtain ⟨k1, hk1, rfl⟩ := List.mem_map.mp hy
          have := hall k1 hk1
          rw [str_len2, str_len2]; omega
        · rw [List.length_map, List.length_append, List.length_map]; show _ + 1 ≤ 30; omega
        intro t' k'
        k_steps
        rename News g' L' _ _ => N15
        rename Fr g' L' _ _ => F15
        rename Fr h₀ L _ m => kF
        refine' con_fin hret kG' N kF F15 N15 (fun p hp => .tail _ (.tail _ (.tail _ (.tail _ hp)))) ⟨[], List.forall_mem_nil _, fun _ _ => List.forall_mem_nil _, ⟨rfl, t', ?_⟩⟩
        rw [lineOf, if_neg hne]
    case hz => simp only [List.size_toArray, hys.length, List.length_map]; exact Nat.le_trans (show _ ≤ 30 by show _ + 1 ≤ 30; omega) (Nat.le_of_ble_eq_true rfl)
end Mine
end
section
open PySem PySem.W PySem.Calls PyProof.Rows
set_option Elab.async false
set_option maxRecDepth 100000
set_option maxHeartbeats 800000
namespace Mine
section
variable {prog : Program} {w : World} {A : Around} {E : Value → Shared → Prop} {s : Shared} {h₀ : Heap} {L : Addr} {m : Str → Option Value} {news rest : Led}
theorem kp_riter {rg : Addr} {a b c : Int} {t u v : Tok} {Q : Value → Shared → Prop} (F : Fr h₀ L s.heap m) (N : News h₀ L s.heap news) (hr : IsRange s.heap rg a b c t u v)
    (hs : Builtin.Range.small a b c = true) (k : ∀ it h', Fr h₀ L h' m → News h₀ L h' ((it, iterO a (Builtin.Range.rangeSize a b c) c) :: news) → (∀ p ∈ news, p.1 ≠ it) → Q (.ref it) { s with heap := h' }) : wpAny (model prog w) A (pyIter (.ref rg)) Q E s :=
  wpAny_pyIter_range hr hs (k _ _ (F.push _) (N.push F _) fun p hp => Nat.ne_of_lt (Heap.lt_size (N p hp).1))
theorem kp_rnext {it : Addr} {x left : Int} {Q : Option Value → Shared → Prop} (F : Fr h₀ L s.heap m) (N : News h₀ L s.heap ((it, iterO x left 1) :: rest)) (hl : 0 < left) (off : ∀ p ∈ rest, p.1 ≠ it)
    (k : ∀ h', Fr h₀ L h' m → News h₀ L h' ((it, iterO (x + 1) (left - 1) 1) :: rest) → Q (some (.int x s.toks)) { s with heap := h', toks := s.toks + 1 }) : wpAny (model prog w) A (pyNext (.ref it)) Q E s := by
  obtain ⟨ni, niL, ni0⟩ := N _ (.head _)
  dsimp only at ni niL ni0
  refine wpAny_pyNext_range_item ni hl fun h' h1 hs => k h' (F.change hs niL ni0) fun p hp => ?_
  rcases List.mem_cons.mp hp with rfl | hp
  · exact ⟨h1, niL, ni0⟩
  · have z := N p (.tail _ hp)
    exact ⟨hs.extBut _ _ (off p hp) z.1, z.2⟩
theorem kp_rend {it : Addr} {x : Int} {Q : Option Value → Shared → Prop} (F : Fr h₀ L s.heap m) (N : News h₀ L s.heap ((it, iterO x 0 1) :: rest)) (hh : A.handled = none) (off : ∀ p ∈ rest, p.1 ≠ it)
    (k : ∀ h', Fr h₀ L h' m → News h₀ L h' rest → Q none { s with heap := h' }) : wpAny (model prog w) A (pyNext (.ref it)) Q E s := by
  obtain ⟨ni, niL, ni0⟩ := N _ (.head _)
  dsimp only at ni niL ni0
  refine wpAny_pyNext_range_end hh ni (by decide) fun h' hk => k h' ⟨F.ns.at' fun o q => hk _ _ (Ne.symm niL) q, fun b o q => hk _ _ (fun z => by rw [z, ni0] at q; cases q) (F.keep _ _ q), F.above⟩ fun p hp => ?_
  have z := N p (.tail _ hp)
  exact ⟨hk _ _ (off p hp) z.1, z.2⟩
end
end Mine
end
section
section
theorem Mine.anew_RW3 : (0 : Nat) = 0 := by w_top off; walk1
end
open PySem PySem.W PyProof.Rows
set_option Elab.async false
set_option maxRecDepth 100000
set_option maxHeartbeats 8000000
namespace Mine
local macro_rules | `(tactic| walk_at "eval ListComp") => `(tactic| (k_here; k_dflt (refine LCt.ListComp_T (F₀ := by k_asm) (by with_unfolding_all rfl) (by decide) (by rfl) (by decide) (by rfl) ?_)))
local macro_rules | `(tactic| walk_at "CompSrcT") => `(tactic| (k_here; refine Mine.hold_of ?_))
local macro_rules | `(tactic| walk_at "CompEnd") => `(tactic| (refine Mine.hold_of ?_))
local macro_rules | `(tactic| walk_at "exec If") => `(tactic| (k_here; (with_reducible show wpAny _ _ (exec (Stmt.If (Expr.Compare (Expr.ListComp _ _ _ _) _ _ _) _ _ _) _) _ _ _); refine Mine.hold_of ?_))
local macro_rules | `(tactic| walk_at "exec If") => `(tactic| (k_here; (with_reducible show wpAny _ _ (exec (Stmt.If _ _ (_ :: _) _) _) _ _ _); refine Mine.hold_of ?_))
noncomputable def rdOf (row : Str) (what : Int) : Str := if 15 < what then Txt.item row (3 * (what - 16) + 1) else if what.fmod 2 = 1 then Str.ofString "r" else Str.ofString "-"
noncomputable def wrOf (row : Str) (what : Int) : Str := if 15 < what then Txt.item row (3 * (what - 16) + 1 + 1) else if (what.fdiv 2).fmod 2 = 1 then Str.ofString "w" else Str.ofString "-"
noncomputable def laOf (row : Str) (what : Int) : Int := if 15 < what then (if (Builtin.Str.occurrences (Str.ofString "xst") (Txt.item row (3 * (what - 16) + 1 + 2)) 0 (Str.ofString "xst").length 1).isEmpty = true then 0 else 1) else what.fdiv 4
noncomputable def rowMap (o : Option Value) (r w : Str) (la : Int) (t1 t2 t3 : Tok) (base : Str → Option Value) : Str → Option Value := fun y =>
  if y = Str.ofString "start" then o else if y = Str.ofString "reads" then some (.str r t1) else if y = Str.ofString "writes" then some (.str w t2) else if y = Str.ofString "last" then some (.int la t3) else base y
noncomputable def RowCut (g : Heap) (L : Addr) (s : Shared) (led : Led) (base : Str → Option Value) (row : Str) (what : Int) (f : Flow) (s' : Shared) : Prop :=
  ∃ h' tk o t1 t2 t3, f = .next ∧ s' = { s with heap := h', toks := tk } ∧ Fr g L h' (rowMap o (rdOf row what) (wrOf row what) (laOf row what) t1 t2 t3 base) ∧ News g L h' led ∧ (rdOf row what).length = 1 ∧ (wrOf row what).length = 1 ∧ 0 ≤ laOf row what ∧ laOf row what ≤ 3
theorem news_drop3 {h₀ h : Heap} {L : Addr} {a b c : Addr × Obj} {r : Led} (N : News h₀ L h (a :: b :: c :: r)) : News h₀ L h (a :: b :: r) := news_sub N fun p hp => by
  rcases List.mem_cons.mp hp with rfl | hp
  · exact .head _
  · rcases List.mem_cons.mp hp with rfl | hp
    · exact .tail _ (.head _)
    · exact .tail _ (.tail _ (.tail _ hp))
theorem off_drop2 {it : Addr} {a b : Addr × Obj} {r : Led} (h : ∀ p ∈ a :: b :: r, p.1 ≠ it) : ∀ p ∈ a :: r, p.1 ≠ it := fun p hp => h p (by
  rcases List.mem_cons.mp hp with rfl | hp
  · exact .head _
  · exact .tail _ (.tail _ hp))
noncomputable abbrev LsO (o : Obj) (its : Array Value) : Prop := o.cls = .type "list" ∧ ∃ n, o.data = .seq its n
theorem list_pack {h₀ h : Heap} {L PL : Addr} {a : Addr × Obj} {r : Led} {p0 p1 p2 : Str} {a0 a1 a2 : Tok} {n : Nat} (N : News h₀ L h (a :: (PL, PySem.W.listOf #[.str p0 a0, .str p1 a1, .str p2 a2] n) :: r)) :
    ∃ oP q0 q1 q2 b0 b1 b2, LsO oP #[Value.str q0 b0, .str q1 b1, .str q2 b2] ∧ News h₀ L h (a :: (PL, oP) :: r) ∧ q0 = p0 ∧ q1 = p1 ∧ q2 = p2 :=
  ⟨_, p0, p1, p2, a0, a1, a2, ⟨rfl, n, rfl⟩, N, rfl, rfl, rfl⟩
/-- one class' three signs -/
noncomputable def partOf (whos : List Int) (rd wr : Str) (la : Int) (k : Nat) (old : Str) : Str :=
  if whos.filter (fun who => (who.fdiv ([1, 2, 4].getD k 0)).fmod 2 == 1) = [] then old else rd ++ wr ++ Txt.item (if k = 2 then Str.ofString "-xTt" else Str.ofString "-xSs") la
theorem off_four {it a b c d : Addr} {oa ob oc od : Obj} (h : ∀ p ∈ [(a, oa), (b, ob), (c, oc), (d, od)], p.1 ≠ it) : (@Ne Nat a it) ∧ (@Ne Nat b it) ∧ (@Ne Nat c it) ∧ (@Ne Nat d it) :=
  ⟨h (a, oa) (.head _), h (b, ob) (.tail _ (.head _)), h (c, oc) (.tail _ (.tail _ (.head _))), h (d, od) (.tail _ (.tail _ (.tail _ (.head _))))⟩
theorem off_key {it a b c d : Addr} {oa ob oc od : Obj} (h : ∀ p ∈ [(a, oa), (b, ob), (c, oc), (d, od)], p.1 ≠ it) : ∀ {oa' ob' : Obj}, ∀ p ∈ [(a, oa'), (b, ob'), (c, oc), (d, od)], p.1 ≠ it := fun p hp => by
  simp only [List.mem_cons, List.not_mem_nil, or_false] at hp
  rcases hp with rfl | rfl | rfl | rfl
  · exact h (a, oa) (.head _)
  · exact h (b, ob) (.tail _ (.head _))
  · exact h _ (.tail _ (.tail _ (.head _)))
  · exact h _ (.tail _ (.tail _ (.tail _ (.head _))))
theorem news_setP {h₀ h h' : Heap} {L PL : Addr} {all : Led} {oP oP' : Obj} {ab c d e : Addr × Obj} (N : News h₀ L h all) (hs : Heap.SameBut PL h h') (hP : h'.get? PL = some oP') (hm : (PL, oP) ∈ all) (ha : ab ∈ all) (hc : c ∈ all) (hd : d ∈ all) (he : e ∈ all)
    (na : @Ne Nat ab.1 PL) (nc : @Ne Nat c.1 PL) (nd : @Ne Nat d.1 PL) (ne : @Ne Nat e.1 PL) : News h₀ L h' [ab, (PL, oP'), c, d, e] := fun p hp => by
  simp only [List.mem_cons, List.not_mem_nil, or_false] at hp
  rcases hp with rfl | rfl | rfl | rfl | rfl
  · exact ⟨hs.extBut _ _ na (N _ ha).1, (N _ ha).2⟩
  · exact ⟨hP, (N _ hm).2⟩
  · exact ⟨hs.extBut _ _ nc (N _ hc).1, (N _ hc).2⟩
  · exact ⟨hs.extBut _ _ nd (N _ hd).1, (N _ hd).2⟩
  · exact ⟨hs.extBut _ _ ne (N _ he).1, (N _ he).2⟩
theorem unhold {P : Prop} (h : Hold P) : P := h
theorem row_cut {M : Model} {A : Around} {tr : Sem Flow} {Q : Flow → Shared → Prop} {E : Value → Shared → Prop} {s : Shared} {g : Heap} {L : Addr} {m : Str → Option Value} {led : Led} (row : Str) (what : Int) (_F : Fr g L s.heap m) (_N : News g L s.heap led)
    (h1 : wpAny M A tr (RowCut g L s led m row what) E s) (h2 : ∀ f s', RowCut g L s led m row what f s' → Q f s') : wpAny M A tr Q E s := wpAny_mono h1 h2 fun _ _ e => e
theorem rowMapA {r w : Str} {la : Int} {u1 u2 u3 : Tok} {v : Value} {base : Str → Option Value} : (fun y => if y = Str.ofString "last" then some (Value.int la u3) else if y = Str.ofString "writes" then some (Value.str w u2) else if y = Str.ofString "reads" then some (Value.str r u1) else if y = Str.ofString "start" then some v else base y) = rowMap (some v) r w la u1 u2 u3 base := funext fun y => by
  by_cases h1 : y = Str.ofString "start"
  · subst h1; rfl
  · by_cases h2 : y = Str.ofString "reads"
    · subst h2; rfl
    · by_cases h3 : y = Str.ofString "writes"
      · subst h3; rfl
      · by_cases h4 : y = Str.ofString "last"
        · subst h4; rfl
        · simp only [rowMap, if_neg h1, if_neg h2, if_neg h3, if_neg h4]
theorem rowMapB {r w : Str} {la : Int} {u1 u2 u3 : Tok} {base : Str → Option Value} : (fun y => if y = Str.ofString "last" then some (Value.int la u3) else if y = Str.ofString "writes" then some (Value.str w u2) else if y = Str.ofString "reads" then some (Value.str r u1) else base y) = rowMap (base (Str.ofString "start")) r w la u1 u2 u3 base := funext fun y => by
  by_cases h1 : y = Str.ofString "start"
  · subst h1; rfl
  · by_cases h2 : y = Str.ofString "reads"
    · subst h2; rfl
    · by_cases h3 : y = Str.ofString "writes"
      · subst h3; rfl
      · by_cases h4 : y = Str.ofString "last"
        · subst h4; rfl
        · simp only [rowMap, if_neg h1, if_neg h2, if_neg h3, if_neg h4]
theorem row_end {g h' : Heap} {L : Addr} {s s' : Shared} {led : Led} {base m' : Str → Option Value} {row : Str} {what : Int} {f : Flow} {r w : Str} {la : Int} {o : Option Value} {u1 u2 u3 : Tok} {tk : Nat} (e1 : rdOf row what = r) (e2 : wrOf row what = w) (e3 : laOf row what = la) (hf : f = .next) (hs : s' = { s with heap := h', toks := tk })
    (F : Fr g L h' m') (N : News g L h' led) (e : m' = rowMap o r w la u1 u2 u3 base) (hl : r.length = 1 ∧ w.length = 1 ∧ 0 ≤ la ∧ la ≤ 3) : RowCut g L s led base row what f s' :=
  ⟨h', tk, o, u1, u2, u3, hf, hs, by rw [e1, e2, e3, ← e]; exact F, N, by rw [e1]; exact hl.1, by rw [e2]; exact hl.2.1, by rw [e3]; exact hl.2.2⟩
theorem part_le {whos : List Int} {rd wr old : Str} {la : Int} {k : Nat} (h1 : rd.length = 1) (h2 : wr.length = 1) (h : old.length ≤ 10) : (partOf whos rd wr la k old).length ≤ 10 := by
  unfold partOf
  split
  · exact h
  · rw [PySem.Str.length_append, PySem.Str.length_append, h1, h2, len_item]; decide
/-- what `_law_row` answers -/
noncomputable def rowUpd (row : Str) (whos : List Int) (what : Int) : Str :=
  if whos = [] then Txt.item (Str.ofString "?pc?d?b?-?l?s???") (what.fmod 16) ++ Txt.slice row (some 1) none
  else Txt.item row 0 ++ Txt.join (Str.ofString "") [partOf whos (rdOf row what) (wrOf row what) (laOf row what) 0 (Txt.slice row (some 1) (some 4)), partOf whos (rdOf row what) (wrOf row what) (laOf row what) 1 (Txt.slice row (some 4) (some 7)), partOf whos (rdOf row what) (wrOf row what) (laOf row what) 2 (Txt.slice row (some 7) none)]
theorem ct_row {w : World} {mean : ExcName → Option Value} {mg mb : Str → Option Value} (row : Str) (t t1 t2 t3 : Tok) (x l : Addr) (vs : List Value) (n k : Nat) (whos : List Int) (what : Int) (ahead behind : Str) (hr : row.length = 10) (h0 : 0 ≤ what) (h1 : what < 19) (hv : IntsAre vs whos) (hw : ∀ w ∈ whos, 1 ≤ w ∧ w ≤ 7) (hlen : whos.length ≤ 3) :
    Con w mean mg mb 253 40 [.str row t, .ref x] [(x, { cls := .type "tuple", data := .seq #[.ref l, .int what t1, .str ahead t2, .str behind t3] k }), (l, listOf vs.toArray n)] (fun tl r => tl = [] ∧ ∃ u, r = .str (rowUpd row whos what) u) := by
  walk_at "CONC enter"
  rename Obj => oc
  rename _ = Data.cell _ => hoc
  replace F' := fr_map (m' := fun y => if y = Str.ofString "step" then some (Value.ref x) else if y = Str.ofString "row" then some (Value.str row t) else none) F' rfl
  k_steps
  · rename decide (whos = []) = true => hw0
    rename Fr h₀ L _ m => kF
    rename Fr g' L' _ _ => F1
    rename News g' L' _ _ => N1
    refine' con_fin hret kG' N kF F1 N1 (fun p hp => .tail _ (.tail _ hp)) ⟨[], List.forall_mem_nil _, fun _ _ => List.forall_mem_nil _, ⟨rfl, _, ?_⟩⟩
    rotate_left
    · rw [rowUpd, if_pos (of_decide_eq_true hw0)]
  · rename decide (whos = []) = false => hw0
    unfold Hold
    rename Fr g' L' _ _ => F1
    rename News g' L' _ _ => N1
    refine row_cut row what F1 N1 ?_ ?_
    rotate_left
    · rintro f s' ⟨h2, tk2, o2, t4, t5, t6, rfl, rfl, F2, N2, hl1, hl2, hl3, hl4⟩
      dsimp only
      generalize hrd : rdOf row what = rd at F2 hl1
      generalize hwr : wrOf row what = wr at F2 hl2
      generalize hla : laOf row what = la at F2 hl3 hl4
      k_steps
      rename Fr g' L' _ _ => F3
      rename News g' L' _ _ => N3
      rename_i PL _ lPL _
      refine wpAny_For ?_
      k_steps
      rename IsRange _ _ _ _ _ _ _ _ => hrg
      rename News g' L' _ _ => N3
      rename Fr g' L' _ _ => F3
      refine kp_riter F3 N3 hrg (by rfl) ?_
      intro it hI FI NI off
      dsimp only
      have NJ := news_drop3 NI
      have offJ := off_drop2 off
      have offK : ∀ {oP oc : Obj}, ∀ p ∈ [(PL, oP), (L' + 1, oc), (x, ({ cls := .type "tuple", data := .seq #[.ref l, .int what t1, .str ahead t2, .str behind t3] k } : Obj)), (l, PySem.W.listOf vs.toArray n)], p.1 ≠ it := off_key offJ
      obtain ⟨itf1, itf2, itf3, itf4⟩ : (@Ne Nat PL it) ∧ (@Ne Nat (L' + 1) it) ∧ (@Ne Nat x it) ∧ (@Ne Nat l it) := off_four offJ
      obtain ⟨oP, p0, p1, p2, a0, a1, a2, hP, NK, s0, s1, s2⟩ := list_pack NJ
      refine codeAny_anyTok fun tk9 => ?_
      clear NI N3 F3 NJ
      obtain ⟨f0, ef0⟩ : ∃ f0, f0 = partOf whos rd wr la 0 (Txt.slice row (some 1) (some 4)) := ⟨_, rfl⟩
      obtain ⟨f1, ef1⟩ : ∃ f1, f1 = partOf whos rd wr la 1 (Txt.slice row (some 4) (some 7)) := ⟨_, rfl⟩
      obtain ⟨f2, ef2⟩ : ∃ f2, f2 = partOf whos rd wr la 2 (Txt.slice row (some 7) none) := ⟨_, rfl⟩
      obtain ⟨jz, ej⟩ : ∃ jz : Int, jz = 0 := ⟨_, rfl⟩
      obtain ⟨left, el⟩ : ∃ left : Int, left = 3 := ⟨_, rfl⟩
      have hp0 : p0 = if 0 < jz then f0 else Txt.slice row (some 1) (some 4) := by rw [s0, ej]; rfl
      have hp1 : p1 = if 1 < jz then f1 else Txt.slice row (some 4) (some 7) := by rw [s1, ej]; rfl
      have hp2 : p2 = if 2 < jz then f2 else Txt.slice row (some 7) none := by rw [s2, ej]; rfl
      replace NK : News g' L' hI [(it, iterO jz left 1), (PL, oP), (L' + 1, oc), (x, { cls := .type "tuple", data := .seq #[.ref l, .int what t1, .str ahead t2, .str behind t3] k }), (l, PySem.W.listOf vs.toArray n)] := by rw [ej, el]; exact NK
      have hjl : left + jz = 3 ∧ 0 ≤ jz := by omega
      obtain ⟨rem, hrem⟩ : ∃ rem : Nat, (rem : Int) = left := ⟨3, el.symm⟩
      obtain ⟨oc2, v0, hoc2, eoc⟩ : ∃ (o : Obj) (v0 : Option Value), o.data = .cell v0 ∧ o = oc := ⟨_, _, hoc, rfl⟩
      rw [← eoc] at NK
      clear eoc
      clear s0 s1 s2 ej el
      induction rem generalizing hI tk9 jz left p0 p1 p2 a0 a1 a2 oP oc2 v0 with
      | zero =>
        obtain ⟨hjl1, hjl2⟩ := hjl
        obtain rfl : jz = 3 := by omega
        obtain rfl : left = 0 := by omega
        refine codeAny_forTurn ?_
        refine kp_rend FI NK rfl offK ?_
        intro h3 F3 N3
        dsimp only
        k_steps
        have hs : ∀ a b, (Txt.slice row a b).length ≤ 10 := fun a b => by have := Txt.slice_le row a b; omega
        have b0 : p0.length ≤ 10 := by rw [hp0, ef0]; exact part_le hl1 hl2 (hs _ _)
        have b1 : p1.length ≤ 10 := by rw [hp1, ef1]; exact part_le hl1 hl2 (hs _ _)
        have b2 : p2.length ≤ 10 := by rw [hp2, ef2]; exact part_le hl1 hl2 (hs _ _)
        have bj : (Txt.join (Str.ofString "") [p0, p1, p2]).length ≤ 164 := len_join_le (n := 40) (show p0.length + (p1.length + (p2.length + 0)) + 3 ≤ 41 by omega) (by decide)
        refine join_list (items := #[Value.str p0 a0, .str p1 a1, .str p2 a2]) ⟨oP, (N3 (PL, oP) (.head _)).1, hP⟩ (ys := [p0, p1, p2]) (.cons _ _ (.cons _ _ (.cons _ _ .nil))) (join_few (fun y hy => ?_) (show 3 ≤ 30 by decide) (by decide)) ?_
        · simp only [List.mem_cons, List.not_mem_nil, or_false] at hy
          rcases hy with rfl | rfl | rfl <;> omega
        intro t' k'
        k_steps
        rename Fr h₀ L _ m => kF
        rename Fr g' L' _ _ => F4
        rename News g' L' _ _ => N4
        refine' con_fin hret kG' N kF F4 N4 (fun p hp => .tail _ (.tail _ hp)) ⟨[], List.forall_mem_nil _, fun _ _ => List.forall_mem_nil _, ⟨rfl, _, ?_⟩⟩
        rotate_left
        · rw [rowUpd, if_neg (of_decide_eq_false hw0), hrd, hwr, hla, ← ef0, ← ef1, ← ef2, hp0, hp1, hp2]; rfl
      | succ rem ih =>
        refine codeAny_forTurn ?_
        refine' kp_rnext FI NK ?hl offK ?_
        case hl => omega
        intro h12 F12 N12
        dsimp only
        refine wpAny_of_eq (a := ()) rfl ?_
        obtain ⟨hjl, hj0⟩ := hjl
        have hj : jz = 0 ∨ jz = 1 ∨ jz = 2 := by omega
        have hpk : Hold ((p0 = if 0 < jz then f0 else Txt.slice row (some 1) (some 4)) ∧ (p1 = if 1 < jz then f1 else Txt.slice row (some 4) (some 7)) ∧ (p2 = if 2 < jz then f2 else Txt.slice row (some 7) none) ∧ left + jz = 3 ∧ ((rem + 1 : Nat) : Int) = left) := ⟨hp0, hp1, hp2, hjl, hrem⟩
        have ih' : Hold _ := ih
        clear hp0 hp1 hp2 hjl hrem hj0 ih
        rcases hj with rfl | rfl | rfl
        · k_steps
          rename Fr g' L' _ _ => F13
          rename News g' L' _ _ => N13
          try simp only [List.cons_append, List.nil_append] at N13
          unfold Hold
          refine wpAny_If (wpAny_isTrue_Compare1 ?_)
          k_steps
          unfold Hold
          refine LCt.CompSrcT.ledger (its := vs.toArray) rfl F13 N13 (by k_mem) (by rw [List.size_toArray, hv.length]; exact Nat.le_trans hlen (Nat.le_of_ble_eq_true rfl)) ?_
          intro gg
          refine kif_list (fun who => (who.fdiv 1).fmod 2 == 1) hv ?_ ?_
          · intro kk tt I3 oI3 C3 oC3 D3 m3 ys3 h3 tk3 E3 hk0 hC3 hx3 F4 N4 off4 ne4
            have off5 := off4
            simp only [LCg.Off3, and_true] at off4
            obtain ⟨b1, b2⟩ := hw kk hk0
            k_steps
            · rename (kk.fdiv 1).fmod 2 = 1 => hq
              rename News g' L' _ _ => N5
              rename Fr g' L' _ _ => F5
              unfold Hold
              exact LCg.CompEnd.intro F5 N5 _ (fun p hp => .tail _ hp) off5 (.inr ⟨_, by k_mem, rfl, _, rfl⟩) ⟨rfl, by simp only [hq]; rfl, _, rfl⟩
            · rename (kk.fdiv 1).fmod 2 ≠ 1 => hq
              rename News g' L' _ _ => N5
              rename Fr g' L' _ _ => F5
              unfold Hold
              exact LCg.CompEnd.intro F5 N5 _ (fun p hp => .tail _ hp) off5 (.inr ⟨_, by k_mem, rfl, _, rfl⟩) ⟨rfl, beq_eq_false_iff_ne.mpr hq⟩
          · intro ys3 hy3
            k_steps
            · rename decide _ = true => hq
              have hq' := of_decide_eq_true hq
              rename News g' L' _ _ => N15
              rename Fr g' L' _ _ => F15
              show codeAny _ _ _ _ _
              obtain ⟨hp0, hp1, hp2, hjl, hrem⟩ := unhold hpk
              have ih := unhold ih'
              have eJ : f0 = Txt.slice row (some 1) (some 4) := by rw [ef0, partOf]; exact if_pos hq'
              exact ih _ F15 oP p0 p1 p2 a0 a1 a2 hP _ 1 (left - 1) (by rw [hp0]; exact eJ.symm) (by rw [hp1]; rfl) (by rw [hp2]; rfl) ⟨by omega, by decide⟩ (by omega) _ (news_sub N15 fun p hp => .tail _ (.tail _ hp)) _ (by assumption)
            · rename decide _ = false => hq
              have hq' := of_decide_eq_false hq
              rename News g' L' _ _ => N15
              rename Fr g' L' _ _ => F15
              obtain ⟨hp0, hp1, hp2, hjl, hrem⟩ := unhold hpk
              have ih := unhold ih'
              have eJ : f0 = rd ++ wr ++ Txt.item (Str.ofString "-xSs") la := by rw [ef0, partOf]; exact if_neg hq'
              refine wpAny_setItem_list (items := #[Value.str p0 a0, .str p1 a1, .str p2 a2]) ⟨oP, (N15 (PL, oP) (by k_mem)).1, hP⟩ (by decide) (by decide) (by show _ < (3 : Int); decide) fun h16 hl16 hs16 => ?_
              obtain ⟨oP', e1, e2⟩ := hl16
              have F16 := F15.change hs16 (N15 (PL, oP) (by k_mem)).2.1 (N15 (PL, oP) (by k_mem)).2.2
              have N16 := news_setP (all := _) N15 hs16 e1 (by k_mem) (ab := (it, _)) (c := (L' + 1, _)) (d := (x, _)) (e := (l, _)) (by k_mem) (by k_mem) (by k_mem) (by k_mem) (Ne.symm (offJ (PL, _) (.head _))) (by show @Ne Nat _ _; dsimp only; omega) (by show @Ne Nat _ _; dsimp only; omega) (by show @Ne Nat _ _; dsimp only; omega)
              refine wpAny_execs_nil (wpAny_execs_nil ?_)
              dsimp only
              show codeAny _ _ _ _ _
              exact ih _ F16 oP' (rd ++ wr ++ Txt.item (Str.ofString "-xSs") la) p1 p2 _ a1 a2 ⟨e2.1, e2.2⟩ _ 1 (left - 1) eJ.symm (by rw [hp1]; rfl) (by rw [hp2]; rfl) ⟨by omega, by decide⟩ (by omega) _ N16 _ (by assumption)
        · k_steps
          rename Fr g' L' _ _ => F13
          rename News g' L' _ _ => N13
          try simp only [List.cons_append, List.nil_append] at N13
          unfold Hold
          refine wpAny_If (wpAny_isTrue_Compare1 ?_)
          k_steps
          unfold Hold
          refine LCt.CompSrcT.ledger (its := vs.toArray) rfl F13 N13 (by k_mem) (by rw [List.size_toArray, hv.length]; exact Nat.le_trans hlen (Nat.le_of_ble_eq_true rfl)) ?_
          intro gg
          refine kif_list (fun who => (who.fdiv 2).fmod 2 == 1) hv ?_ ?_
          · intro kk tt I3 oI3 C3 oC3 D3 m3 ys3 h3 tk3 E3 hk0 hC3 hx3 F4 N4 off4 ne4
            have off5 := off4
            simp only [LCg.Off3, and_true] at off4
            obtain ⟨b1, b2⟩ := hw kk hk0
            k_steps
            · rename (kk.fdiv 2).fmod 2 = 1 => hq
              rename News g' L' _ _ => N5
              rename Fr g' L' _ _ => F5
              unfold Hold
              exact LCg.CompEnd.intro F5 N5 _ (fun p hp => .tail _ hp) off5 (.inr ⟨_, by k_mem, rfl, _, rfl⟩) ⟨rfl, by simp only [hq]; rfl, _, rfl⟩
            · rename (kk.fdiv 2).fmod 2 ≠ 1 => hq
              rename News g' L' _ _ => N5
              rename Fr g' L' _ _ => F5
              unfold Hold
              exact LCg.CompEnd.intro F5 N5 _ (fun p hp => .tail _ hp) off5 (.inr ⟨_, by k_mem, rfl, _, rfl⟩) ⟨rfl, beq_eq_false_iff_ne.mpr hq⟩
          · intro ys3 hy3
            k_steps
            · rename decide _ = true => hq
              have hq' := of_decide_eq_true hq
              rename News g' L' _ _ => N15
              rename Fr g' L' _ _ => F15
              show codeAny _ _ _ _ _
              obtain ⟨hp0, hp1, hp2, hjl, hrem⟩ := unhold hpk
              have ih := unhold ih'
              have eJ : f1 = Txt.slice row (some 4) (some 7) := by rw [ef1, partOf]; exact if_pos hq'
              exact ih _ F15 oP p0 p1 p2 a0 a1 a2 hP _ 2 (left - 1) (by rw [hp0]; rfl) (by rw [hp1]; exact eJ.symm) (by rw [hp2]; rfl) ⟨by omega, by decide⟩ (by omega) _ (news_sub N15 fun p hp => .tail _ (.tail _ hp)) _ (by assumption)
            · rename decide _ = false => hq
              have hq' := of_decide_eq_false hq
              rename News g' L' _ _ => N15
              rename Fr g' L' _ _ => F15
              obtain ⟨hp0, hp1, hp2, hjl, hrem⟩ := unhold hpk
              have ih := unhold ih'
              have eJ : f1 = rd ++ wr ++ Txt.item (Str.ofString "-xSs") la := by rw [ef1, partOf]; exact if_neg hq'
              refine wpAny_setItem_list (items := #[Value.str p0 a0, .str p1 a1, .str p2 a2]) ⟨oP, (N15 (PL, oP) (by k_mem)).1, hP⟩ (by decide) (by decide) (by show _ < (3 : Int); decide) fun h16 hl16 hs16 => ?_
              obtain ⟨oP', e1, e2⟩ := hl16
              have F16 := F15.change hs16 (N15 (PL, oP) (by k_mem)).2.1 (N15 (PL, oP) (by k_mem)).2.2
              have N16 := news_setP (all := _) N15 hs16 e1 (by k_mem) (ab := (it, _)) (c := (L' + 1, _)) (d := (x, _)) (e := (l, _)) (by k_mem) (by k_mem) (by k_mem) (by k_mem) (Ne.symm (offJ (PL, _) (.head _))) (by show @Ne Nat _ _; dsimp only; omega) (by show @Ne Nat _ _; dsimp only; omega) (by show @Ne Nat _ _; dsimp only; omega)
              refine wpAny_execs_nil (wpAny_execs_nil ?_)
              dsimp only
              show codeAny _ _ _ _ _
              exact ih _ F16 oP' p0 (rd ++ wr ++ Txt.item (Str.ofString "-xSs") la) p2 a0 _ a2 ⟨e2.1, e2.2⟩ _ 2 (left - 1) (by rw [hp0]; rfl) eJ.symm (by rw [hp2]; rfl) ⟨by omega, by decide⟩ (by omega) _ N16 _ (by assumption)
        · k_steps
          rename Fr g' L' _ _ => F13
          rename News g' L' _ _ => N13
          try simp only [List.cons_append, List.nil_append] at N13
          unfold Hold
          refine wpAny_If (wpAny_isTrue_Compare1 ?_)
          k_steps
          unfold Hold
          refine LCt.CompSrcT.ledger (its := vs.toArray) rfl F13 N13 (by k_mem) (by rw [List.size_toArray, hv.length]; exact Nat.le_trans hlen (Nat.le_of_ble_eq_true rfl)) ?_
          intro gg
          refine kif_list (fun who => (who.fdiv 4).fmod 2 == 1) hv ?_ ?_
          · intro kk tt I3 oI3 C3 oC3 D3 m3 ys3 h3 tk3 E3 hk0 hC3 hx3 F4 N4 off4 ne4
            have off5 := off4
            simp only [LCg.Off3, and_true] at off4
            obtain ⟨b1, b2⟩ := hw kk hk0
            k_steps
            · rename (kk.fdiv 4).fmod 2 = 1 => hq
              rename News g' L' _ _ => N5
              rename Fr g' L' _ _ => F5
              unfold Hold
              exact LCg.CompEnd.intro F5 N5 _ (fun p hp => .tail _ hp) off5 (.inr ⟨_, by k_mem, rfl, _, rfl⟩) ⟨rfl, by simp only [hq]; rfl, _, rfl⟩
            · rename (kk.fdiv 4).fmod 2 ≠ 1 => hq
              rename News g' L' _ _ => N5
              rename Fr g' L' _ _ => F5
              unfold Hold
              exact LCg.CompEnd.intro F5 N5 _ (fun p hp => .tail _ hp) off5 (.inr ⟨_, by k_mem, rfl, _, rfl⟩) ⟨rfl, beq_eq_false_iff_ne.mpr hq⟩
          · intro ys3 hy3
            k_steps
            · rename decide _ = true => hq
              have hq' := of_decide_eq_true hq
              rename News g' L' _ _ => N15
              rename Fr g' L' _ _ => F15
              show codeAny _ _ _ _ _
              obtain ⟨hp0, hp1, hp2, hjl, hrem⟩ := unhold hpk
              have ih := unhold ih'
              have eJ : f2 = Txt.slice row (some 7) none := by rw [ef2, partOf]; exact if_pos hq'
              exact ih _ F15 oP p0 p1 p2 a0 a1 a2 hP _ 3 (left - 1) (by rw [hp0]; rfl) (by rw [hp1]; rfl) (by rw [hp2]; exact eJ.symm) ⟨by omega, by decide⟩ (by omega) _ (news_sub N15 fun p hp => .tail _ (.tail _ hp)) _ (by assumption)
            · rename decide _ = false => hq
              have hq' := of_decide_eq_false hq
              rename News g' L' _ _ => N15
              rename Fr g' L' _ _ => F15
              obtain ⟨hp0, hp1, hp2, hjl, hrem⟩ := unhold hpk
              have ih := unhold ih'
              have eJ : f2 = rd ++ wr ++ Txt.item (Str.ofString "-xTt") la := by rw [ef2, partOf]; exact if_neg hq'
              refine wpAny_setItem_list (items := #[Value.str p0 a0, .str p1 a1, .str p2 a2]) ⟨oP, (N15 (PL, oP) (by k_mem)).1, hP⟩ (by decide) (by decide) (by show _ < (3 : Int); decide) fun h16 hl16 hs16 => ?_
              obtain ⟨oP', e1, e2⟩ := hl16
              have F16 := F15.change hs16 (N15 (PL, oP) (by k_mem)).2.1 (N15 (PL, oP) (by k_mem)).2.2
              have N16 := news_setP (all := _) N15 hs16 e1 (by k_mem) (ab := (it, _)) (c := (L' + 1, _)) (d := (x, _)) (e := (l, _)) (by k_mem) (by k_mem) (by k_mem) (by k_mem) (Ne.symm (offJ (PL, _) (.head _))) (by show @Ne Nat _ _; dsimp only; omega) (by show @Ne Nat _ _; dsimp only; omega) (by show @Ne Nat _ _; dsimp only; omega)
              refine wpAny_execs_nil (wpAny_execs_nil ?_)
              dsimp only
              show codeAny _ _ _ _ _
              exact ih _ F16 oP' p0 p1 (rd ++ wr ++ Txt.item (Str.ofString "-xTt") la) a0 a1 _ ⟨e2.1, e2.2⟩ _ 3 (left - 1) (by rw [hp0]; rfl) (by rw [hp1]; rfl) eJ.symm ⟨by omega, by decide⟩ (by omega) _ N16 _ (by assumption)
    refine wpAny_If ?_
    k_steps
    · rename 15 < what => hq
      rename _ = true => hi
      rename Fr g' L' _ _ => F2
      dsimp only at F2
      rename News g' L' _ _ => N2
      have e1 : rdOf row what = Txt.item row (3 * (what - 16) + 1) := if_pos hq
      have e2 : wrOf row what = Txt.item row (3 * (what - 16) + 1 + 1) := if_pos hq
      have e3 : laOf row what = 0 := by rw [laOf, if_pos hq]; exact if_pos hi
      exact row_end e1 e2 e3 rfl rfl F2 N2 rowMapA ⟨by omega, by omega, by decide, by decide⟩
    · rename 15 < what => hq
      rename _ = false => hi
      rename Fr g' L' _ _ => F2
      dsimp only at F2
      rename News g' L' _ _ => N2
      have e1 : rdOf row what = Txt.item row (3 * (what - 16) + 1) := if_pos hq
      have e2 : wrOf row what = Txt.item row (3 * (what - 16) + 1 + 1) := if_pos hq
      have e3 : laOf row what = 1 := by rw [laOf, if_pos hq]; exact if_neg (by rw [hi]; decide)
      exact row_end e1 e2 e3 rfl rfl F2 N2 rowMapA ⟨by omega, by omega, by decide, by decide⟩
    all_goals
      rename ¬ 15 < what => hq
      rename Fr g' L' _ _ => F2
      dsimp only at F2
      rename News g' L' _ _ => N2
      have e3 : laOf row what = what.fdiv 4 := if_neg hq
      have hla : 0 ≤ what.fdiv 4 ∧ what.fdiv 4 ≤ 3 := by rw [Int.fdiv_eq_ediv_of_nonneg _ (by decide)]; omega
    · rename what.fmod 2 = 1 => q1
      rename (what.fdiv 2).fmod 2 = 1 => q2
      exact row_end (by rw [rdOf, if_neg hq, if_pos q1]) (by rw [wrOf, if_neg hq, if_pos q2]) e3 rfl rfl F2 N2 rowMapB ⟨by decide, by decide, hla⟩
    · rename what.fmod 2 = 1 => q1
      rename (what.fdiv 2).fmod 2 ≠ 1 => q2
      exact row_end (by rw [rdOf, if_neg hq, if_pos q1]) (by rw [wrOf, if_neg hq, if_neg q2]) e3 rfl rfl F2 N2 rowMapB ⟨by decide, by decide, hla⟩
    · rename what.fmod 2 ≠ 1 => q1
      rename (what.fdiv 2).fmod 2 = 1 => q2
      exact row_end (by rw [rdOf, if_neg hq, if_neg q1]) (by rw [wrOf, if_neg hq, if_pos q2]) e3 rfl rfl F2 N2 rowMapB ⟨by decide, by decide, hla⟩
    · rename what.fmod 2 ≠ 1 => q1
      rename (what.fdiv 2).fmod 2 ≠ 1 => q2
      exact row_end (by rw [rdOf, if_neg hq, if_neg q1]) (by rw [wrOf, if_neg hq, if_neg q2]) e3 rfl rfl F2 N2 rowMapB ⟨by decide, by decide, hla⟩
end Mine
end
section
open PySem PySem.W PySem.Calls PyProof.Rows
set_option Elab.async false
set_option maxRecDepth 100000
set_option maxHeartbeats 800000
namespace Mine
section
variable {prog : Program} {w : World} {A : Around} {E : Value → Shared → Prop} {s : Shared} {h₀ : Heap} {L : Addr} {m : Str → Option Value} {env : Env} {elt iter : Expr} {x : Str} {scope : Scope} {cl : List (Str × Addr)}
/-- a text that a comprehension goes over -/
noncomputable def StrSrc (prog : Program) (w : World) (A : Around) (h₀ : Heap) (L : Addr) (m : Str → Option Value) (env : Env) (elt : Expr) (x : Str) (scope : Scope) (cl : List (Str × Addr)) (Fin : Shared → List Value → Led → Prop) (xv : Value) (s₁ : Shared) : Prop :=
  ∃ y t news, xv = .str y t ∧ A.handled = none ∧ Fr h₀ L s₁.heap m ∧ News h₀ L s₁.heap news ∧ y.cps.all (· < 128) = true ∧ y.cps.size ≤ sizeLine ∧
    ∀ s₂ : Shared, (∃ h, s₂ = { s₁ with heap := h }) → LCg.CompRest prog w A h₀ L m env elt x scope cl s₂ (fun _ => True) (SignAt y) (Fin s₂) y.cps.size 0 [] news
theorem listComp_str {px pos : Pos} {Q : Value → Shared → Prop}
    (hclos : closureFor scope env = pure cl) (hcell : ∀ y ∈ scope.names, y.2 ≠ .cell) (hkind : scope.kind = .function)
    (hnames : ∀ y ∈ scope.names, y.2 = .local → scope.names.lookup y.1 = some .local) (hx : scope.names.lookup x = some .local)
    (h : wpAny (model prog w) A (eval iter env) (StrSrc prog w A h₀ L m env elt x scope cl (fun s₂ => LCg.FinE h₀ L m s₂ Q)) E s)
    (hs : ∀ x, foldedSetIterable iter env x = pure x := by intro _; rfl) :
    wpAny (model prog w) A (eval (.ListComp elt [⟨.Name x px, iter, [], 0⟩] scope pos) env) Q E s := by
  rw [eval_ListComp]
  refine wpAny_comprehension_free (use := none) rfl hs hclos hkind hnames (wpAny_mono h (fun xv s₁ h₁ => ?_) fun _ _ e => e)
  obtain ⟨y, t, news, rfl, hh, F, N, ha, hsz, R⟩ := h₁
  refine wpAny_pyIter_ascii ha ?_
  refine LCg.block_U (Walks.strAscii hh s₁.heap.objs.size y t) hsz (fun i h st => let ⟨o, ho, _⟩ := st; ⟨o, ho⟩) (fun i h h' o nw st e e' _ _ _ => ?_) hcell hkind hx ⟨_, Heap.get?_push_size _ rfl, rfl, rfl⟩ (fun b hb => ?_)
    (F.keeps fun _ _ e => Heap.get?_push_of_some _ e) (N.grown fun _ _ e => Heap.get?_push_of_some _ e) (Nat.ne_of_lt F.ns.lt) (next_is_new F) (fun p hp => Nat.ne_of_lt (Heap.lt_size (N p hp).1)) trivial (R _ ⟨_, rfl⟩) ?_
  · obtain ⟨o', ho', r⟩ := st
    rw [e] at ho'; cases ho'
    exact ⟨_, e', r⟩
  · rw [List.mem_singleton.mp hb]
    show s₁.heap.objs.size < (s₁.heap.push _).objs.size
    rw [Heap.size_push]; exact Nat.lt_succ_self _
  · intro D C h tk m' ys news' F' N' o1 hn hC₀ hD₀ hCL hDL hCD offC fin
    refine ⟨m', hn, fun h'' hs'' => fin D h'' tk (F'.change hs'' hCL hC₀) (fun p hp => ⟨hs''.extBut _ _ ?_ (N' p hp).1, (N' p hp).2⟩) o1⟩
    rcases List.mem_cons.mp hp with rfl | hp
    · exact Ne.symm hCD
    · exact offC p hp
/-- .. each sign an int -/
theorem kti_str {y : Str} {s₁ : Shared} {S : Led → Prop} {Fin : List Value → Led → Prop} {news : Led} (g : Nat → Int)
    (turn : ∀ c t I oI C oC D m₂ ys h tk (E' : Value → Shared → Prop), c ∈ y.cps.toList → LCg.NsObj oC m₂ → m₂ x = some (.str ⟨#[c]⟩ t) → Fr h₀ L h m → News h₀ L h ((I, oI) :: (C, oC) :: (D, LCg.lst ys) :: news) → LCg.Off3 I C D news → ((@Ne Nat I C) ∧ (@Ne Nat I D) ∧ (@Ne Nat C D)) →
      wpAny (model prog w) A (eval elt (compEnvC scope cl C env)) (LCg.CompEnd h₀ L m { s₁ with heap := h, toks := tk } I oI C oC D (LCg.lst ys) S (fun y news' => news' = news ∧ ∃ t, y = .int (g c) t)) E' { s₁ with heap := h, toks := tk })
    (fin : ∀ ys, IntsAre ys (y.cps.toList.map g) → Fin ys news) : LCg.CompRest prog w A h₀ L m env elt x scope cl s₁ S (SignAt y) Fin y.cps.size 0 [] news := by
  suffices key : ∀ (j i : Nat) (ys : List Value), i + j = y.cps.size → IntsAre ys ((y.cps.toList.take i).map g) → LCg.CompRest prog w A h₀ L m env elt x scope cl s₁ S (SignAt y) Fin j i ys news from
    key _ 0 [] (Nat.zero_add _) .nil
  intro j
  induction j with
  | zero =>
    intro i ys hij hy
    rw [show i = y.cps.toList.length by rw [Array.length_toList]; omega, List.take_length] at hy
    exact LCg.CompRest.zero (fin ys hy)
  | succ j ih =>
    intro i ys hij hy
    refine LCg.CompRest.succ fun v I oI C oC D m₂ h tk E' hv hC hx F N off ne => ?_
    obtain ⟨c, t, hc, rfl⟩ := hv
    have hc' : y.cps.toList[i]? = some c := by simpa using hc
    refine wpAny_mono (turn c t I oI C oC D m₂ ys h tk E' (List.mem_of_getElem? hc') hC hx F N off ne) (fun y s₂ hr => ?_) fun _ _ e => e
    obtain ⟨h', tk', nw, e, F', N', off', hS, rfl, u, rfl⟩ := hr
    refine ⟨h', tk', nw, e, F', N', off', hS, ih (i + 1) _ (by omega) ?_⟩
    rw [List.take_add_one, hc', List.map_append]
    exact IntsAre.append hy (.cons _ u .nil)
end
noncomputable abbrev SIt (o : Obj) (y : Str) (t : Tok) (i : Nat) : Prop := o.cls = .type "str_ascii_iterator" ∧ o.data = .fields #[.str y t, .int i 0]
section
variable {prog : Program} {w : World} {A : Around} {E : Value → Shared → Prop} {s : Shared} {h₀ : Heap} {L : Addr} {m : Str → Option Value} {news rest : Led}
theorem kp_siter {y : Str} {t : Tok} {Q : Value → Shared → Prop} (F : Fr h₀ L s.heap m) (N : News h₀ L s.heap news) (ha : y.cps.all (· < 128) = true)
    (k : ∀ it h' oi, SIt oi y t 0 → Fr h₀ L h' m → News h₀ L h' ((it, oi) :: news) → (∀ p ∈ news, p.1 ≠ it) → Q (.ref it) { s with heap := h' }) : wpAny (model prog w) A (pyIter (.str y t)) Q E s :=
  wpAny_pyIter_ascii ha (k _ _ _ ⟨rfl, rfl⟩ (F.push _) (N.push F _) fun p hp => Nat.ne_of_lt (Heap.lt_size (N p hp).1))
theorem kp_snext {oi : Obj} {it : Addr} {y : Str} {t : Tok} {i c : Nat} {Q : Option Value → Shared → Prop} (F : Fr h₀ L s.heap m) (N : News h₀ L s.heap ((it, oi) :: rest)) (ho : SIt oi y t i) (hx : y.cps.toList[i]? = some c)
    (off : ∀ p ∈ rest, p.1 ≠ it)
    (k : ∀ h' oi' u, SIt oi' y t (i + 1) → Fr h₀ L h' m → News h₀ L h' ((it, oi') :: rest) → Q (some (.str ⟨#[c]⟩ u)) { s with heap := h', toks := s.toks + 1 }) : wpAny (model prog w) A (pyNext (.ref it)) Q E s := by
  obtain ⟨ni, niL, ni0⟩ := N _ (.head _)
  dsimp only at ni niL ni0
  refine wpAny_pyNext_ascii_item (c := c) ⟨_, ni, ho⟩ (by simpa using hx) fun h' hit hs => ?_
  obtain ⟨oi', h1, h2⟩ := hit
  refine k h' oi' _ h2 (F.change hs niL ni0) fun p hp => ?_
  rcases List.mem_cons.mp hp with rfl | hp
  · exact ⟨h1, niL, ni0⟩
  · have z := N p (.tail _ hp)
    exact ⟨hs.extBut _ _ (off p hp) z.1, z.2⟩
theorem kp_send {oi : Obj} {it : Addr} {y : Str} {t : Tok} {Q : Option Value → Shared → Prop} (F : Fr h₀ L s.heap m) (N : News h₀ L s.heap ((it, oi) :: rest)) (ho : SIt oi y t y.cps.toList.length) (hh : A.handled = none)
    (off : ∀ p ∈ rest, p.1 ≠ it)
    (k : ∀ h', Fr h₀ L h' m → News h₀ L h' rest → Q none { s with heap := h' }) : wpAny (model prog w) A (pyNext (.ref it)) Q E s := by
  obtain ⟨ni, niL, ni0⟩ := N _ (.head _)
  dsimp only at ni niL ni0
  refine wpAny_pyNext_ascii_end hh ⟨_, ni, ho⟩ (by simp) fun h' hk => k h' ⟨F.ns.at' fun o q => hk _ _ (Ne.symm niL) q, fun b o q => hk _ _ (fun z => by rw [z, ni0] at q; cases q) (F.keep _ _ q), F.above⟩ fun p hp => ?_
  have z := N p (.tail _ hp)
  exact ⟨hk _ _ (off p hp) z.1, z.2⟩
end
end Mine
end
section
section
theorem Mine.anew_BT : (0 : Nat) = 0 := by w_top off; walk1
end
open PySem PySem.W PyProof.Rows
set_option Elab.async false
set_option maxRecDepth 100000
set_option maxHeartbeats 8000000
namespace Mine
local macro_rules | `(tactic| walk_at "eval ListComp") => `(tactic| (k_here; refine Mine.hold_of ?_))
local macro_rules | `(tactic| walk_at "CompEnd") => `(tactic| (refine Mine.hold_of ?_))
noncomputable def bitVal (c : Nat) : Int := if c = 114 then 4 else if c = 119 then 2 else if c = 120 then 1 else 8
noncomputable def bitsOf (word : Str) (x : Int) : Int :=
  if word = Str.ofString "u" then (Builtin.bitAnd x 448).fdiv 64 else if word = Str.ofString "g" then (Builtin.bitAnd x 56).fdiv 8 else if word = Str.ofString "o" then (Builtin.bitAnd x 7).fdiv 1
  else (word.cps.toList.map bitVal).sum
theorem ct_bits {w : World} {mean : ExcName → Option Value} {mg mb : Str → Option Value} (word : Str) (x : Int) (t u : Tok) (h0 : 0 ≤ x) (h1 : x < 65536) (hw : word = Str.ofString "u" ∨ word = Str.ofString "g" ∨ word = Str.ofString "o" ∨ ∀ c ∈ word.cps.toList, c = 114 ∨ c = 119 ∨ c = 120 ∨ c = 115) (hlen : word.cps.size ≤ 4) :
    Con w mean mg mb 241 40 [.str word t, .int x u] [] (fun tl r => tl = [] ∧ ∃ v, r = .int (bitsOf word x) v) := by
  walk_at "CON enter"
  replace F' : Fr g' L' h' (fun y => List.lookup y [(Str.ofString "mode", Value.int x u), (Str.ofString "word", Value.str word t)]) := F'
  k_steps
  · rename (word == Str.ofString "u") = true => hq0
    have hq : word = Str.ofString "u" := by simpa using hq0
    refine' con_fin hret kG' N (by assumption) (by assumption) (by assumption) (List.forall_mem_nil _) ⟨[], List.forall_mem_nil _, List.forall_mem_nil _, ⟨rfl, _, ?_⟩⟩
    rotate_left
    · rw [bitsOf, if_pos hq]
  · rename (word == Str.ofString "g") = true => hq0
    have hq : word = Str.ofString "g" := by simpa using hq0
    rename (word == Str.ofString "u") = false => hq10
    have hq1 : ¬ word = Str.ofString "u" := by simpa using hq10
    refine' con_fin hret kG' N (by assumption) (by assumption) (by assumption) (List.forall_mem_nil _) ⟨[], List.forall_mem_nil _, List.forall_mem_nil _, ⟨rfl, _, ?_⟩⟩
    rotate_left
    · rw [bitsOf, if_neg hq1, if_pos hq]
  · rename (word == Str.ofString "o") = true => hq0
    have hq : word = Str.ofString "o" := by simpa using hq0
    rename (word == Str.ofString "u") = false => hq10
    have hq1 : ¬ word = Str.ofString "u" := by simpa using hq10
    rename (word == Str.ofString "g") = false => hq20
    have hq2 : ¬ word = Str.ofString "g" := by simpa using hq20
    refine' con_fin hret kG' N (by assumption) (by assumption) (by assumption) (List.forall_mem_nil _) ⟨[], List.forall_mem_nil _, List.forall_mem_nil _, ⟨rfl, _, ?_⟩⟩
    rotate_left
    · rw [bitsOf, if_neg hq1, if_neg hq2, if_pos hq]
  · rename (word == Str.ofString "u") = false => hq10
    have hq1 : ¬ word = Str.ofString "u" := by simpa using hq10
    rename (word == Str.ofString "g") = false => hq20
    have hq2 : ¬ word = Str.ofString "g" := by simpa using hq20
    rename (word == Str.ofString "o") = false => hq30
    have hq3 : ¬ word = Str.ofString "o" := by simpa using hq30
    have hc : ∀ c ∈ word.cps.toList, c = 114 ∨ c = 119 ∨ c = 120 ∨ c = 115 := hw.elim (absurd · hq1) fun z => z.elim (absurd · hq2) fun z => z.elim (absurd · hq3) id
    rename Fr g' L' _ _ => F1
    rename News g' L' _ _ => N1
    unfold Hold
    refine listComp_str (h₀ := g') (L := L') (m := fun y => List.lookup y [(Str.ofString "mode", Value.int x u), (Str.ofString "word", Value.str word t)]) (by with_unfolding_all rfl) (by decide) rfl (by decide) rfl ?_
    k_steps
    refine ⟨word, t, [], rfl, rfl, F1, News.nil, ?_, ?_, ?_⟩
    · refine Array.all_eq_true.mpr fun i hi => ?_
      have := hc _ (Array.getElem_mem_toList hi)
      simp only [decide_eq_true_eq]
      omega
    · exact Nat.le_trans hlen (Nat.le_of_ble_eq_true rfl)
    rintro _ ⟨gg, rfl⟩
    refine kti_str bitVal ?_ ?_
    · intro c tt I3 oI3 C3 oC3 D3 m3 ys3 h3 tk3 E3 hk0 hC3 hx3 F4 N4 off4 ne4
      have off5 := off4
      simp only [LCg.Off3, and_true] at off4
      rcases hc c hk0 with rfl | rfl | rfl | rfl
      all_goals
        k_steps
        rename News g' L' _ _ => N5
        rename Fr g' L' _ _ => F5
        unfold Hold
        exact LCg.CompEnd.intro F5 N5 [] (by kcf_all) trivial trivial ⟨rfl, _, rfl⟩
    · intro ys3 hy3
      k_steps
      refine' con_fin hret kG' N (by assumption) (by assumption) (by assumption) (List.forall_mem_nil _) ⟨[], List.forall_mem_nil _, List.forall_mem_nil _, ⟨rfl, _, ?_⟩⟩
      rotate_left
      · rw [bitsOf, if_neg hq1, if_neg hq2, if_neg hq3]
end Mine
end
section
section
theorem Mine.anew_FI : (0 : Nat) = 0 := by w_top off; walk1
end
open PySem PySem.W PyProof.Rows
set_option Elab.async false
set_option maxRecDepth 100000
set_option maxHeartbeats 8000000
namespace Mine
theorem ct_ifmt {w : World} {mean : ExcName → Option Value} {mg mb : Str → Option Value} (x : Int) (t : Tok) (h0 : 0 ≤ x) (h1 : x < 65536) :
    Con w mean mg mb 35 3 [.int x t] [] (fun tl r => tl = [] ∧ ∃ u, r = .int (Builtin.bitAnd x 61440) u) := by
  walk_at "CON enter"
  replace F' : Fr g' L' h' (fun y => List.lookup y [(Str.ofString "mode", Value.int x t)]) := F'
  k_steps
  refine' con_fin hret kG' N (by assumption) (by assumption) (by assumption) (List.forall_mem_nil _) ⟨[], List.forall_mem_nil _, List.forall_mem_nil _, ⟨rfl, _, rfl⟩⟩
theorem ct_imode {w : World} {mean : ExcName → Option Value} {mg mb : Str → Option Value} (x : Int) (t : Tok) (h0 : 0 ≤ x) (h1 : x < 65536) :
    Con w mean mg mb 28 3 [.int x t] [] (fun tl r => tl = [] ∧ ∃ u, r = .int (Builtin.bitAnd x 4095) u) := by
  walk_at "CON enter"
  replace F' : Fr g' L' h' (fun y => List.lookup y [(Str.ofString "mode", Value.int x t)]) := F'
  k_steps
  refine' con_fin hret kG' N (by assumption) (by assumption) (by assumption) (List.forall_mem_nil _) ⟨[], List.forall_mem_nil _, List.forall_mem_nil _, ⟨rfl, _, rfl⟩⟩
end Mine
end
section
open PySem PySem.W PyProof.Rows
set_option Elab.async false
namespace Mine
/-! Masks of a mode of sixteen bits. -/
theorem and_cat (n a o a' o' : Nat) (ho : o < 2 ^ n) (ho' : o' < 2 ^ n) : (a * 2 ^ n + o) &&& (a' * 2 ^ n + o') = (a &&& a') * 2 ^ n + (o &&& o') := by
  have d : ∀ p q : Nat, q < 2 ^ n → (p * 2 ^ n + q) / 2 ^ n = p ∧ (p * 2 ^ n + q) % 2 ^ n = q := fun p q hq => ⟨by
    rw [Nat.mul_comm, Nat.mul_add_div (Nat.two_pow_pos n), Nat.div_eq_of_lt hq, Nat.add_zero], by
    rw [Nat.mul_comm, Nat.mul_add_mod, Nat.mod_eq_of_lt hq]⟩
  have e1 := Nat.and_div_two_pow (a := a * 2 ^ n + o) (b := a' * 2 ^ n + o') (n := n)
  have e2 := Nat.and_mod_two_pow (a := a * 2 ^ n + o) (b := a' * 2 ^ n + o') (n := n)
  rw [(d a o ho).1, (d a' o' ho').1] at e1
  rw [(d a o ho).2, (d a' o' ho').2] at e2
  rw [← e1, ← e2]
  exact (Nat.div_add_mod' _ _).symm
theorem and7 (a : Nat) (h : a < 8) : a &&& 7 = a := by
  have := lt8 h
  rcases this with rfl | rfl | rfl | rfl | rfl | rfl | rfl | rfl <;> rfl
theorem and1 (a : Nat) (h : a < 2) : a &&& 1 = a := by
  have := lt2 h
  rcases this with rfl | rfl <;> rfl
theorem and15 (a : Nat) (h : a < 16) : a &&& 15 = a := by
  have := Nat.and_two_pow_sub_one_eq_mod a 4
  rw [show 2 ^ 4 - 1 = 15 from rfl] at this; rw [this]; omega
theorem and4 (a : Nat) (h : a < 8) : a &&& 4 = a / 4 * 4 := by
  have := lt8 h
  rcases this with rfl | rfl | rfl | rfl | rfl | rfl | rfl | rfl <;> rfl
theorem and2 (a : Nat) (h : a < 8) : a &&& 2 = a / 2 % 2 * 2 := by
  have := lt8 h
  rcases this with rfl | rfl | rfl | rfl | rfl | rfl | rfl | rfl <;> rfl
theorem and1' (a : Nat) (h : a < 8) : a &&& 1 = a % 2 := by
  have := lt8 h
  rcases this with rfl | rfl | rfl | rfl | rfl | rfl | rfl | rfl <;> rfl
theorem band (x : Nat) (c : Nat) : Builtin.bitAnd (x : Int) (c : Int) = ((x &&& c : Nat) : Int) := by
  unfold Builtin.bitAnd
  rw [decide_eq_true (Int.natCast_nonneg x), decide_eq_true (Int.natCast_nonneg c)]
  rfl
/-- a mode's fields: the kind, the three bits above, the three classes -/
structure Fields (m k s2 s1 s0 u g o : Nat) : Prop where
  eq : m = k * 4096 + s2 * 2048 + s1 * 1024 + s0 * 512 + u * 64 + g * 8 + o
  hk : k < 16
  h2 : s2 < 2
  h1 : s1 < 2
  h0 : s0 < 2
  hu : u < 8
  hg : g < 8
  ho : o < 8
theorem Fields.lt {m k s2 s1 s0 u g o : Nat} (F : Fields m k s2 s1 s0 u g o) : m < 65536 := by obtain ⟨e, a, b, c, d, p, q, r⟩ := F; omega
theorem fields_of (m : Nat) (h : m < 65536) : ∃ k s2 s1 s0 u g o, Fields m k s2 s1 s0 u g o := by
  obtain ⟨a, o, e1, ho⟩ : ∃ a o, m = a * 8 + o ∧ o < 8 := ⟨m / 8, m % 8, by omega, by omega⟩
  obtain ⟨b, g, e2, hg⟩ : ∃ b g, a = b * 8 + g ∧ g < 8 := ⟨a / 8, a % 8, by omega, by omega⟩
  obtain ⟨c, u, e3, hu⟩ : ∃ c u, b = c * 8 + u ∧ u < 8 := ⟨b / 8, b % 8, by omega, by omega⟩
  obtain ⟨d, s0, e4, h0⟩ : ∃ d s, c = d * 2 + s ∧ s < 2 := ⟨c / 2, c % 2, by omega, by omega⟩
  obtain ⟨e, s1, e5, h1⟩ : ∃ z s, d = z * 2 + s ∧ s < 2 := ⟨d / 2, d % 2, by omega, by omega⟩
  obtain ⟨k, s2, e6, h2⟩ : ∃ d s, e = d * 2 + s ∧ s < 2 := ⟨e / 2, e % 2, by omega, by omega⟩
  exact ⟨k, s2, s1, s0, u, g, o, by omega, by omega, h2, h1, h0, hu, hg, ho⟩
/-- a mask by its fields -/
theorem Fields.nest {m k s2 s1 s0 u g o : Nat} (F : Fields m k s2 s1 s0 u g o) : m = (((((k * 2 ^ 1 + s2) * 2 ^ 1 + s1) * 2 ^ 1 + s0) * 2 ^ 3 + u) * 2 ^ 3 + g) * 2 ^ 3 + o := by
  have e := F.eq
  clear F
  omega
theorem mask {x c k s2 s1 s0 u g o k' s2' s1' s0' u' g' o' : Nat} (F : Fields x k s2 s1 s0 u g o) (C : Fields c k' s2' s1' s0' u' g' o') :
    x &&& c = (k &&& k') * 4096 + (s2 &&& s2') * 2048 + (s1 &&& s1') * 1024 + (s0 &&& s0') * 512 + (u &&& u') * 64 + (g &&& g') * 8 + (o &&& o') := by
  rw [F.nest, C.nest, and_cat 3 _ _ _ _ F.ho C.ho, and_cat 3 _ _ _ _ F.hg C.hg, and_cat 3 _ _ _ _ F.hu C.hu, and_cat 1 _ _ _ _ F.h0 C.h0, and_cat 1 _ _ _ _ F.h1 C.h1, and_cat 1 _ _ _ _ F.h2 C.h2]
  clear F C
  generalize k &&& k' = z1
  generalize s2 &&& s2' = z2
  generalize s1 &&& s1' = z3
  generalize s0 &&& s0' = z4
  generalize u &&& u' = z5
  generalize g &&& g' = z6
  generalize o &&& o' = z7
  omega
noncomputable def stepM (c : Nat) (bits mode : Int) : Int :=
  if c = 117 then mode - Builtin.bitAnd mode (Builtin.bitOr 448 2048) + bits.fmod 8 * 64 + bits.fdiv 8 * 2048
  else if c = 103 then mode - Builtin.bitAnd mode (Builtin.bitOr 56 1024) + bits.fmod 8 * 8 + bits.fdiv 8 * 1024
  else mode - Builtin.bitAnd mode (Builtin.bitOr 7 512) + bits.fmod 8 * 1 + bits.fdiv 8 * 512
section
variable {x k s2 s1 s0 u g o : Nat}
theorem m2496 (F : Fields x k s2 s1 s0 u g o) : x &&& 2496 = s2 * 2048 + u * 64 := by
  rw [mask F (c := 2496) (k' := 0) (s2' := 1) (s1' := 0) (s0' := 0) (u' := 7) (g' := 0) (o' := 0) (by constructor <;> decide), Nat.and_zero, Nat.and_zero, Nat.and_zero, Nat.and_zero, Nat.and_zero, and1 _ F.h2, and7 _ F.hu]; omega
theorem m1080 (F : Fields x k s2 s1 s0 u g o) : x &&& 1080 = s1 * 1024 + g * 8 := by
  rw [mask F (c := 1080) (k' := 0) (s2' := 0) (s1' := 1) (s0' := 0) (u' := 0) (g' := 7) (o' := 0) (by constructor <;> decide), Nat.and_zero, Nat.and_zero, Nat.and_zero, Nat.and_zero, Nat.and_zero, and1 _ F.h1, and7 _ F.hg]; omega
theorem m519 (F : Fields x k s2 s1 s0 u g o) : x &&& 519 = s0 * 512 + o := by
  rw [mask F (c := 519) (k' := 0) (s2' := 0) (s1' := 0) (s0' := 1) (u' := 0) (g' := 0) (o' := 7) (by constructor <;> decide), Nat.and_zero, Nat.and_zero, Nat.and_zero, Nat.and_zero, Nat.and_zero, and1 _ F.h0, and7 _ F.ho]; omega
theorem m448 (F : Fields x k s2 s1 s0 u g o) : x &&& 448 = u * 64 := by
  rw [mask F (c := 448) (k' := 0) (s2' := 0) (s1' := 0) (s0' := 0) (u' := 7) (g' := 0) (o' := 0) (by constructor <;> decide), Nat.and_zero, Nat.and_zero, Nat.and_zero, Nat.and_zero, Nat.and_zero, Nat.and_zero, and7 _ F.hu]; omega
theorem m56 (F : Fields x k s2 s1 s0 u g o) : x &&& 56 = g * 8 := by
  rw [mask F (c := 56) (k' := 0) (s2' := 0) (s1' := 0) (s0' := 0) (u' := 0) (g' := 7) (o' := 0) (by constructor <;> decide), Nat.and_zero, Nat.and_zero, Nat.and_zero, Nat.and_zero, Nat.and_zero, Nat.and_zero, and7 _ F.hg]; omega
theorem m7 (F : Fields x k s2 s1 s0 u g o) : x &&& 7 = o := by
  rw [mask F (c := 7) (k' := 0) (s2' := 0) (s1' := 0) (s0' := 0) (u' := 0) (g' := 0) (o' := 7) (by constructor <;> decide), Nat.and_zero, Nat.and_zero, Nat.and_zero, Nat.and_zero, Nat.and_zero, Nat.and_zero, and7 _ F.ho]; omega
end
theorem fmod8 (b : Nat) : Int.fmod (b : Int) 8 = ((b % 8 : Nat) : Int) := by rw [Int.fmod_eq_emod_of_nonneg _ (by decide)]; rfl
theorem fdiv8 (b : Nat) : Int.fdiv (b : Int) 8 = ((b / 8 : Nat) : Int) := by rw [Int.fdiv_eq_ediv_of_nonneg _ (by decide)]; rfl
/-- one letter's turn, in numbers -/
theorem stepM_nat {m k s2 s1 s0 u g o : Nat} (F : Fields m k s2 s1 s0 u g o) (c b : Nat) (hb : b < 16) : ∃ m' : Nat, stepM c (b : Int) (m : Int) = (m' : Int) ∧
    Fields m' k (if c = 117 then b / 8 else s2) (if c = 103 then b / 8 else s1) (if c = 117 ∨ c = 103 then s0 else b / 8) (if c = 117 then b % 8 else u) (if c = 103 then b % 8 else g) (if c = 117 ∨ c = 103 then o else b % 8) := by
  unfold stepM
  rw [show Builtin.bitOr 448 2048 = ((2496 : Nat) : Int) from rfl, show Builtin.bitOr 56 1024 = ((1080 : Nat) : Int) from rfl, show Builtin.bitOr 7 512 = ((519 : Nat) : Int) from rfl, band, band, band, m2496 F, m1080 F, m519 F, fmod8, fdiv8]
  obtain ⟨e, a, b2, b1, b0, p, q, r⟩ := F
  have c1 : b / 8 < 2 := by clear e a b2 b1 b0 p q r; omega
  have c2 : b % 8 < 8 := by clear e a b2 b1 b0 p q r; omega
  generalize b / 8 = z1 at c1 ⊢
  generalize b % 8 = z2 at c2 ⊢
  by_cases h1 : c = 117
  · refine ⟨m - (s2 * 2048 + u * 64) + z2 * 64 + z1 * 2048, ?_, ?_⟩
    · simp only [h1, if_true]
      clear c1 c2 a b2 b1 b0 p q r hb h1
      omega
    · simp only [h1, if_true, true_or, show ¬ (117 : Nat) = 103 by decide, if_false]
      exact ⟨by clear c1 c2 a b2 b1 b0 p q r hb h1; omega, a, c1, b1, b0, c2, q, r⟩
  · by_cases h2 : c = 103
    · refine ⟨m - (s1 * 1024 + g * 8) + z2 * 8 + z1 * 1024, ?_, ?_⟩
      · simp only [h2, if_true, show ¬ (103 : Nat) = 117 by decide, if_false]
        clear c1 c2 a b2 b1 b0 p q r hb h1 h2
        omega
      · simp only [h2, if_true, or_true, show ¬ (103 : Nat) = 117 by decide, if_false]
        exact ⟨by clear c1 c2 a b2 b1 b0 p q r hb h1 h2; omega, a, b2, c1, b0, p, c2, r⟩
    · refine ⟨m - (s0 * 512 + o) + z2 * 1 + z1 * 512, ?_, ?_⟩
      · simp only [h1, h2, if_false]
        clear c1 c2 a b2 b1 b0 p q r hb h1 h2
        omega
      · simp only [h1, h2, if_false, or_self]
        exact ⟨by clear c1 c2 a b2 b1 b0 p q r hb h1 h2; omega, a, b2, b1, c1, p, q, c2⟩
theorem stepM_range {c : Nat} {b m : Int} (h0 : 0 ≤ m) (h1 : m < 65536) (h2 : 0 ≤ b) (h3 : b < 16) : 0 ≤ stepM c b m ∧ stepM c b m < 65536 := by
  obtain ⟨k, s2, s1, s0, u, g, o, F⟩ := fields_of m.toNat (by omega)
  obtain ⟨m', e, F'⟩ := stepM_nat F c b.toNat (by omega)
  have := F'.lt
  rw [show ((b.toNat : Nat) : Int) = b by omega, show ((m.toNat : Nat) : Int) = m by omega] at e
  rw [e]; omega
end Mine
end
section
section
theorem Mine.anew_DN : (0 : Nat) = 0 := by w_top off; walk1
end
open PySem PySem.W PyProof.Rows
set_option Elab.async false
set_option maxRecDepth 100000
set_option maxHeartbeats 8000000
namespace Mine
local macro_rules | `(tactic| walk_at "exec For Name Call cons nil") => `(tactic| (k_here; refine Mine.hold_of ?_))
local macro_rules | `(tactic| walk_at "call ref") => `(tactic| (k_here; (with_reducible show wpAny _ _ (call (Value.ref _) [_, _]) _ _ _); refine Mine.hold_of ?_))
noncomputable def doneMap (o1 o2 o3 o4 : Option Value) (x : Int) (t : Tok) (ob : Option Value) (vr vn : Value) : Str → Option Value := fun y =>
  if y = Str.ofString "letter" then o1 else if y = Str.ofString "unit" then o2 else if y = Str.ofString "three" then o3 else if y = Str.ofString "above" then o4 else if y = Str.ofString "mode" then some (.int x t)
  else if y = Str.ofString "bits" then ob else List.lookup y [(Str.ofString "rest", vr), (Str.ofString "names", vn)]
theorem look_skip {y : Str} {vr vn vm : Value} (h : ¬ y = Str.ofString "mode") : List.lookup y [(Str.ofString "rest", vr), (Str.ofString "names", vn), (Str.ofString "mode", vm)] = List.lookup y [(Str.ofString "rest", vr), (Str.ofString "names", vn)] := by
  simp only [List.lookup]
  have : (y == Str.ofString "mode") = false := by simpa using h
  rw [this]
noncomputable def doneFold (ws : List Str) (rest : Str) (x : Int) : Int := (Txt.join (Str.ofString "") ws).cps.toList.foldl (fun md c => stepM c (bitsOf rest x) md) x
theorem fdivN (b d : Nat) : Int.fdiv (b : Int) (d : Int) = ((b / d : Nat) : Int) := by rw [Int.fdiv_eq_ediv_of_nonneg _ (Int.natCast_nonneg d)]; rfl
theorem bits_cls {m k s2 s1 s0 u g o : Nat} (F : Fields m k s2 s1 s0 u g o) : (Builtin.bitAnd (m : Int) 448).fdiv 64 = (u : Int) ∧ (Builtin.bitAnd (m : Int) 56).fdiv 8 = (g : Int) ∧ (Builtin.bitAnd (m : Int) 7).fdiv 1 = (o : Int) := by
  have e1 := band m 448
  have e2 := band m 56
  have e3 := band m 7
  rw [m448 F] at e1; rw [m56 F] at e2; rw [m7 F] at e3
  refine ⟨?_, ?_, ?_⟩
  · rw [show (448 : Int) = ((448 : Nat) : Int) from rfl, e1, show (64 : Int) = ((64 : Nat) : Int) from rfl, fdivN]; have := F.hu; omega
  · rw [show (56 : Int) = ((56 : Nat) : Int) from rfl, e2, show (8 : Int) = ((8 : Nat) : Int) from rfl, fdivN]; have := F.hg; omega
  · rw [show (7 : Int) = ((7 : Nat) : Int) from rfl, e3, show (1 : Int) = ((1 : Nat) : Int) from rfl, fdivN]; have := F.ho; omega
theorem sum_nonneg : ∀ (l : List Nat), 0 ≤ (l.map bitVal).sum
  | [] => Int.le_refl _
  | c :: r => by
    have := sum_nonneg r
    have h : 0 ≤ bitVal c := by unfold bitVal; (repeat' split) <;> decide
    rw [List.map_cons, List.sum_cons]; omega
noncomputable abbrev RestOk (rest : Str) : Prop := rest = Str.ofString "u" ∨ rest = Str.ofString "g" ∨ rest = Str.ofString "o" ∨ ((∀ c ∈ rest.cps.toList, c = 114 ∨ c = 119 ∨ c = 120 ∨ c = 115) ∧ (rest.cps.toList.map bitVal).sum < 16)
theorem bits_range {x : Int} {rest : Str} (h0 : 0 ≤ x) (h1 : x < 65536) (hr : RestOk rest) : 0 ≤ bitsOf rest x ∧ bitsOf rest x < 16 := by
  obtain ⟨k, s2, s1, s0, u, g, o, F⟩ := fields_of x.toNat (by omega)
  obtain ⟨e1, e2, e3⟩ := bits_cls F
  rw [show ((x.toNat : Nat) : Int) = x by omega] at e1 e2 e3
  have := F.hu
  have := F.hg
  have := F.ho
  unfold bitsOf
  by_cases q1 : rest = Str.ofString "u"
  · rw [if_pos q1, e1]; omega
  · by_cases q2 : rest = Str.ofString "g"
    · rw [if_neg q1, if_pos q2, e2]; omega
    · by_cases q3 : rest = Str.ofString "o"
      · rw [if_neg q1, if_neg q2, if_pos q3, e3]; omega
      · rw [if_neg q1, if_neg q2, if_neg q3]
        exact ⟨sum_nonneg _, (hr.elim (absurd · q1) fun z => z.elim (absurd · q2) fun z => z.elim (absurd · q3) id).2⟩
theorem done_map {p1 p2 p3 p4 ob : Option Value} {x x' : Int} {t t' : Tok} {vr vn vl vu vt va : Value} : (fun y => if y = Str.ofString "mode" then some (.int x' t') else if y = Str.ofString "unit" then some vu else if y = Str.ofString "three" then some vt else if y = Str.ofString "above" then some va else if y = Str.ofString "letter" then some vl else doneMap p1 p2 p3 p4 x t ob vr vn y) = doneMap (some vl) (some vu) (some vt) (some va) x' t' ob vr vn := funext fun y => by
  by_cases h1 : y = Str.ofString "letter"
  · subst h1; rfl
  · by_cases h2 : y = Str.ofString "unit"
    · subst h2; rfl
    · by_cases h3 : y = Str.ofString "three"
      · subst h3; rfl
      · by_cases h4 : y = Str.ofString "above"
        · subst h4; rfl
        · by_cases h5 : y = Str.ofString "mode"
          · subst h5; rfl
          · simp only [doneMap, if_neg h1, if_neg h2, if_neg h3, if_neg h4, if_neg h5]
noncomputable def kindList : List (Str × Int) := [(Str.ofString "p", 4096), (Str.ofString "c", 8192), (Str.ofString "d", 16384), (Str.ofString "b", 24576), (Str.ofString "-", 32768), (Str.ofString "l", 40960), (Str.ofString "s", 49152), (Str.ofString "3", 12288), (Str.ofString "5", 20480), (Str.ofString "7", 28672), (Str.ofString "9", 36864), (Str.ofString "B", 45056), (Str.ofString "D", 53248), (Str.ofString "E", 57344), (Str.ofString "F", 61440)]
noncomputable def kindSigns : List Str := Str.ofString "0" :: kindList.map (·.1)
noncomputable def kindVal (rest : Str) : Int := (kindList.lookup rest).getD 0
noncomputable def doneOf (ws : List Str) (rest : Str) (x : Int) : Int := if ws = [] then Builtin.bitOr (Builtin.bitAnd x 4095) (kindVal rest) else doneFold ws rest x
theorem kind_range (rest : Str) : 0 ≤ kindVal rest ∧ kindVal rest < 65536 := by
  unfold kindVal
  cases h : kindList.lookup rest with
  | none => decide
  | some v =>
    have : (rest, v) ∈ kindList := by
      have := List.lookup_eq_some_iff.mp h
      obtain ⟨l1, l2, e, _⟩ := this
      rw [e]; simp
    have q : ∀ p ∈ kindList, 0 ≤ p.2 ∧ p.2 < 65536 := by decide
    exact q _ this
theorem stepM_all {b m r : Int} (h0 : 0 ≤ m) (h1 : m < 65536) (h2 : 0 ≤ b) (h3 : b < 16) (h : r = m - Builtin.bitAnd m (Builtin.bitOr 448 2048) + b.fmod 8 * 64 + b.fdiv 8 * 2048 ∨ r = m - Builtin.bitAnd m (Builtin.bitOr 56 1024) + b.fmod 8 * 8 + b.fdiv 8 * 1024 ∨ r = m - Builtin.bitAnd m (Builtin.bitOr 7 512) + b.fmod 8 * 1 + b.fdiv 8 * 512) : 0 ≤ r ∧ r < 65536 := by
  rcases h with rfl | rfl | rfl
  · exact stepM_range (c := 117) h0 h1 h2 h3
  · exact stepM_range (c := 103) h0 h1 h2 h3
  · exact stepM_range (c := 111) h0 h1 h2 h3
theorem flat_of {v : Value} {d d' : PyData} (h : PyProof.V.Flat v d) (e : d = d') : PyProof.V.Flat v d' := e ▸ h
theorem ct_done {w : World} {mean : ExcName → Option Value} {mg mb : Str → Option Value} (x : Int) (t u : Tok) (l : Addr) (vs : List Value) (n : Nat) (ws : List Str) (rest : Str) (h0 : 0 ≤ x) (h1 : x < 65536) (hv : StrsAre vs ws) (hws : ∀ y ∈ ws, PyData.strOk y = true) (hr3 : ws = [] → rest ∈ kindSigns) (hr4 : ¬ ws = [] → RestOk rest) (hr2 : rest.cps.size ≤ 4) (hsum : (ws.map (·.length)).sum + ws.length * (Str.ofString "").length ≤ 16777216) (hlet : ∀ c ∈ (Txt.join (Str.ofString "") ws).cps.toList, c = 117 ∨ c = 103 ∨ c = 111) (hasc : (Txt.join (Str.ofString "") ws).cps.all (· < 128) = true) :
    Con w mean mg mb 248 60 [.int x t, .ref l, .str rest u] [(l, listOf vs.toArray n)] (fun tl r => tl = [] ∧ ∃ v, r = .int (doneOf ws rest x) v) := by
  walk_at "CON enter"
  replace F' : Fr g' L' h' (fun y => List.lookup y [(Str.ofString "rest", Value.str rest u), (Str.ofString "names", Value.ref l), (Str.ofString "mode", Value.int x t)]) := F'
  k_steps
  rename Fr g' L' _ _ => F10
  rename News g' L' _ _ => N10
  refine' kp_isnilS N10 ?ma ?mb hv hws ?hu ?_
  case ma => k_mem
  case mb => k_mem
  case hu => have e9 : cLine = 9900 := rfl; show un + 3 + 64 < cLine; omega
  have e9 : cLine = 9900 := rfl
  have e10 : recursionLimit = 1000 := rfl
  k_steps
  · rename ws = [] => hwn
    rename Fr g' L' _ _ => F11
    rename News g' L' _ _ => N11
    refine' con_use (mean := mean) (mg := mg) (mb := mb) (dp := dp + 1) (un := un + 3) (gd := gd) (cn := Str.ofString "_law_done") (L := L') (a := 248) (ccd := .ref 247) (cl := []) (outer := envX cn cs L a ccd cl :: outer) (ct_imode x t h0 h1) B' F11 X' N11 T' (List.forall_mem_nil _) ?k ?d ?u ?_
    case k => rfl
    case d => omega
    case u => omega
    rintro _ tl h9 tk9 F9 N9 _ ⟨rfl, u9, rfl⟩
    rw [List.nil_append] at N9
    k_steps
    rename PyProof.V.Flat _ _ => hfl
    dsimp only at hfl
    have hrs := hr3 hwn
    have hfk : PyProof.V.Flat _ (PyData.int (kindVal rest)) := flat_of hfl (by
      clear hfl
      simp only [kindSigns, kindList, List.map, List.mem_cons, List.not_mem_nil, or_false] at hrs
      rcases hrs with rfl | rfl | rfl | rfl | rfl | rfl | rfl | rfl | rfl | rfl | rfl | rfl | rfl | rfl | rfl | rfl <;> kernel_rfl)
    clear hfl
    obtain ⟨uu, rfl⟩ := PyProof.V.Flat.int_inv hfk
    obtain ⟨kb0, kb1⟩ := kind_range rest
    k_steps
    rename Fr h₀ L _ m => kF
    refine' con_fin hret kG' N kF F9 N9 (fun p hp => .tail _ (.tail _ hp)) ⟨[], List.forall_mem_nil _, fun _ _ => List.forall_mem_nil _, ⟨rfl, _, ?_⟩⟩
    rotate_left
    · rw [doneOf, if_pos hwn]
  · unfold Hold
    rename ¬ ws = [] => hwn
    have hr1 := hr4 hwn
    rename Fr g' L' _ _ => F11
    rename News g' L' _ _ => N11
    refine' con_use (mean := mean) (mg := mg) (mb := mb) (dp := dp + 1) (un := un + 3) (gd := gd) (cn := Str.ofString "_law_done") (L := L') (a := 248) (ccd := .ref 247) (cl := []) (outer := envX cn cs L a ccd cl :: outer) (ct_bits rest x u t h0 h1 (hr1.imp id fun z => z.imp id fun z => z.imp id And.left) hr2) B' F11 X' N11 T' (List.forall_mem_nil _) ?k ?d ?u ?_
    case k => rfl
    case d => omega
    case u => omega
    rintro _ tl h9 tk9 F9 N9 _ ⟨rfl, u9, rfl⟩
    rw [List.nil_append] at N9
    generalize hbts : bitsOf rest x = bts
    k_steps
    unfold Hold
    rename Fr g' L' _ _ => F12
    rename News g' L' _ _ => N12
    refine wpAny_For ?_
    k_steps
    refine join_list (items := vs.toArray) (ys := ws) (News.isList N12 (.tail _ (.head _))) hv hsum ?_
    intro t' k'
    k_steps
    refine kp_siter F12 N12 hasc ?_
    intro it h13 oi hoi F13 N13 off13
    dsimp only
    have F14 := fr_map (m' := doneMap none none none none x t (some (.int bts u9)) (.str rest u) (.ref l)) F13 (funext fun y => by
      by_cases h1 : y = Str.ofString "letter"
      · subst h1; rfl
      · by_cases h2 : y = Str.ofString "unit"
        · subst h2; rfl
        · by_cases h3 : y = Str.ofString "three"
          · subst h3; rfl
          · by_cases h4 : y = Str.ofString "above"
            · subst h4; rfl
            · by_cases h5 : y = Str.ofString "mode"
              · subst h5; rfl
              · simp only [doneMap, if_neg h1, if_neg h2, if_neg h3, if_neg h4, if_neg h5]
                by_cases h6 : y = Str.ofString "bits"
                · rw [if_pos h6, if_pos h6]
                · rw [if_neg h6, if_neg h6]; exact look_skip h5)
    clear F12 N12 F13
    obtain ⟨i, ei⟩ : ∃ i : Nat, i = 0 := ⟨_, rfl⟩
    obtain ⟨ls, hcs⟩ : ∃ ls, (Txt.join (Str.ofString "") ws).cps.toList.drop i = ls := ⟨_, rfl⟩
    obtain ⟨y0, hy0⟩ : ∃ y0 : Int, y0 = x := ⟨_, rfl⟩
    have htot : ls.foldl (fun md c => stepM c bts md) y0 = doneFold ws rest x := by rw [← hcs, ei, hy0, ← hbts]; rfl
    have hr0 : 0 ≤ y0 ∧ y0 < 65536 := by rw [hy0]; exact ⟨h0, h1⟩
    replace hoi : SIt oi (Txt.join (Str.ofString "") ws) t' i := by rw [ei]; exact hoi
    have hil : i ≤ (Txt.join (Str.ofString "") ws).cps.toList.length := by omega
    rw [← hy0] at F14
    clear ei hy0
    refine codeAny_anyTok fun tk => ?_
    have hb0 : 0 ≤ bts ∧ bts < 16 := hbts ▸ bits_range h0 h1 hr1
    generalize t = t9 at F14
    obtain ⟨p1, p2, p3, p4, ep⟩ : ∃ p1 p2 p3 p4 : Option Value, p1 = none ∧ p2 = none ∧ p3 = none ∧ p4 = none := ⟨_, _, _, _, rfl, rfl, rfl, rfl⟩
    replace F14 : Fr g' L' h13 (doneMap p1 p2 p3 p4 y0 t9 (some (.int bts u9)) (.str rest u) (.ref l)) := by rw [ep.1, ep.2.1, ep.2.2.1, ep.2.2.2]; exact F14
    clear ep
    induction ls generalizing h13 oi i y0 t9 tk p1 p2 p3 p4 with
    | nil =>
      obtain rfl : i = (Txt.join (Str.ofString "") ws).cps.toList.length := by
        have : (Txt.join (Str.ofString "") ws).cps.toList.length ≤ i := by simpa using hcs
        omega
      refine codeAny_forTurn ?_
      refine kp_send F14 N13 hoi rfl off13 ?_
      intro h15 F15 N15
      dsimp only
      k_steps
      rename Fr h₀ L _ m => kF
      refine' con_fin hret kG' N kF F15 N15 (fun p hp => .tail _ hp) ⟨[], List.forall_mem_nil _, fun _ _ => List.forall_mem_nil _, ⟨rfl, t9, ?_⟩⟩
      rw [doneOf, if_neg hwn, ← htot]; rfl
    | cons c ls ih =>
      have hlt : i < (Txt.join (Str.ofString "") ws).cps.toList.length := by
        refine Nat.lt_of_not_le fun z => ?_
        rw [List.drop_eq_nil_of_le z] at hcs; cases hcs
      have hci : (Txt.join (Str.ofString "") ws).cps.toList[i]? = some c := by
        have := List.getElem?_drop (xs := (Txt.join (Str.ofString "") ws).cps.toList) (i := i) (j := 0)
        rw [hcs] at this; exact this.symm
      have hcs' : (Txt.join (Str.ofString "") ws).cps.toList.drop (i + 1) = ls := by rw [← List.drop_drop, hcs]; rfl
      have hcl := hlet c (List.mem_of_getElem? hci)
      obtain ⟨hy1, hy2⟩ := hr0
      obtain ⟨hb1, hb2⟩ := hb0
      refine codeAny_forTurn ?_
      refine kp_snext F14 N13 hoi hci off13 ?_
      intro h15 oi15 u15 hoi15 F15 N15
      dsimp only
      refine wpAny_of_eq (a := ()) rfl ?_
      rcases hcl with rfl | rfl | rfl
      all_goals
        k_steps
        rename News g' L' _ _ => N16
        rename Fr g' L' _ _ => F16
        show codeAny _ _ _ _ _
        dsimp only at F16
        have F17 := fr_map F16 done_map
        refine' ih _ oi15 (news_sub N16 fun p hp => .tail _ hp) (i + 1) hcs' _ ?ht ?hr hoi15 hlt _ _ _ _ _ _ F17
        case ht => exact htot
        case hr => exact stepM_all hy1 hy2 hb1 hb2 (by simp)
end Mine
end
section
open PySem PySem.W PyProof.Rows
set_option Elab.async false
set_option maxRecDepth 100000
set_option maxHeartbeats 8000000
namespace Mine
/-- an entry of the table: its tuple's address, the bit, the sign -/
structure Ent where
  a : Addr
  b : Int
  tb : Tok
  c : String
  tc : Tok
noncomputable abbrev Ent.obj (e : Ent) : Obj := { cls := .type "tuple", data := .seq #[.int e.b e.tb, .str (Str.ofString e.c) e.tc] }
noncomputable def modeTab : List (Addr × List Ent) :=
  [(43, [⟨36, 40960, 222, "l", 256⟩, ⟨37, 49152, 224, "s", 257⟩, ⟨38, 32768, 218, "-", 258⟩, ⟨39, 24576, 216, "b", 259⟩, ⟨40, 16384, 212, "d", 260⟩, ⟨41, 8192, 214, "c", 261⟩, ⟨42, 4096, 220, "p", 262⟩]),
   (45, [⟨44, 256, 234, "r", 263⟩]), (47, [⟨46, 128, 236, "w", 264⟩]), (51, [⟨48, 2112, 265, "s", 266⟩, ⟨49, 2048, 226, "S", 267⟩, ⟨50, 64, 238, "x", 268⟩]),
   (53, [⟨52, 32, 242, "r", 269⟩]), (55, [⟨54, 16, 244, "w", 270⟩]), (59, [⟨56, 1032, 271, "s", 272⟩, ⟨57, 1024, 228, "S", 273⟩, ⟨58, 8, 246, "x", 274⟩]),
   (61, [⟨60, 4, 250, "r", 275⟩]), (63, [⟨62, 2, 252, "w", 276⟩]), (67, [⟨64, 513, 277, "t", 278⟩, ⟨65, 512, 230, "T", 279⟩, ⟨66, 1, 254, "x", 280⟩])]
noncomputable def tabRefs : Array Value := (modeTab.map fun t => Value.ref t.1).toArray
noncomputable def entRefs (l : List Ent) : Array Value := (l.map fun e => Value.ref e.a).toArray
/-- the sign of one table -/
noncomputable def pickT (first : Bool) (x : Int) : List Ent → Str
  | [] => if first then Str.ofString "?" else Str.ofString "-"
  | e :: r => if Builtin.bitAnd x (if first then 61440 else e.b) = e.b then Str.ofString e.c else pickT first x r
theorem tab_holds {P : Params} {h : Heap} (X : (hd.heap_1 P).In h) : h.IsTuple 68 tabRefs ∧ ∀ t ∈ modeTab, h.IsTuple t.1 (entRefs t.2) ∧ ∀ e ∈ t.2, h.get? e.a = some e.obj ∧ 0 ≤ e.b ∧ e.b < 65536 := by
  have look : ∀ a o, (List.lookup a (hd.heap_1 P)) = some o → h.get? a = some o := fun a o e => X a o e
  have tup : ∀ a its, (List.lookup a (hd.heap_1 P)) = some { cls := .type "tuple", data := .seq its } → h.IsTuple a its := fun a its e => ⟨_, look a _ e, rfl, _, rfl⟩
  refine ⟨tup 68 _ (by kernel_rfl), ?_⟩
  simp only [modeTab, List.forall_mem_cons, List.forall_mem_nil, and_true]
  repeat' apply And.intro
  all_goals first
    | exact List.forall_mem_nil _
    | exact tup _ _ (by kernel_rfl)
    | exact look _ _ (by kernel_rfl)
    | decide
end Mine
end
section
section
theorem Mine.anew_FM : (0 : Nat) = 0 := by w_top off; walk1
end
open PySem PySem.W PyProof.Rows
set_option Elab.async false
set_option maxRecDepth 100000
set_option maxHeartbeats 8000000
namespace Mine
local macro_rules | `(tactic| walk_at "exec For Tuple Call") => `(tactic| (k_here; k_dflt (refine wpAny_For ?_)))
local macro_rules | `(tactic| walk_at "exec For Tuple Name") => `(tactic| (k_here; k_dflt (refine wpAny_For ?_)))
noncomputable abbrev modeMap (oi ot ob oc : Option Value) (P : Addr) (x : Int) (t : Tok) : Str → Option Value := fun y =>
  if y = Str.ofString "char" then oc else if y = Str.ofString "bit" then ob else if y = Str.ofString "table" then ot else if y = Str.ofString "index" then oi else if y = Str.ofString "perm" then some (.ref P) else List.lookup y [(Str.ofString "mode", Value.int x t)]
noncomputable def picks (x : Int) : Bool → List (Addr × List Ent) → List Str
  | _, [] => []
  | f, t :: r => pickT f x t.2 :: picks x false r
noncomputable def rowOf (x : Int) : Str := Txt.join (Str.ofString "") (picks x true modeTab)
theorem pick_len {f : Bool} {x : Int} : ∀ {l : List Ent}, (∀ e ∈ l, (Str.ofString e.c).length = 1) → (pickT f x l).length = 1
  | [], _ => by cases f <;> rfl
  | e :: r, h => by
    by_cases hc : Builtin.bitAnd x (if f then 61440 else e.b) = e.b
    · rw [show pickT f x (e :: r) = _ from if_pos hc]; exact h e (.head _)
    · rw [show pickT f x (e :: r) = _ from if_neg hc]; exact pick_len fun e he => h e (.tail _ he)
theorem picks_len {x : Int} : ∀ {l : List (Addr × List Ent)} {f : Bool}, (∀ t ∈ l, ∀ e ∈ t.2, (Str.ofString e.c).length = 1) → ∀ y ∈ picks x f l, y.length = 1
  | [], _, _, _, h => nomatch h
  | t :: r, f, h, y, hy => by
    rcases List.mem_cons.mp hy with rfl | hy
    · exact pick_len (h t (.head _))
    · exact picks_len (fun t ht => h t (.tail _ ht)) y hy
theorem tab_one : ∀ t ∈ modeTab, ∀ e ∈ t.2, (Str.ofString e.c).length = 1 := by decide
theorem sum_ones : ∀ {l : List Str}, (∀ y ∈ l, y.length = 1) → (l.map (·.length)).sum = l.length
  | [], _ => rfl
  | y :: r, h => by rw [List.map_cons, List.sum_cons, h y (.head _), sum_ones fun z hz => h z (.tail _ hz), List.length_cons]; omega
theorem picks_num {x : Int} : ∀ {l : List (Addr × List Ent)} {f : Bool}, (picks x f l).length = l.length
  | [], _ => rfl
  | t :: r, f => by unfold picks; rw [List.length_cons, picks_num, List.length_cons]
noncomputable def ModeEnd (g : Heap) (L : Addr) (s : Shared) (mp : Option Value → Option Value → Str → Option Value) (led : List Value → Nat → Led) (tot : List Str) (len : Nat) (r : Result) (s' : Shared) : Prop :=
  ∃ h' tk ob oc vs' n', r = .ok .next ∧ s' = { s with heap := h', toks := tk } ∧ Fr g L h' (mp ob oc) ∧ News g L h' (led vs' n') ∧ StrsAre vs' tot ∧ vs'.length = len
theorem pick_hit {f : Bool} {x : Int} {e : Ent} {r : List Ent} (h : Builtin.bitAnd x (if f then 61440 else e.b) = e.b) : pickT f x (e :: r) = Str.ofString e.c := if_pos h
theorem pick_miss {f : Bool} {x : Int} {e : Ent} {r : List Ent} (h : Builtin.bitAnd x (if f then 61440 else e.b) ≠ e.b) : pickT f x (e :: r) = pickT f x r := if_neg h
theorem beq0 {i : Nat} (h : (i : Int) = 0) : (i == 0) = true := by have : i = 0 := by omega
                                                                   subst this; rfl
theorem beq1 {i : Nat} (h : (i : Int) ≠ 0) : (i == 0) = false := by have : i ≠ 0 := by omega
                                                                    simpa using this
theorem mode_map {oi ot ob oc : Option Value} {P : Addr} {x : Int} {t : Tok} {vb vc : Value} : (fun y => if y = Str.ofString "char" then some vc else if y = Str.ofString "bit" then some vb else modeMap oi ot ob oc P x t y) = modeMap oi ot (some vb) (some vc) P x t := funext fun y => by
  by_cases h1 : y = Str.ofString "char"
  · subst h1; rfl
  · by_cases h2 : y = Str.ofString "bit"
    · subst h2; rfl
    · simp only [modeMap, if_neg h1, if_neg h2]
theorem mode_end {g h' : Heap} {L : Addr} {s : Shared} {mp : Option Value → Option Value → Str → Option Value} {a b : Addr × Obj} {P : Addr} {acc : List Str} {y : Str} {len n tk : Nat} {mm : Str → Option Value} (ob oc : Option Value) {vs : List Value} {u : Tok} {c : Str}
    (F : Fr g L h' mm) (N : News g L h' [(P, PySem.W.listOf (vs.toArray.push (.str c u)) (n + 1)), a, b]) (hv : StrsAre vs acc) (hl : vs.length + 1 = len) (hc : c = y) (hm : mm = mp ob oc) :
    ModeEnd g L s mp (fun vs' n' => [a, b, (P, PySem.W.listOf vs'.toArray n')]) (acc ++ [y]) len (.ok .next) { s with heap := h', toks := tk } :=
  ⟨h', tk, ob, oc, vs ++ [.str c u], n + 1, rfl, rfl, hm ▸ F, fun p hp => N p (by
    dsimp only at hp
    rw [← List.push_toArray] at hp
    simp only [List.mem_cons, List.not_mem_nil, or_false] at hp ⊢
    rcases hp with rfl | rfl | rfl <;> simp), by rw [← hc]; exact kct_snoc hv, by rw [List.length_append]; exact hl⟩
theorem ct_mode {w : World} {mean : ExcName → Option Value} {mg mb : Str → Option Value} (x : Int) (t : Tok) (h0 : 0 ≤ x) (h1 : x < 65536) :
    Con w mean mg mb 75 120 [.int x t] [] (fun tl r => tl = [] ∧ ∃ u, r = .str (rowOf x) u) := by
  walk_at "CON enter"
  replace F' : Fr g' L' h' (fun y => List.lookup y [(Str.ofString "mode", Value.int x t)]) := F'
  k_steps
  rename News g' L' _ _ => N1
  rename Fr g' L' _ _ => F1
  rename_i P _ _ _
  have e9 : recursionLimit = 1000 := rfl
  have e10 : cLine = 9900 := rfl
  refine kp_enum F1 X' N1 rfl (show dp + 1 ≤ 900 by omega) (show un + 3 ≤ 9100 by omega) ?_
  intro e it h2 tk2 F2 N2 hei hoff
  refine wpAny_pyIter_enum (it := it) (i := 0) (old := .none) (N2 _ (.head _)).1 ?_
  dsimp only
  obtain ⟨hTab, hEnt⟩ := tab_holds X'
  obtain ⟨oit, hoit, eoit⟩ : ∃ o, TupIt o 68 0 ∧ o = tupIterO 68 0 := ⟨_, ⟨rfl, rfl⟩, rfl⟩
  obtain ⟨i, ei⟩ : ∃ i : Nat, i = 0 := ⟨_, rfl⟩
  obtain ⟨old, eold⟩ : ∃ v : Value, v = .none := ⟨_, rfl⟩
  obtain ⟨vs, acc, n, hvs, evs, eacc, en⟩ : ∃ (vs : List Value) (acc : List Str) (n : Nat), StrsAre vs acc ∧ vs = [] ∧ acc = [] ∧ n = 0 := ⟨_, _, _, .nil, rfl, rfl, rfl⟩
  obtain ⟨o1, o2, o3, o4, q1, q2, q3, q4⟩ : ∃ o1 o2 o3 o4 : Option Value, o1 = none ∧ o2 = none ∧ o3 = none ∧ o4 = none := ⟨_, _, _, _, rfl, rfl, rfl, rfl⟩
  replace N2 : News g' L' h2 [(e, enumO it (i : Nat) old), (it, oit), (P, PySem.W.listOf vs.toArray n)] := by rw [evs, en, ei, eold, eoit]; exact N2
  replace F2 : Fr g' L' h2 (modeMap o1 o2 o3 o4 P x t) := by
    subst q1 q2 q3 q4
    refine (congrArg (Fr g' L' h2) (funext fun y => ?_)).mp F2
    by_cases h1 : y = Str.ofString "char"
    · subst h1; rfl
    · by_cases h2 : y = Str.ofString "bit"
      · subst h2; rfl
      · by_cases h3 : y = Str.ofString "table"
        · subst h3; rfl
        · by_cases h4 : y = Str.ofString "index"
          · subst h4; rfl
          · simp only [modeMap, if_neg h1, if_neg h2, if_neg h3, if_neg h4]
  obtain ⟨rem, hrem⟩ : ∃ rem, modeTab.drop i = rem := ⟨_, rfl⟩
  have hpk : acc ++ picks x (i == 0) rem = picks x true modeTab := by rw [← hrem, eacc, ei]; rfl
  have hil : i ≤ 10 := by omega
  have hlen : vs.length = i := by rw [evs, ei]; rfl
  have hPe : P ≠ e ∧ P ≠ it := hoff _ (.head _)
  clear N1 F1 hoff
  replace hoit : TupIt oit 68 i := by rw [ei]; exact hoit
  clear eoit eold evs eacc en q1 q2 q3 q4 ei
  refine codeAny_anyTok fun tk => ?_
  induction rem generalizing h2 tk i old vs acc n o1 o2 o3 o4 oit with
  | nil =>
    obtain rfl : i = tabRefs.size := by
      have : modeTab.length ≤ i := by simpa using hrem
      have h9 : modeTab.length = 10 := rfl
      have : tabRefs.size = 10 := rfl
      omega
    refine codeAny_forTurn ?_
    refine kp_eend F2 N2 hoit hTab rfl (fun p hp => by rw [List.mem_singleton.mp hp]; exact hPe.2) ?_
    intro h3 F3 N3
    dsimp only
    k_steps
    have htot : acc = picks x true modeTab := by rw [← hpk]; exact (List.append_nil _).symm
    refine join_list (items := vs.toArray) (ys := acc) (News.isList N3 (.head _)) hvs ?_ ?_
    · rw [htot, sum_ones (picks_len tab_one), picks_num]; decide
    · intro t' k'
      k_steps
      refine' con_fin hret kG' N (by assumption) F3 N3 (List.forall_mem_nil _) ⟨[], List.forall_mem_nil _, List.forall_mem_nil _, ⟨rfl, t', ?_⟩⟩
      rw [htot]; rfl
  | cons tb rem ih =>
    have hmem : tb ∈ modeTab := List.mem_of_mem_drop (by rw [hrem]; exact .head _)
    obtain ⟨hTb, hEs⟩ := hEnt tb hmem
    have hlt : i < modeTab.length := by
      refine Nat.lt_of_not_le fun z => ?_
      rw [List.drop_eq_nil_of_le z] at hrem; cases hrem
    have hti : modeTab[i]? = some tb := by
      have := List.getElem?_drop (xs := modeTab) (i := i) (j := 0)
      rw [hrem] at this; exact this.symm
    have hrem' : modeTab.drop (i + 1) = rem := by
      rw [← List.drop_drop, hrem]; rfl
    have hxi : tabRefs[i]? = some (Value.ref tb.1) := by
      unfold tabRefs; rw [List.getElem?_toArray, List.getElem?_map, hti]; rfl
    refine codeAny_forTurn ?_
    refine kp_enext F2 N2 hoit hTab hxi rfl (fun p hp => by rw [List.mem_singleton.mp hp]; exact hPe) hei ?_
    intro T h3 tk3 oi3 hoi3 F3 N3 he3 hTe hTi hTr
    dsimp only
    refine kp_ego F3 N3 he3 (N2 _ (.head _)).2.1 (N2 _ (.head _)).2.2 (fun p hp => ?_) ?_
    · simp only [List.mem_cons, List.not_mem_nil, or_false] at hp
      rcases hp with rfl | rfl | rfl
      · exact hTe
      · exact Ne.symm hei
      · exact hPe.1
    intro h4 F4 N4
    k_steps
    rename News g' L' _ _ => N5
    rename Fr g' L' _ _ => F5
    replace F5 := fr_map (m' := modeMap (some (.int i tk3)) (some (.ref tb.1)) o3 o4 P x t) F5 (funext fun y => by
      by_cases h1 : y = Str.ofString "char"
      · subst h1; rfl
      · by_cases h2 : y = Str.ofString "bit"
        · subst h2; rfl
        · by_cases h3 : y = Str.ofString "table"
          · subst h3; rfl
          · by_cases h4 : y = Str.ofString "index"
            · subst h4; rfl
            · simp only [modeMap, if_neg h1, if_neg h2, if_neg h3, if_neg h4])
    have N6 := news_sub (l' := [(e, enumO it (↑i + 1) (Value.ref tb.1)), (it, oi3), (P, PySem.W.listOf vs.toArray n)]) N5 (fun p hp => by
      simp only [List.mem_cons, List.not_mem_nil, or_false] at hp ⊢
      rcases hp with rfl | rfl | rfl <;> simp)
    refine kp_titer F5 N6 hTb ?_
    intro I2 h6 F6 N6' off2
    dsimp only
    refine codeAny_anyTok fun tk => ?_
    refine codeAny_to (ModeEnd g' L' s (fun ob oc => modeMap (some (.int i tk3)) (some (.ref tb.1)) ob oc P x t) (fun vs' n' => [(e, enumO it (↑i + 1) (Value.ref tb.1)), (it, oi3), (P, PySem.W.listOf vs'.toArray n')]) (acc ++ [pickT (i == 0) x tb.2]) (i + 1)) ?_ ?_
    rotate_left
    · rintro r s' ⟨h7, tk7, ob, oc, vs', n', rfl, rfl, F7, N7, hv7, hl7⟩
      dsimp only
      refine wpAny_execs_nil ?_
      dsimp only
      refine ih h7 oi3 (i + 1) (Value.ref tb.1) vs' (acc ++ [pickT (i == 0) x tb.2]) n' hv7 _ _ _ _ N7 F7 hrem' ?_ hlt hl7 hoi3 tk7
      rw [← hpk, List.append_assoc]
      show _ = acc ++ (pickT (i == 0) x tb.2 :: picks x false rem)
      rw [show (i + 1 == 0) = false from rfl]; rfl
    clear ih
    try clear F5
    try clear N5
    try clear N6
    obtain ⟨oI, hoI, eoI⟩ : ∃ o, TupIt o tb.1 0 ∧ o = tupIterO tb.1 0 := ⟨_, ⟨rfl, rfl⟩, rfl⟩
    rw [← eoI] at N6'
    obtain ⟨j, ej⟩ : ∃ j : Nat, j = 0 := ⟨_, rfl⟩
    obtain ⟨ents, hents⟩ : ∃ ents, tb.2.drop j = ents := ⟨_, rfl⟩
    have hpj : pickT (i == 0) x ents = pickT (i == 0) x tb.2 := by rw [← hents, ej]; rfl
    replace hoI : TupIt oI tb.1 j := by rw [ej]; exact hoI
    have hjl : j ≤ tb.2.length := by omega
    clear eoI ej
    obtain ⟨ob, oc, eb, ec⟩ : ∃ ob oc, ob = o3 ∧ oc = o4 := ⟨_, _, rfl, rfl⟩
    rw [← eb, ← ec] at F6
    clear eb ec
    induction ents generalizing h6 tk oI j ob oc with
    | nil =>
      obtain rfl : j = (entRefs tb.2).size := by
        have : tb.2.length ≤ j := by simpa using hents
        have : (entRefs tb.2).size = tb.2.length := by unfold entRefs; simp
        omega
      refine codeAny_forTurn ?_
      refine kp_tend F6 N6' hoI hTb rfl off2 ?_
      intro h7 F7 N7
      dsimp only
      have hsz : vs.toArray.size ≤ sizeLine := by rw [List.size_toArray, hlen]; exact Nat.le_trans hil (Nat.le_of_ble_eq_true rfl)
      k_steps
      · rename (i : Int) = 0 => hi
        refine kp_append (rest := [(e, enumO it (↑i + 1) (Value.ref tb.1)), (it, oi3)]) F7 N7 (by k_mem) (List.forall_mem_cons.mpr ⟨⟨by k_mem, show PySem.Value.type "enumerate" ≠ PySem.Value.type "list" by decide⟩, List.forall_mem_cons.mpr ⟨⟨by k_mem, hoi3.1 ▸ (show PySem.Value.type "tuple_iterator" ≠ PySem.Value.type "list" by decide)⟩, List.forall_mem_nil _⟩⟩) hsz ?_
        intro h10 F10 N10
        dsimp only
        k_steps
        rename News g' L' _ _ => N11
        rename Fr g' L' _ _ => F11
        refine mode_end ob oc F11 N11 hvs (by rw [hlen]) ?_ ?_
        · rw [← hpj, beq0 hi]; rfl
        · rfl
      · rename (i : Int) ≠ 0 => hi
        refine kp_append (rest := [(e, enumO it (↑i + 1) (Value.ref tb.1)), (it, oi3)]) F7 N7 (by k_mem) (List.forall_mem_cons.mpr ⟨⟨by k_mem, show PySem.Value.type "enumerate" ≠ PySem.Value.type "list" by decide⟩, List.forall_mem_cons.mpr ⟨⟨by k_mem, hoi3.1 ▸ (show PySem.Value.type "tuple_iterator" ≠ PySem.Value.type "list" by decide)⟩, List.forall_mem_nil _⟩⟩) hsz ?_
        intro h10 F10 N10
        dsimp only
        k_steps
        rename News g' L' _ _ => N11
        rename Fr g' L' _ _ => F11
        refine mode_end ob oc F11 N11 hvs (by rw [hlen]) ?_ ?_
        · rw [← hpj, beq1 hi]; rfl
        · rfl
    | cons en ents ih =>
      have hmem : en ∈ tb.2 := List.mem_of_mem_drop (by rw [hents]; exact .head _)
      obtain ⟨hobj, hb0, hb1⟩ := hEs en hmem
      have hlt : j < tb.2.length := by
        refine Nat.lt_of_not_le fun z => ?_
        rw [List.drop_eq_nil_of_le z] at hents; cases hents
      have htj : tb.2[j]? = some en := by
        have := List.getElem?_drop (xs := tb.2) (i := j) (j := 0)
        rw [hents] at this; exact this.symm
      have hents' : tb.2.drop (j + 1) = ents := by
        rw [← List.drop_drop, hents]; rfl
      have hxj : (entRefs tb.2)[j]? = some (Value.ref en.a) := by
        unfold entRefs; rw [List.getElem?_toArray, List.getElem?_map, htj]; rfl
      refine codeAny_forTurn ?_
      refine kp_tnext F6 N6' hoI hTb hxj off2 ?_
      intro h7 oI7 hoI7 F7 N7
      dsimp only
      refine kp_tgo (N7 _ (.head _)).1 hoI7 ?_
      refine kp_tassign (items := #[.int en.b en.tb, .str (Str.ofString en.c) en.tc]) F7 N7 rfl ⟨_, F7.keep _ _ hobj, rfl, _, rfl⟩ rfl rfl ?_
      intro h8 F8 N8
      have hsz : vs.toArray.size ≤ sizeLine := by rw [List.size_toArray, hlen]; exact Nat.le_trans hil (Nat.le_of_ble_eq_true rfl)
      have miss : pickT (i == 0) x (en :: ents) = pickT (i == 0) x ents → pickT (i == 0) x ents = pickT (i == 0) x tb.2 := fun q => q ▸ hpj
      k_steps
      · rename (i : Int) = 0 => hi
        refine' con_use (mean := mean) (mg := mg) (mb := mb) (dp := dp + 1) (un := un + 3) (gd := gd) (cn := Str.ofString "filemode") (L := L') (a := 75) (ccd := .ref 74) (cl := []) (outer := envX cn cs L a ccd cl :: outer) (ct_ifmt x t h0 h1) B' ?F X' ?N T' (List.forall_mem_nil _) ?k ?d ?u ?_
        case F => k_asm
        case N => k_asm
        case k => rfl
        case d => omega
        case u => omega
        rintro _ tl h9 tk9 F9 N9 _ ⟨rfl, u9, rfl⟩
        rw [List.nil_append] at N9
        k_steps
        · rename Builtin.bitAnd x 61440 = en.b => hb
          refine kp_append (rest := [(e, enumO it (↑i + 1) (Value.ref tb.1)), (it, oi3)]) F9 N9 (by k_mem) (List.forall_mem_cons.mpr ⟨⟨by k_mem, show PySem.Value.type "enumerate" ≠ PySem.Value.type "list" by decide⟩, List.forall_mem_cons.mpr ⟨⟨by k_mem, hoi3.1 ▸ (show PySem.Value.type "tuple_iterator" ≠ PySem.Value.type "list" by decide)⟩, List.forall_mem_nil _⟩⟩) hsz ?_
          intro h10 F10 N10
          dsimp only
          k_steps
          rename News g' L' _ _ => N11
          rename Fr g' L' _ _ => F11
          show ModeEnd _ _ _ _ _ _ _ _ _
          refine mode_end (some (.int en.b en.tb)) (some (.str (Str.ofString en.c) en.tc)) F11 N11 hvs (by rw [hlen]) ?_ ?_
          · rw [← hpj, beq0 hi]; exact (pick_hit hb).symm
          · exact mode_map
        · rename Builtin.bitAnd x 61440 ≠ en.b => hb
          rename News g' L' _ _ => N11
          rename Fr g' L' _ _ => F11
          show codeAny _ _ _ _ _
          refine ih _ _ _ N11 (j + 1) hents' ?_ hoI7 hlt _ _ (fr_map F11 mode_map)
          rw [← hpj, beq0 hi]; exact (pick_miss hb).symm
      · rename (i : Int) ≠ 0 => hi
        rename Builtin.bitAnd x en.b = en.b => hb
        rename News g' L' _ _ => N9
        rename Fr g' L' _ _ => F9
        refine kp_append (rest := [(e, enumO it (↑i + 1) (Value.ref tb.1)), (it, oi3)]) F9 N9 (by k_mem) (List.forall_mem_cons.mpr ⟨⟨by k_mem, show PySem.Value.type "enumerate" ≠ PySem.Value.type "list" by decide⟩, List.forall_mem_cons.mpr ⟨⟨by k_mem, hoi3.1 ▸ (show PySem.Value.type "tuple_iterator" ≠ PySem.Value.type "list" by decide)⟩, List.forall_mem_nil _⟩⟩) hsz ?_
        intro h10 F10 N10
        dsimp only
        k_steps
        rename News g' L' _ _ => N11
        rename Fr g' L' _ _ => F11
        show ModeEnd _ _ _ _ _ _ _ _ _
        refine mode_end (some (.int en.b en.tb)) (some (.str (Str.ofString en.c) en.tc)) F11 N11 hvs (by rw [hlen]) ?_ ?_
        · rw [← hpj, beq1 hi]; exact (pick_hit hb).symm
        · exact mode_map
      · rename (i : Int) ≠ 0 => hi
        rename Builtin.bitAnd x en.b ≠ en.b => hb
        rename News g' L' _ _ => N11
        rename Fr g' L' _ _ => F11
        show codeAny _ _ _ _ _
        refine ih _ _ _ N11 (j + 1) hents' ?_ hoI7 hlt _ _ (fr_map F11 mode_map)
        rw [← hpj, beq1 hi]; exact (pick_miss hb).symm
end Mine
end
section
open PySem PySem.W PyProof.Rows
set_option Elab.async false
set_option maxRecDepth 100000
set_option maxHeartbeats 800000
namespace Mine
structure Stp where
  whos : List Int
  what : Int
  ahead : Str
  behind : Str
noncomputable def Stp.ok (s : Stp) : Prop := 0 ≤ s.what ∧ s.what < 19 ∧ (∀ w ∈ s.whos, 1 ≤ w ∧ w ≤ 7) ∧ s.whos.length ≤ 3 ∧ s.ahead.length ≤ 2 ∧ s.behind.length ≤ 2
noncomputable def Stp.dat (s : Stp) : Dat := .tuple [.list (s.whos.map .int), .int s.what, .str s.ahead, .str s.behind]
noncomputable def StepsIn (P : Led) (vs : List Value) (sts : List Stp) : Prop := DatAll P vs (sts.map Stp.dat)
noncomputable abbrev Tell := List Str × Str × Str
noncomputable def tellDat (d : Tell) : Dat := .tuple [.list (d.1.map .str), .str d.2.1, .str d.2.2]
noncomputable def TellsIn (P : Led) (vs : List Value) (ds : List Tell) : Prop := DatAll P vs (ds.map tellDat)
theorem ints_dat {P : Led} : ∀ {vs : List Value} {ns : List Int}, DatAll P vs (ns.map .int) → IntsAre vs ns
  | [], [], _ => .nil
  | v :: vs, n :: ns, .cons h r => by cases h with | int _ t => exact .cons n t (ints_dat r)
theorem dat_ints {P : Led} : ∀ {vs : List Value} {ns : List Int}, IntsAre vs ns → DatAll P vs (ns.map .int)
  | _, _, .nil => .nil
  | _, _, .cons n t r => .cons (.int n t) (dat_ints r)
theorem steps_at {P : Led} {vs : List Value} {sts : List Stp} (h : StepsIn P vs sts) {i : Nat} {st : Stp} (hi : sts[i]? = some st) :
    ∃ x l ns n k t1 t2 t3, vs[i]? = some (.ref x) ∧ IntsAre ns st.whos ∧ (x, ({ cls := .type "tuple", data := .seq #[.ref l, .int st.what t1, .str st.ahead t2, .str st.behind t3] k } : Obj)) ∈ P ∧ (l, PySem.W.listOf ns.toArray n) ∈ P := by
  obtain ⟨hl, rfl⟩ := List.getElem?_eq_some_iff.mp hi
  obtain ⟨v, e, d⟩ := DatAll.get h (k := i) (by rw [List.length_map]; exact hl)
  rw [List.getElem_map] at d
  cases d with
  | @tuple a us k _ hm al =>
    cases al with
    | cons d1 al =>
      cases al with
      | cons d2 al =>
        cases al with
        | cons d3 al =>
          cases al with
          | cons d4 al =>
            cases al with
            | nil =>
              cases d1 with
              | list hm1 al1 =>
                cases d2 with
                | int _ t1 =>
                  cases d3 with
                  | str _ t2 =>
                    cases d4 with
                    | str _ t3 => exact ⟨_, _, _, _, _, _, _, _, e, ints_dat al1, hm, hm1⟩
theorem StepsIn.len {P : Led} {vs : List Value} {sts : List Stp} (h : StepsIn P vs sts) : vs.length = sts.length := by
  have := DatAll.length h; rwa [List.length_map] at this
theorem StepsIn.mono {P P' : Led} {vs : List Value} {sts : List Stp} (h : StepsIn P vs sts) (k : ∀ p ∈ P, p ∈ P') : StepsIn P' vs sts := DatAll.mono k h
theorem TellsIn.mono {P P' : Led} {vs : List Value} {sts : List Tell} (h : TellsIn P vs sts) (k : ∀ p ∈ P, p ∈ P') : TellsIn P' vs sts := DatAll.mono k h
theorem TellsIn.snoc {P : Led} {vs : List Value} {ds : List Tell} (h : TellsIn P vs ds) {t q : Addr} {k n : Nat} {ws : List Value} {names : List Str} {a b : Str} {t1 t2 : Tok} (hm : (t, ({ cls := .type "tuple", data := .seq #[.ref q, .str a t1, .str b t2] k } : Obj)) ∈ P) (hq : (q, PySem.W.listOf ws.toArray n) ∈ P) (hs : StrsAre ws names) :
    TellsIn P (vs ++ [.ref t]) (ds ++ [(names, a, b)]) := by
  unfold TellsIn
  rw [List.map_append]
  exact DatAll.append h (.one (.tuple (vs := [.ref q, .str a t1, .str b t2]) hm (.cons (.list hq (dat_strs hs)) (.cons (.str a t1) (.cons (.str b t2) .nil)))))
/-- what `_law_due` tells -/
noncomputable def dueOf : List Stp → Str → List Tell
  | [], _ => []
  | s :: r, row => (s.whos.map wordOf, lastOf s.whos s.what, rowUpd row s.whos s.what) :: dueOf r (rowUpd row s.whos s.what)
/-- what `_law_run` tells -/
noncomputable def runOf : List (List Str × Str) → Int → List Tell
  | [], _ => []
  | (ns, r) :: l, m => (ns, r, rowOf (doneOf ns r m)) :: runOf l (doneOf ns r m)
end Mine
end
section
open PySem PySem.W PyProof.Rows
set_option Elab.async false
set_option maxRecDepth 100000
set_option maxHeartbeats 4000000
namespace Mine
/-! The plain law: the rows follow the modes. -/
noncomputable def kch (k : Nat) : Nat := ([63, 112, 99, 63, 100, 63, 98, 63, 45, 63, 108, 63, 115, 63, 63, 63] : List Nat).getD k 63
noncomputable def trip (b s lo hi : Nat) : List Nat := [if b / 4 = 1 then 114 else 45, if b / 2 % 2 = 1 then 119 else 45, if s = 1 then (if b % 2 = 1 then lo else hi) else if b % 2 = 1 then 120 else 45]
noncomputable def txt (l : List Nat) : Str := ⟨l.toArray⟩
noncomputable def rowF (k s2 s1 s0 u g o : Nat) : Str := txt (kch k :: (trip u s2 115 83 ++ (trip g s1 115 83 ++ trip o s0 116 84)))
section
variable {x k s2 s1 s0 u g o : Nat}
theorem bandm (F : Fields x k s2 s1 s0 u g o) (c : Nat) {k' s2' s1' s0' u' g' o' : Nat} (C : Fields c k' s2' s1' s0' u' g' o') :
    Builtin.bitAnd (x : Int) (c : Int) = (((k &&& k') * 4096 + (s2 &&& s2') * 2048 + (s1 &&& s1') * 1024 + (s0 &&& s0') * 512 + (u &&& u') * 64 + (g &&& g') * 8 + (o &&& o') : Nat) : Int) := by
  rw [band, mask F C]
theorem pick_kind (F : Fields x k s2 s1 s0 u g o) {l : List Ent} (he : (43, l) = modeTab.head (by decide)) : pickT true (x : Int) l = txt [kch k] := by
  have e : Builtin.bitAnd (x : Int) 61440 = ((k * 4096 : Nat) : Int) := by
    have := bandm F 61440 (k' := 15) (s2' := 0) (s1' := 0) (s0' := 0) (u' := 0) (g' := 0) (o' := 0) (by constructor <;> decide)
    rw [show (61440 : Int) = ((61440 : Nat) : Int) from rfl, this]
    simp only [Nat.and_zero, and15 _ F.hk, Nat.zero_mul, Nat.add_zero]
  cases he
  simp only [pickT, if_true, e]
  rcases lt16 F.hk with rfl | rfl | rfl | rfl | rfl | rfl | rfl | rfl | rfl | rfl | rfl | rfl | rfl | rfl | rfl | rfl <;> rfl
theorem pick_u (F : Fields x k s2 s1 s0 u g o) : [pickT false (x : Int) [⟨44, 256, 234, "r", 263⟩], pickT false (x : Int) [⟨46, 128, 236, "w", 264⟩], pickT false (x : Int) [⟨48, 2112, 265, "s", 266⟩, ⟨49, 2048, 226, "S", 267⟩, ⟨50, 64, 238, "x", 268⟩]] = (trip u s2 115 83).map fun c => txt [c] := by
  have e1 := bandm F 256 (k' := 0) (s2' := 0) (s1' := 0) (s0' := 0) (u' := 4) (g' := 0) (o' := 0) (by constructor <;> decide)
  have e2 := bandm F 128 (k' := 0) (s2' := 0) (s1' := 0) (s0' := 0) (u' := 2) (g' := 0) (o' := 0) (by constructor <;> decide)
  have e3 := bandm F 2112 (k' := 0) (s2' := 1) (s1' := 0) (s0' := 0) (u' := 1) (g' := 0) (o' := 0) (by constructor <;> decide)
  have e4 := bandm F 2048 (k' := 0) (s2' := 1) (s1' := 0) (s0' := 0) (u' := 0) (g' := 0) (o' := 0) (by constructor <;> decide)
  have e5 := bandm F 64 (k' := 0) (s2' := 0) (s1' := 0) (s0' := 0) (u' := 1) (g' := 0) (o' := 0) (by constructor <;> decide)
  simp only [Nat.and_zero, Nat.zero_mul, Nat.add_zero, Nat.zero_add] at e1 e2 e3 e4 e5
  simp only [show ((256 : Nat) : Int) = 256 from rfl, show ((128 : Nat) : Int) = 128 from rfl, show ((2112 : Nat) : Int) = 2112 from rfl, show ((2048 : Nat) : Int) = 2048 from rfl, show ((64 : Nat) : Int) = 64 from rfl] at e1 e2 e3 e4 e5
  simp only [pickT, Bool.false_eq_true, if_false, e1, e2, e3, e4, e5]
  rcases lt2 F.h2 with rfl | rfl <;> rcases lt8 F.hu with rfl | rfl | rfl | rfl | rfl | rfl | rfl | rfl <;> rfl
theorem pick_g (F : Fields x k s2 s1 s0 u g o) : [pickT false (x : Int) [⟨52, 32, 242, "r", 269⟩], pickT false (x : Int) [⟨54, 16, 244, "w", 270⟩], pickT false (x : Int) [⟨56, 1032, 271, "s", 272⟩, ⟨57, 1024, 228, "S", 273⟩, ⟨58, 8, 246, "x", 274⟩]] = (trip g s1 115 83).map fun c => txt [c] := by
  have e1 := bandm F 32 (k' := 0) (s2' := 0) (s1' := 0) (s0' := 0) (u' := 0) (g' := 4) (o' := 0) (by constructor <;> decide)
  have e2 := bandm F 16 (k' := 0) (s2' := 0) (s1' := 0) (s0' := 0) (u' := 0) (g' := 2) (o' := 0) (by constructor <;> decide)
  have e3 := bandm F 1032 (k' := 0) (s2' := 0) (s1' := 1) (s0' := 0) (u' := 0) (g' := 1) (o' := 0) (by constructor <;> decide)
  have e4 := bandm F 1024 (k' := 0) (s2' := 0) (s1' := 1) (s0' := 0) (u' := 0) (g' := 0) (o' := 0) (by constructor <;> decide)
  have e5 := bandm F 8 (k' := 0) (s2' := 0) (s1' := 0) (s0' := 0) (u' := 0) (g' := 1) (o' := 0) (by constructor <;> decide)
  simp only [Nat.and_zero, Nat.zero_mul, Nat.add_zero, Nat.zero_add] at e1 e2 e3 e4 e5
  simp only [show ((32 : Nat) : Int) = 32 from rfl, show ((16 : Nat) : Int) = 16 from rfl, show ((1032 : Nat) : Int) = 1032 from rfl, show ((1024 : Nat) : Int) = 1024 from rfl, show ((8 : Nat) : Int) = 8 from rfl] at e1 e2 e3 e4 e5
  simp only [pickT, Bool.false_eq_true, if_false, e1, e2, e3, e4, e5]
  rcases lt2 F.h1 with rfl | rfl <;> rcases lt8 F.hg with rfl | rfl | rfl | rfl | rfl | rfl | rfl | rfl <;> rfl
theorem pick_o (F : Fields x k s2 s1 s0 u g o) : [pickT false (x : Int) [⟨60, 4, 250, "r", 275⟩], pickT false (x : Int) [⟨62, 2, 252, "w", 276⟩], pickT false (x : Int) [⟨64, 513, 277, "t", 278⟩, ⟨65, 512, 230, "T", 279⟩, ⟨66, 1, 254, "x", 280⟩]] = (trip o s0 116 84).map fun c => txt [c] := by
  have e1 := bandm F 4 (k' := 0) (s2' := 0) (s1' := 0) (s0' := 0) (u' := 0) (g' := 0) (o' := 4) (by constructor <;> decide)
  have e2 := bandm F 2 (k' := 0) (s2' := 0) (s1' := 0) (s0' := 0) (u' := 0) (g' := 0) (o' := 2) (by constructor <;> decide)
  have e3 := bandm F 513 (k' := 0) (s2' := 0) (s1' := 0) (s0' := 1) (u' := 0) (g' := 0) (o' := 1) (by constructor <;> decide)
  have e4 := bandm F 512 (k' := 0) (s2' := 0) (s1' := 0) (s0' := 1) (u' := 0) (g' := 0) (o' := 0) (by constructor <;> decide)
  have e5 := bandm F 1 (k' := 0) (s2' := 0) (s1' := 0) (s0' := 0) (u' := 0) (g' := 0) (o' := 1) (by constructor <;> decide)
  simp only [Nat.and_zero, Nat.zero_mul, Nat.add_zero, Nat.zero_add] at e1 e2 e3 e4 e5
  simp only [show ((4 : Nat) : Int) = 4 from rfl, show ((2 : Nat) : Int) = 2 from rfl, show ((513 : Nat) : Int) = 513 from rfl, show ((512 : Nat) : Int) = 512 from rfl, show ((1 : Nat) : Int) = 1 from rfl] at e1 e2 e3 e4 e5
  simp only [pickT, Bool.false_eq_true, if_false, e1, e2, e3, e4, e5]
  rcases lt2 F.h0 with rfl | rfl <;> rcases lt8 F.ho with rfl | rfl | rfl | rfl | rfl | rfl | rfl | rfl <;> rfl
theorem row_fields (F : Fields x k s2 s1 s0 u g o) : rowOf (x : Int) = rowF k s2 s1 s0 u g o := by
  have ek := pick_kind F rfl
  have eu := pick_u F
  have eg := pick_g F
  have eo := pick_o F
  simp only [trip, List.map_cons, List.map_nil, List.cons.injEq, and_true] at eu eg eo
  obtain ⟨u1, u2, u3⟩ := eu
  obtain ⟨g1, g2, g3⟩ := eg
  obtain ⟨o1, o2, o3⟩ := eo
  unfold rowOf
  simp only [modeTab, picks, u1, u2, u3, g1, g2, g3, o1, o2, o3]
  rw [ek]
  rfl
end
end Mine
end
section
open PySem PySem.W PyProof.Rows
set_option Elab.async false
set_option maxRecDepth 100000
set_option maxHeartbeats 4000000
namespace Mine
section
variable {c0 c1 c2 c3 c4 c5 c6 c7 c8 c9 : Nat}
theorem slice_ten {l u : Option Int} (ix : List Nat) (h : PySem.Builtin.Str.strSliceIndices l u 1 10 = ix) (hn : ix.length ≠ 10) : Txt.slice (txt [c0, c1, c2, c3, c4, c5, c6, c7, c8, c9]) l u = ⟨(ix.filterMap (#[c0, c1, c2, c3, c4, c5, c6, c7, c8, c9][·]?)).toArray⟩ := by
  unfold Txt.slice
  rw [show (txt [c0, c1, c2, c3, c4, c5, c6, c7, c8, c9]).length = 10 from rfl, h, if_neg (by simpa using hn)]
  rfl
theorem sl_a : Txt.slice (txt [c0, c1, c2, c3, c4, c5, c6, c7, c8, c9]) (some 1) (some 4) = txt [c1, c2, c3] := slice_ten [1, 2, 3] (by decide) (by decide)
theorem sl_b : Txt.slice (txt [c0, c1, c2, c3, c4, c5, c6, c7, c8, c9]) (some 4) (some 7) = txt [c4, c5, c6] := slice_ten [4, 5, 6] (by decide) (by decide)
theorem sl_c : Txt.slice (txt [c0, c1, c2, c3, c4, c5, c6, c7, c8, c9]) (some 7) none = txt [c7, c8, c9] := slice_ten [7, 8, 9] (by decide) (by decide)
theorem sl_d : Txt.slice (txt [c0, c1, c2, c3, c4, c5, c6, c7, c8, c9]) (some 1) none = txt [c1, c2, c3, c4, c5, c6, c7, c8, c9] := slice_ten [1, 2, 3, 4, 5, 6, 7, 8, 9] (by decide) (by decide)
theorem it_0 : Txt.item (txt [c0, c1, c2, c3, c4, c5, c6, c7, c8, c9]) 0 = txt [c0] := rfl
theorem app_txt {a b : List Nat} : txt a ++ txt b = txt (a ++ b) := by
  apply PySem.Str.ext'
  rw [PySem.Str.cps_append]
  simp [txt]
theorem jn3 {a b c : List Nat} : Txt.join (Str.ofString "") [txt a, txt b, txt c] = txt (a ++ (b ++ c)) := by
  show Builtin.Str.glued _ _ = _
  rw [StrLaws.glued_eq_join]
  show txt a ++ txt [] ++ (txt b ++ txt [] ++ txt c) = _
  simp only [app_txt, List.append_nil]
theorem str_txt (s : Str) : s = txt s.cps.toList := by cases s; rfl
theorem ten {s : Str} (h : s.length = 10) : ∃ c0 c1 c2 c3 c4 c5 c6 c7 c8 c9, s = txt [c0, c1, c2, c3, c4, c5, c6, c7, c8, c9] := by
  obtain ⟨⟨l⟩⟩ := s
  match l, h with
  | [c0, c1, c2, c3, c4, c5, c6, c7, c8, c9], _ => exact ⟨c0, c1, c2, c3, c4, c5, c6, c7, c8, c9, rfl⟩
end
theorem one_txt {s : Str} (h : s.length = 1) : ∃ c, s = txt [c] := by
  obtain ⟨⟨l⟩⟩ := s
  match l, h with
  | [c], _ => exact ⟨c, rfl⟩
theorem rd_len (row : Str) (what : Int) : (rdOf row what).length = 1 := by
  unfold rdOf
  split
  · exact len_item _ _
  · split <;> rfl
theorem wr_len (row : Str) (what : Int) : (wrOf row what).length = 1 := by
  unfold wrOf
  split
  · exact len_item _ _
  · split <;> rfl
theorem part_txt {whos : List Int} {rd wr : Str} {la : Int} {k : Nat} {a b c : Nat} {new : List Nat} (h : rd ++ wr ++ Txt.item (if k = 2 then Str.ofString "-xTt" else Str.ofString "-xSs") la = txt new) :
    partOf whos rd wr la k (txt [a, b, c]) = txt (if whos.filter (fun who => (who.fdiv ([1, 2, 4].getD k 0)).fmod 2 == 1) = [] then [a, b, c] else new) := by
  unfold partOf
  split
  · rfl
  · exact h
theorem rowUpd_len {row : Str} {whos : List Int} {what : Int} (h : row.length = 10) : (rowUpd row whos what).length = 10 := by
  obtain ⟨c0, c1, c2, c3, c4, c5, c6, c7, c8, c9, rfl⟩ := ten h
  obtain ⟨r, hr⟩ := one_txt (rd_len (txt [c0, c1, c2, c3, c4, c5, c6, c7, c8, c9]) what)
  obtain ⟨w, hw⟩ := one_txt (wr_len (txt [c0, c1, c2, c3, c4, c5, c6, c7, c8, c9]) what)
  unfold rowUpd
  split
  · rw [sl_d, PySem.Str.length_append, len_item]; rfl
  · generalize laOf _ what = la
    obtain ⟨s, hs⟩ := one_txt (len_item (Str.ofString "-xSs") la)
    obtain ⟨t, ht⟩ := one_txt (len_item (Str.ofString "-xTt") la)
    rw [hr, hw, sl_a, sl_b, sl_c, it_0, part_txt (k := 0) (new := [r, w, s]) (by rw [if_neg (by decide), hs]; exact (congrArg (· ++ _) app_txt).trans app_txt), part_txt (k := 1) (new := [r, w, s]) (by rw [if_neg (by decide), hs]; exact (congrArg (· ++ _) app_txt).trans app_txt),
      part_txt (k := 2) (new := [r, w, t]) (by rw [if_pos rfl, ht]; exact (congrArg (· ++ _) app_txt).trans app_txt), jn3, app_txt]
    show ([c0] ++ _).length = 10
    simp only [List.length_append]
    (repeat' split) <;> rfl
end Mine
end
section
open PySem PySem.W PyProof.Rows
set_option Elab.async false
set_option maxRecDepth 100000
set_option maxHeartbeats 4000000
namespace Mine
theorem mem_join {c : Nat} : ∀ (l : List Str), c ∈ (Txt.join (Str.ofString "") l).cps.toList ↔ ∃ y ∈ l, c ∈ y.cps.toList := by
  intro l
  show c ∈ (Builtin.Str.glued _ l).cps.toList ↔ _
  rw [StrLaws.glued_eq_join]
  induction l with
  | nil => simp [PySem.Str.join]; decide +revert
  | cons a r ih =>
    cases r with
    | nil => simp [PySem.Str.join]
    | cons b r =>
      rw [show PySem.Str.join (Str.ofString "") (a :: b :: r) = a ++ Str.ofString "" ++ PySem.Str.join (Str.ofString "") (b :: r) from rfl, PySem.Str.cps_append, PySem.Str.cps_append, Array.toList_append, Array.toList_append, List.mem_append, List.mem_append, ih]
      constructor
      · rintro ((h | h) | ⟨y, hy, h⟩)
        · exact ⟨a, .head _, h⟩
        · exact absurd (show c ∈ ([] : List Nat) from h) (by simp)
        · exact ⟨y, .tail _ hy, h⟩
      · rintro ⟨y, hy, h⟩
        rcases List.mem_cons.mp hy with rfl | hy
        · exact .inl (.inl h)
        · exact .inr ⟨y, hy, h⟩
/-- the letters of a word -/
theorem word_letters {w : Int} (h1 : 1 ≤ w) (h2 : w ≤ 7) : (∀ c ∈ (wordOf w).cps.toList, c = 117 ∨ c = 103 ∨ c = 111) ∧ (117 ∈ (wordOf w).cps.toList ↔ (w.fdiv 1).fmod 2 = 1) ∧ (103 ∈ (wordOf w).cps.toList ↔ (w.fdiv 2).fmod 2 = 1) ∧ (111 ∈ (wordOf w).cps.toList ↔ (w.fdiv 4).fmod 2 = 1) := by
  have := int7 h1 h2
  rcases this with rfl | rfl | rfl | rfl | rfl | rfl | rfl <;> decide +kernel
theorem fold_fields (b : Nat) (hb : b < 16) : ∀ (ls : List Nat), (∀ c ∈ ls, c = 117 ∨ c = 103 ∨ c = 111) → ∀ {m k s2 s1 s0 u g o : Nat}, Fields m k s2 s1 s0 u g o →
    ∃ m' : Nat, ls.foldl (fun md c => stepM c (b : Int) md) (m : Int) = (m' : Int) ∧ Fields m' k (if 117 ∈ ls then b / 8 else s2) (if 103 ∈ ls then b / 8 else s1) (if 111 ∈ ls then b / 8 else s0) (if 117 ∈ ls then b % 8 else u) (if 103 ∈ ls then b % 8 else g) (if 111 ∈ ls then b % 8 else o) := by
  intro ls
  induction ls with
  | nil => intro _ m k s2 s1 s0 u g o F; exact ⟨m, rfl, by simpa using F⟩
  | cons c ls ih =>
    intro hl m k s2 s1 s0 u g o F
    obtain ⟨m1, e1, F1⟩ := stepM_nat F c b hb
    obtain ⟨m2, e2, F2⟩ := ih (fun d hd => hl d (.tail _ hd)) F1
    refine ⟨m2, by rw [List.foldl_cons, e1, e2], ?_⟩
    rcases hl c (.head _) with rfl | rfl | rfl
    · simpa only [if_true, true_or, show ¬ (117 : Nat) = 103 by decide, if_false, List.mem_cons, show ¬ (103 : Nat) = 117 by decide, show ¬ (111 : Nat) = 117 by decide, false_or, ite_self] using F2
    · simpa only [if_true, or_true, show ¬ (103 : Nat) = 117 by decide, if_false, List.mem_cons, show ¬ (117 : Nat) = 103 by decide, show ¬ (111 : Nat) = 103 by decide, false_or, true_or, ite_self] using F2
    · simpa only [if_true, or_self, show ¬ (111 : Nat) = 117 by decide, show ¬ (111 : Nat) = 103 by decide, if_false, List.mem_cons, show ¬ (117 : Nat) = 111 by decide, show ¬ (103 : Nat) = 111 by decide, false_or, true_or, ite_self] using F2
theorem what16 {what : Int} (h0 : 0 ≤ what) (h1 : what < 16) : what = 0 ∨ what = 1 ∨ what = 2 ∨ what = 3 ∨ what = 4 ∨ what = 5 ∨ what = 6 ∨ what = 7 ∨ what = 8 ∨ what = 9 ∨ what = 10 ∨ what = 11 ∨ what = 12 ∨ what = 13 ∨ what = 14 ∨ what = 15 := int16 h0 h1
theorem bits_sum {word : Str} {x : Int} (h1 : word ≠ Str.ofString "u") (h2 : word ≠ Str.ofString "g") (h3 : word ≠ Str.ofString "o") : bitsOf word x = (word.cps.toList.map bitVal).sum := by
  rw [bitsOf, if_neg h1, if_neg h2, if_neg h3]
noncomputable def bW (what : Int) : Nat := 4 * (what.toNat % 2) + 2 * (what.toNat / 2 % 2) + what.toNat / 4 % 2 + 8 * (what.toNat / 8 % 2)
theorem bits_what {whos : List Int} {what x : Int} (hw : whos ≠ []) (h0 : 0 ≤ what) (h1 : what < 16) : bitsOf (lastOf whos what) x = (bW what : Int) ∧ bW what < 16 := by
  rcases what16 h0 h1 with rfl | rfl | rfl | rfl | rfl | rfl | rfl | rfl | rfl | rfl | rfl | rfl | rfl | rfl | rfl | rfl <;>
  · rw [lastOf, if_neg hw, if_neg (by decide)]
    refine ⟨?_, by decide⟩
    rw [bits_sum (by decide +kernel) (by decide +kernel) (by decide +kernel)]
    decide +kernel
/-- what a step writes into a class' three signs -/
theorem new_small {row : Str} {what : Int} (h0 : 0 ≤ what) (h1 : what < 16) : rdOf row what ++ wrOf row what ++ Txt.item (Str.ofString "-xSs") (laOf row what) = txt (trip (bW what % 8) (bW what / 8) 115 83) ∧
    rdOf row what ++ wrOf row what ++ Txt.item (Str.ofString "-xTt") (laOf row what) = txt (trip (bW what % 8) (bW what / 8) 116 84) := by
  have e1 : rdOf row what = if what.fmod 2 = 1 then Str.ofString "r" else Str.ofString "-" := by rw [rdOf, if_neg (by omega)]
  have e2 : wrOf row what = if (what.fdiv 2).fmod 2 = 1 then Str.ofString "w" else Str.ofString "-" := by rw [wrOf, if_neg (by omega)]
  have e3 : laOf row what = what.fdiv 4 := by rw [laOf, if_neg (by omega)]
  rw [e1, e2, e3]
  rcases what16 h0 h1 with rfl | rfl | rfl | rfl | rfl | rfl | rfl | rfl | rfl | rfl | rfl | rfl | rfl | rfl | rfl | rfl <;> decide +kernel
end Mine
end
section
open PySem PySem.W PyProof.Rows
set_option Elab.async false
set_option maxRecDepth 100000
set_option maxHeartbeats 4000000
namespace Mine
noncomputable def la3 (c : Nat) : Int := if (Builtin.Str.occurrences (Str.ofString "xst") (txt [c]) 0 (Str.ofString "xst").length 1).isEmpty = true then 0 else 1
theorem cp {b s lo hi : Nat} (hb : b < 8) (hs : s < 2) (h : (lo = 115 ∧ hi = 83) ∨ (lo = 116 ∧ hi = 84)) :
    txt [if b / 4 = 1 then 114 else 45] ++ txt [if b / 2 % 2 = 1 then 119 else 45] ++ Txt.item (Str.ofString "-xSs") (la3 (if s = 1 then (if b % 2 = 1 then lo else hi) else if b % 2 = 1 then 120 else 45)) = txt (trip (b % 8) (b / 8) 115 83) ∧
    txt [if b / 4 = 1 then 114 else 45] ++ txt [if b / 2 % 2 = 1 then 119 else 45] ++ Txt.item (Str.ofString "-xTt") (la3 (if s = 1 then (if b % 2 = 1 then lo else hi) else if b % 2 = 1 then 120 else 45)) = txt (trip (b % 8) (b / 8) 116 84) := by
  rcases h with ⟨rfl, rfl⟩ | ⟨rfl, rfl⟩ <;> rcases lt2 hs with rfl | rfl <;> rcases lt8 hb with rfl | rfl | rfl | rfl | rfl | rfl | rfl | rfl <;> decide +kernel
theorem copies {c0 c1 c2 c3 c4 c5 c6 c7 c8 c9 : Nat} :
    (rdOf (txt [c0, c1, c2, c3, c4, c5, c6, c7, c8, c9]) 16 = txt [c1] ∧ wrOf (txt [c0, c1, c2, c3, c4, c5, c6, c7, c8, c9]) 16 = txt [c2] ∧ laOf (txt [c0, c1, c2, c3, c4, c5, c6, c7, c8, c9]) 16 = la3 c3) ∧
    (rdOf (txt [c0, c1, c2, c3, c4, c5, c6, c7, c8, c9]) 17 = txt [c4] ∧ wrOf (txt [c0, c1, c2, c3, c4, c5, c6, c7, c8, c9]) 17 = txt [c5] ∧ laOf (txt [c0, c1, c2, c3, c4, c5, c6, c7, c8, c9]) 17 = la3 c6) ∧
    (rdOf (txt [c0, c1, c2, c3, c4, c5, c6, c7, c8, c9]) 18 = txt [c7] ∧ wrOf (txt [c0, c1, c2, c3, c4, c5, c6, c7, c8, c9]) 18 = txt [c8] ∧ laOf (txt [c0, c1, c2, c3, c4, c5, c6, c7, c8, c9]) 18 = la3 c9) :=
  ⟨⟨rfl, rfl, rfl⟩, ⟨rfl, rfl, rfl⟩, ⟨rfl, rfl, rfl⟩⟩
/-- the bits of a step, and what it writes -/
theorem new_all {m k s2 s1 s0 u g o : Nat} (F : Fields m k s2 s1 s0 u g o) {whos : List Int} {what : Int} (hw : whos ≠ []) (h0 : 0 ≤ what) (h1 : what < 19) :
    ∃ b : Nat, b < 16 ∧ bitsOf (lastOf whos what) (m : Int) = (b : Int) ∧
      rdOf (rowF k s2 s1 s0 u g o) what ++ wrOf (rowF k s2 s1 s0 u g o) what ++ Txt.item (Str.ofString "-xSs") (laOf (rowF k s2 s1 s0 u g o) what) = txt (trip (b % 8) (b / 8) 115 83) ∧
      rdOf (rowF k s2 s1 s0 u g o) what ++ wrOf (rowF k s2 s1 s0 u g o) what ++ Txt.item (Str.ofString "-xTt") (laOf (rowF k s2 s1 s0 u g o) what) = txt (trip (b % 8) (b / 8) 116 84) := by
  by_cases hs : what < 16
  · exact ⟨bW what, (bits_what (x := (m : Int)) hw h0 hs).2, (bits_what hw h0 hs).1, new_small h0 hs⟩
  · obtain ⟨e1, e2, e3⟩ := bits_cls F
    have : what = 16 ∨ what = 17 ∨ what = 18 := by omega
    rcases this with rfl | rfl | rfl
    · refine ⟨u, Nat.lt_of_lt_of_le F.hu (by decide), ?_, ?_⟩
      · rw [show lastOf whos 16 = Str.ofString "u" by rw [lastOf, if_neg hw]; decide +kernel]; exact e1
      · obtain ⟨⟨a1, a2, a3⟩, _, _⟩ := @copies (kch k) (if u / 4 = 1 then 114 else 45) (if u / 2 % 2 = 1 then 119 else 45) (if s2 = 1 then (if u % 2 = 1 then 115 else 83) else if u % 2 = 1 then 120 else 45) (if g / 4 = 1 then 114 else 45) (if g / 2 % 2 = 1 then 119 else 45) (if s1 = 1 then (if g % 2 = 1 then 115 else 83) else if g % 2 = 1 then 120 else 45) (if o / 4 = 1 then 114 else 45) (if o / 2 % 2 = 1 then 119 else 45) (if s0 = 1 then (if o % 2 = 1 then 116 else 84) else if o % 2 = 1 then 120 else 45)
        have e : rowF k s2 s1 s0 u g o = txt [_, _, _, _, _, _, _, _, _, _] := rfl
        rw [e, a1, a2, a3]
        exact cp F.hu F.h2 (.inl ⟨rfl, rfl⟩)
    · refine ⟨g, Nat.lt_of_lt_of_le F.hg (by decide), ?_, ?_⟩
      · rw [show lastOf whos 17 = Str.ofString "g" by rw [lastOf, if_neg hw]; decide +kernel]; exact e2
      · obtain ⟨_, ⟨a1, a2, a3⟩, _⟩ := @copies (kch k) (if u / 4 = 1 then 114 else 45) (if u / 2 % 2 = 1 then 119 else 45) (if s2 = 1 then (if u % 2 = 1 then 115 else 83) else if u % 2 = 1 then 120 else 45) (if g / 4 = 1 then 114 else 45) (if g / 2 % 2 = 1 then 119 else 45) (if s1 = 1 then (if g % 2 = 1 then 115 else 83) else if g % 2 = 1 then 120 else 45) (if o / 4 = 1 then 114 else 45) (if o / 2 % 2 = 1 then 119 else 45) (if s0 = 1 then (if o % 2 = 1 then 116 else 84) else if o % 2 = 1 then 120 else 45)
        have e : rowF k s2 s1 s0 u g o = txt [_, _, _, _, _, _, _, _, _, _] := rfl
        rw [e, a1, a2, a3]
        exact cp F.hg F.h1 (.inl ⟨rfl, rfl⟩)
    · refine ⟨o, Nat.lt_of_lt_of_le F.ho (by decide), ?_, ?_⟩
      · rw [show lastOf whos 18 = Str.ofString "o" by rw [lastOf, if_neg hw]; decide +kernel]; exact e3
      · obtain ⟨_, _, ⟨a1, a2, a3⟩⟩ := @copies (kch k) (if u / 4 = 1 then 114 else 45) (if u / 2 % 2 = 1 then 119 else 45) (if s2 = 1 then (if u % 2 = 1 then 115 else 83) else if u % 2 = 1 then 120 else 45) (if g / 4 = 1 then 114 else 45) (if g / 2 % 2 = 1 then 119 else 45) (if s1 = 1 then (if g % 2 = 1 then 115 else 83) else if g % 2 = 1 then 120 else 45) (if o / 4 = 1 then 114 else 45) (if o / 2 % 2 = 1 then 119 else 45) (if s0 = 1 then (if o % 2 = 1 then 116 else 84) else if o % 2 = 1 then 120 else 45)
        have e : rowF k s2 s1 s0 u g o = txt [_, _, _, _, _, _, _, _, _, _] := rfl
        rw [e, a1, a2, a3]
        exact cp F.ho F.h0 (.inr ⟨rfl, rfl⟩)
/-- no word names a class: nothing is written there -/
theorem none_iff {whos : List Int} (hw : ∀ w ∈ whos, 1 ≤ w ∧ w ≤ 7) {c : Nat} {d : Int} (hc : ∀ w, 1 ≤ w → w ≤ 7 → (c ∈ (wordOf w).cps.toList ↔ (w.fdiv d).fmod 2 = 1)) :
    whos.filter (fun who => (who.fdiv d).fmod 2 == 1) = [] ↔ ¬ c ∈ (Txt.join (Str.ofString "") (whos.map wordOf)).cps.toList := by
  rw [mem_join, List.filter_eq_nil_iff]
  constructor
  · rintro h ⟨y, hy, q⟩
    obtain ⟨w, hm, rfl⟩ := List.mem_map.mp hy
    exact h w hm (by simpa using (hc w (hw w hm).1 (hw w hm).2).mp q)
  · intro h w hm q
    exact h ⟨_, List.mem_map.mpr ⟨w, hm, rfl⟩, (hc w (hw w hm).1 (hw w hm).2).mpr (by simpa using q)⟩
theorem join_letters {whos : List Int} (hw : ∀ w ∈ whos, 1 ≤ w ∧ w ≤ 7) : ∀ c ∈ (Txt.join (Str.ofString "") (whos.map wordOf)).cps.toList, c = 117 ∨ c = 103 ∨ c = 111 := fun c h => by
  obtain ⟨y, hy, q⟩ := (mem_join _).mp h
  obtain ⟨w, hm, rfl⟩ := List.mem_map.mp hy
  exact (word_letters (hw w hm).1 (hw w hm).2).1 c q
/-- a step with words: the row and the mode -/
theorem upd_words {m k s2 s1 s0 u g o : Nat} (F : Fields m k s2 s1 s0 u g o) {whos : List Int} {what : Int} (hn : whos ≠ []) (h0 : 0 ≤ what) (h1 : what < 19) (hw : ∀ w ∈ whos, 1 ≤ w ∧ w ≤ 7) :
    ∃ m' : Nat, doneOf (whos.map wordOf) (lastOf whos what) (m : Int) = (m' : Int) ∧ m' < 65536 ∧ rowUpd (rowOf (m : Int)) whos what = rowOf (m' : Int) := by
  obtain ⟨b, hb, eb, n1, n2⟩ := new_all F hn h0 h1
  obtain ⟨m', e, F'⟩ := fold_fields b hb _ (join_letters hw) F
  refine ⟨m', ?_, F'.lt, ?_⟩
  · rw [doneOf, if_neg (by simpa using hn), doneFold, eb]; exact e
  · have cu := none_iff hw (c := 117) (d := 1) fun w a b => (word_letters a b).2.1
    have cg := none_iff hw (c := 103) (d := 2) fun w a b => (word_letters a b).2.2.1
    have co := none_iff hw (c := 111) (d := 4) fun w a b => (word_letters a b).2.2.2
    rw [row_fields F, row_fields F']
    generalize (Txt.join (Str.ofString "") (whos.map wordOf)).cps.toList = ls at cu cg co F'
    have e : rowF k s2 s1 s0 u g o = txt [_, _, _, _, _, _, _, _, _, _] := rfl
    rw [rowUpd, if_neg hn]
    rw [show Txt.slice (rowF k s2 s1 s0 u g o) (some 1) (some 4) = txt (trip u s2 115 83) from sl_a, show Txt.slice (rowF k s2 s1 s0 u g o) (some 4) (some 7) = txt (trip g s1 115 83) from sl_b, show Txt.slice (rowF k s2 s1 s0 u g o) (some 7) none = txt (trip o s0 116 84) from sl_c, show Txt.item (rowF k s2 s1 s0 u g o) 0 = txt [kch k] from it_0]
    rw [show partOf whos _ _ _ 0 (txt (trip u s2 115 83)) = _ from part_txt (k := 0) (new := trip (b % 8) (b / 8) 115 83) n1, show partOf whos _ _ _ 1 (txt (trip g s1 115 83)) = _ from part_txt (k := 1) (new := trip (b % 8) (b / 8) 115 83) n1, show partOf whos _ _ _ 2 (txt (trip o s0 116 84)) = _ from part_txt (k := 2) (new := trip (b % 8) (b / 8) 116 84) n2]
    rw [jn3, app_txt]
    simp only [show ([1, 2, 4] : List Int).getD 0 0 = 1 from rfl, show ([1, 2, 4] : List Int).getD 1 0 = 2 from rfl, show ([1, 2, 4] : List Int).getD 2 0 = 4 from rfl, cu, cg, co]
    by_cases q1 : 117 ∈ ls <;> by_cases q2 : 103 ∈ ls <;> by_cases q3 : 111 ∈ ls <;> simp only [q1, q2, q3, not_true_eq_false, not_false_eq_true, if_true, if_false] <;> rfl
end Mine
end
section
open PySem PySem.W PyProof.Rows
set_option Elab.async false
set_option maxRecDepth 100000
set_option maxHeartbeats 4000000
namespace Mine
theorem kind_of {j : Int} (h0 : 0 ≤ j) (h1 : j < 16) : kindVal (Txt.item (Str.ofString "0pc3d5b7-9lBsDEF") j) = ((j.toNat * 4096 : Nat) : Int) ∧ Txt.item (Str.ofString "?pc?d?b?-?l?s???") j = txt [kch j.toNat] ∧ Txt.item (Str.ofString "0pc3d5b7-9lBsDEF") j ∈ kindSigns := by
  rcases what16 h0 h1 with rfl | rfl | rfl | rfl | rfl | rfl | rfl | rfl | rfl | rfl | rfl | rfl | rfl | rfl | rfl | rfl <;> decide +kernel
/-- a step without words: the row and the mode -/
theorem upd_kind {m k s2 s1 s0 u g o : Nat} (F : Fields m k s2 s1 s0 u g o) {what : Int} :
    ∃ m' : Nat, doneOf [] (lastOf [] what) (m : Int) = (m' : Int) ∧ m' < 65536 ∧ rowUpd (rowOf (m : Int)) [] what = rowOf (m' : Int) := by
  have hj0 : 0 ≤ what.fmod 16 := by rw [Int.fmod_eq_emod_of_nonneg _ (by decide)]; omega
  have hj1 : what.fmod 16 < 16 := by rw [Int.fmod_eq_emod_of_nonneg _ (by decide)]; omega
  obtain ⟨e1, e2, _⟩ := kind_of hj0 hj1
  have hjn : (what.fmod 16).toNat < 16 := by omega
  have ea : Builtin.bitAnd (m : Int) 4095 = ((s2 * 2048 + s1 * 1024 + s0 * 512 + u * 64 + g * 8 + o : Nat) : Int) := by
    have := bandm F 4095 (k' := 0) (s2' := 1) (s1' := 1) (s0' := 1) (u' := 7) (g' := 7) (o' := 7) (by constructor <;> decide)
    rw [show (4095 : Int) = ((4095 : Nat) : Int) from rfl, this]
    simp only [Nat.and_zero, and1 _ F.h2, and1 _ F.h1, and1 _ F.h0, and7 _ F.hu, and7 _ F.hg, and7 _ F.ho, Nat.zero_mul, Nat.zero_add]
  have F' : Fields ((what.fmod 16).toNat * 4096 + (s2 * 2048 + s1 * 1024 + s0 * 512 + u * 64 + g * 8 + o)) (what.fmod 16).toNat s2 s1 s0 u g o := by
    obtain ⟨_, a, b, c, d, p, q, r⟩ := F
    constructor <;> omega
  have FL : Fields (s2 * 2048 + s1 * 1024 + s0 * 512 + u * 64 + g * 8 + o) 0 s2 s1 s0 u g o := by
    obtain ⟨_, a, b, c, d, p, q, r⟩ := F
    constructor <;> omega
  have FJ : Fields ((what.fmod 16).toNat * 4096) (what.fmod 16).toNat 0 0 0 0 0 0 := by
    constructor <;> omega
  refine ⟨_, ?_, F'.lt, ?_⟩
  · rw [doneOf, if_pos rfl, show lastOf [] what = Txt.item (Str.ofString "0pc3d5b7-9lBsDEF") (what.fmod 16) from if_pos rfl, e1, ea, bitOr_and, bandm FL ((what.fmod 16).toNat * 4096) FJ]
    simp only [Nat.and_zero, Nat.zero_and, Nat.zero_mul, Nat.zero_add]
    omega
  · rw [row_fields F, row_fields F', rowUpd, if_pos rfl, e2]
    rw [show Txt.slice (rowF k s2 s1 s0 u g o) (some 1) none = txt (trip u s2 115 83 ++ (trip g s1 115 83 ++ trip o s0 116 84)) from sl_d, app_txt]
    rfl
/-- one step, row and mode -/
theorem upd_step {m : Int} {st : Stp} (h : st.ok) (h0 : 0 ≤ m) (h1 : m < 65536) : rowUpd (rowOf m) st.whos st.what = rowOf (doneOf (st.whos.map wordOf) (lastOf st.whos st.what) m) ∧ 0 ≤ doneOf (st.whos.map wordOf) (lastOf st.whos st.what) m ∧ doneOf (st.whos.map wordOf) (lastOf st.whos st.what) m < 65536 := by
  obtain ⟨a, b, c, d, _, _⟩ := h
  obtain ⟨k, s2, s1, s0, u, g, o, F⟩ := fields_of m.toNat (by omega)
  have em : ((m.toNat : Nat) : Int) = m := by omega
  by_cases hn : st.whos = []
  · obtain ⟨m', e, l, r⟩ := upd_kind F (what := st.what)
    rw [em] at e r
    rw [hn, List.map_nil, e]
    exact ⟨r, by omega, by omega⟩
  · obtain ⟨m', e, l, r⟩ := upd_words F hn a b c
    rw [em] at e r
    rw [e]
    exact ⟨r, by omega, by omega⟩
/-- what a line is read as -/
noncomputable def Stp.read (s : Stp) : List Str × Str := (s.whos.map wordOf, lastOf s.whos s.what)
theorem due_run : ∀ (sts : List Stp) {m : Int}, (∀ s ∈ sts, s.ok) → 0 ≤ m → m < 65536 → dueOf sts (rowOf m) = runOf (sts.map Stp.read) m
  | [], _, _, _, _ => rfl
  | st :: sts, m, h, h0, h1 => by
    obtain ⟨e, a, b⟩ := upd_step (h st (.head _)) h0 h1
    rw [dueOf, e, due_run sts (fun s hs => h s (.tail _ hs)) a b]
    rfl
theorem row_start : rowOf 33152 = Str.ofString "-rw-------" := by decide +kernel
end Mine
end
section
open PySem PySem.W PyProof.Rows
set_option Elab.async false
set_option maxRecDepth 100000
set_option maxHeartbeats 4000000
namespace Mine
/-! A line is read back: the words, and the rest. -/
noncomputable abbrev SpL (l : List Nat) : Prop := ∀ c ∈ l, Unicode.isSpace c = true
/-- no sign to strip at either end -/
noncomputable def Tight (z : List Nat) : Prop := z = [] ∨ ((∃ a r, z = a :: r ∧ Unicode.isSpace a = false) ∧ ∃ r b, z = r ++ [b] ∧ Unicode.isSpace b = false)
theorem tw_all {f : Nat → Bool} {q : List Nat} (h : ∀ c ∈ q, f c = true) : q.takeWhile f = q := by
  have := List.takeWhile_append_of_pos (l₂ := []) h
  simpa using this
theorem tw_mem {f : Nat → Bool} : ∀ {l : List Nat} {c : Nat}, c ∈ l.takeWhile f → f c = true
  | [], _, h => nomatch h
  | a :: r, c, h => by
    rw [List.takeWhile_cons] at h
    by_cases ha : f a = true
    · rw [if_pos ha] at h
      rcases List.mem_cons.mp h with rfl | h
      · exact ha
      · exact tw_mem h
    · rw [if_neg ha] at h; cases h
theorem strip_core {p z q : List Nat} (hp : SpL p) (hq : SpL q) (hz : Tight z) : Txt.strip (txt (p ++ (z ++ q))) = txt z := by
  show Txt.stripBy Unicode.isSpace true true _ = _
  rw [W.stripBy_eq]
  have hl : (txt (p ++ (z ++ q))).length = p.length + (z.length + q.length) := by
    show (p ++ (z ++ q)).toArray.size = _
    simp
  unfold W.stripped
  simp only [if_true]
  rw [hl, show (txt (p ++ (z ++ q))).cps.toList = p ++ (z ++ q) from rfl]
  rcases hz with rfl | ⟨⟨a, r, rfl, ha⟩, r', b, e, hb⟩
  · have e1 : (p ++ ([] ++ q)).takeWhile Unicode.isSpace = p ++ q := by
      rw [List.nil_append, List.takeWhile_append_of_pos hp]
      rw [tw_all hq]
    rw [e1, List.length_append]
    have e2 : (p ++ ([] ++ q)).drop (p.length + q.length) = [] := List.drop_eq_nil_of_le (by simp)
    rw [e2]
    apply PySem.Str.ext'
    show ((p ++ ([] ++ q)).toArray.extract _ _) = #[]
    simp
  · have e1 : (p ++ (a :: r ++ q)).takeWhile Unicode.isSpace = p := by
      rw [List.takeWhile_append_of_pos hp, List.cons_append, List.takeWhile_cons_of_neg (by simp [ha]), List.append_nil]
    rw [e1, List.drop_left, e, List.reverse_append, List.reverse_append]
    have e2 : (q.reverse ++ ([b].reverse ++ r'.reverse)).takeWhile Unicode.isSpace = q.reverse := by
      rw [List.takeWhile_append_of_pos (fun c hc => hq c (List.mem_reverse.mp hc))]
      rw [show [b].reverse ++ r'.reverse = b :: r'.reverse from rfl, List.takeWhile_cons_of_neg (by simp [hb]), List.append_nil]
    rw [e2, List.length_reverse]
    apply PySem.Str.ext'
    show ((p ++ ((r' ++ [b]) ++ q)).toArray.extract _ _) = (r' ++ [b]).toArray
    rw [show p.length + ((r' ++ [b]).length + q.length) - q.length = p.length + (r' ++ [b]).length by omega]
    rw [List.extract_toArray]
    simp
    rw [show r' ++ b :: q = (r' ++ [b]) ++ q by simp, show r'.length + 1 = (r' ++ [b]).length by simp, List.take_left]
theorem strip_same {p z q p' z' q' : List Nat} (hp : SpL p) (hq : SpL q) (hz : Tight z) (hp' : SpL p') (hq' : SpL q') (hz' : Tight z') (e : p ++ (z ++ q) = p' ++ (z' ++ q')) : z = z' := by
  have h1 := strip_core hp hq hz
  rw [e, strip_core hp' hq' hz'] at h1
  have := congrArg (fun s : Str => s.cps.toList) h1
  exact this.symm
theorem rtrim : ∀ l : List Nat, ∃ c q, l = c ++ q ∧ SpL q ∧ (c = [] ∨ ∃ r b, c = r ++ [b] ∧ Unicode.isSpace b = false)
  | l => by
    refine ⟨(l.reverse.dropWhile Unicode.isSpace).reverse, (l.reverse.takeWhile Unicode.isSpace).reverse, ?_, ?_, ?_⟩
    · rw [← List.reverse_append, List.takeWhile_append_dropWhile, List.reverse_reverse]
    · intro c hc
      exact tw_mem (List.mem_reverse.mp hc)
    · cases h : l.reverse.dropWhile Unicode.isSpace with
      | nil => exact .inl rfl
      | cons b r =>
        refine .inr ⟨r.reverse, b, by simp, ?_⟩
        have := List.head?_dropWhile_not (p := Unicode.isSpace) (l := l.reverse)
        rw [h] at this
        simpa using this
theorem ltrim : ∀ l : List Nat, ∃ p c, l = p ++ c ∧ SpL p ∧ (c = [] ∨ ∃ a r, c = a :: r ∧ Unicode.isSpace a = false)
  | l => by
    refine ⟨l.takeWhile Unicode.isSpace, l.dropWhile Unicode.isSpace, (List.takeWhile_append_dropWhile).symm, fun c hc => tw_mem hc, ?_⟩
    cases h : l.dropWhile Unicode.isSpace with
    | nil => exact .inl rfl
    | cons b r =>
      refine .inr ⟨b, r, rfl, ?_⟩
      have := List.head?_dropWhile_not (p := Unicode.isSpace) (l := l)
      rw [h] at this
      simpa using this
theorem core_of (l : List Nat) : ∃ p z q, l = p ++ (z ++ q) ∧ SpL p ∧ SpL q ∧ Tight z := by
  obtain ⟨p, c, e, hp, hc⟩ := ltrim l
  obtain ⟨z, q, e2, hq, hz⟩ := rtrim c
  refine ⟨p, z, q, by rw [e, e2], hp, hq, ?_⟩
  rcases hz with rfl | hz
  · exact .inl rfl
  · refine .inr ⟨?_, hz⟩
    rcases hc with rfl | ⟨a, r, rfl, ha⟩
    · obtain ⟨r', b, rfl, _⟩ := hz
      simp at e2
    · obtain ⟨r', b, rfl, hb⟩ := hz
      cases r' with
      | nil =>
        simp only [List.nil_append, List.singleton_append, List.cons.injEq] at e2
        exact ⟨b, [], rfl, hb⟩
      | cons d r' =>
        simp only [List.cons_append, List.cons.injEq] at e2
        exact ⟨d, r' ++ [b], rfl, by rw [← e2.1]; exact ha⟩
/-- the text is split at the first sign -/
theorem split_none {l : List Nat} (h : 61 ∉ l) : Txt.splitMax (txt l) (Str.ofString "=") 1 = [txt l] := by
  unfold Txt.splitMax
  split
  · rfl
  · rcases StrLaws.occ_head (txt l) (Str.ofString "=") (limitOf (txt l) 1) (Nat.le_refl 1) with ⟨e, _⟩ | ⟨i, r, e, hi, _⟩
    · rw [e]; rfl
    · exact absurd (List.mem_of_getElem? ((StrLaws.subAt_one (txt l) 61 i).mp hi)) h
theorem split_some {a b : List Nat} (h : 61 ∉ a) : Txt.splitMax (txt (a ++ 61 :: b)) (Str.ofString "=") 1 = [txt a, txt b] := by
  have hlen : (txt (a ++ 61 :: b)).length = a.length + (b.length + 1) := by
    show (a ++ 61 :: b).toArray.size = _
    simp
  unfold Txt.splitMax
  rw [if_neg]
  · rcases StrLaws.occ_head (txt (a ++ 61 :: b)) (Str.ofString "=") (limitOf (txt (a ++ 61 :: b)) 1) (Nat.le_refl 1) with ⟨_, hn⟩ | ⟨i, r, e, hi, hn⟩
    · exact absurd ((StrLaws.subAt_one (txt (a ++ 61 :: b)) 61 a.length).mpr (by show (a ++ 61 :: b)[a.length]? = _; simp)) (hn a.length)
    · have hia : i = a.length := by
        have h1 : (a ++ 61 :: b)[i]? = some 61 := (StrLaws.subAt_one (txt (a ++ 61 :: b)) 61 i).mp hi
        rcases Nat.lt_trichotomy i a.length with q | q | q
        · rw [List.getElem?_append_left q] at h1
          exact absurd (List.mem_of_getElem? h1) h
        · exact q
        · exact absurd ((StrLaws.subAt_one (txt (a ++ 61 :: b)) 61 a.length).mpr (by show (a ++ 61 :: b)[a.length]? = _; simp)) (hn a.length q)
      have hr : r = [] := by
        have := StrLaws.occ_length_le (txt (a ++ 61 :: b)) (Str.ofString "=") 0 (txt (a ++ 61 :: b)).length (limitOf (txt (a ++ 61 :: b)) 1)
        rw [e] at this
        have h2 : limitOf (txt (a ++ 61 :: b)) 1 = 1 := rfl
        rw [h2, List.length_cons] at this
        exact List.eq_nil_of_length_eq_zero (by omega)
      subst hr
      subst hia
      rw [e]
      show [Builtin.Str.strSub _ 0 a.length, Builtin.Str.strSub _ (a.length + 1) (txt (a ++ 61 :: b)).length] = _
      rw [hlen]
      congr 1
      · apply PySem.Str.ext'
        show (a ++ 61 :: b).toArray.extract 0 a.length = a.toArray
        rw [List.extract_toArray]; simp
      · congr 1
        apply PySem.Str.ext'
        show (a ++ 61 :: b).toArray.extract (a.length + 1) (a.length + (b.length + 1)) = b.toArray
        rw [List.extract_toArray]
        simp
        rw [show a.length + (b.length + 1) - (a.length + 1) = b.length by omega, List.take_length]
  · rw [hlen]
    simp only [Bool.or_eq_true, decide_eq_true_eq]
    rintro (q | q)
    · have : (Str.ofString "=").length = 1 := rfl
      omega
    · have h1 : Builtin.Str.strKind (Str.ofString "=") = 1 := by decide +kernel
      rw [h1] at q
      unfold Builtin.Str.strKind at q
      split at q
      · omega
      · split at q <;> omega
end Mine
end
section
open PySem PySem.W PyProof.Rows
set_option Elab.async false
set_option maxRecDepth 100000
set_option maxHeartbeats 4000000
namespace Mine
noncomputable def lin (A B : List Nat) : List (List Nat) → List Nat → List Nat
  | [], last => A ++ (last ++ B)
  | n :: ns, last => A ++ (n ++ (B ++ 61 :: lin A B ns last))
noncomputable def Wd (n : List Nat) : Prop := Tight n ∧ n ≠ [] ∧ 61 ∉ n ∧ n.length ≤ 4
theorem lin_len {A B last : List Nat} (hA : A.length ≤ 2) (hB : B.length ≤ 2) (hl : last.length ≤ 4) : ∀ ns : List (List Nat), (∀ n ∈ ns, n.length ≤ 4) → (lin A B ns last).length ≤ 9 * (ns.length + 1)
  | [], _ => by simp only [lin, List.length_append, List.length_nil]; omega
  | n :: ns, h => by
    have := lin_len hA hB hl ns fun m hm => h m (.tail _ hm)
    have := h n (.head _)
    simp only [lin, List.length_append, List.length_cons]; omega
theorem sp61 {l : List Nat} (h : SpL l) : 61 ∉ l := fun m => by
  have := h 61 m
  revert this; decide +kernel
theorem len_txt (l : List Nat) : (txt l).length = l.length := by show l.toArray.size = _; simp
theorem reads_from {A B last : List Nat} (hA : SpL A) (hB : SpL B) (lA : A.length ≤ 2) (lB : B.length ≤ 2) (tl : Tight last) (nl : 61 ∉ last) (ll : last.length ≤ 4) : ∀ (ns : List (List Nat)), (∀ n ∈ ns, Wd n) → ns.length ≤ 3 →
    ∀ (n a2 c q : List Nat), Wd n → SpL a2 → a2.length ≤ 2 → SpL q → c ++ q = lin A B ns last → Reads (txt (a2 ++ (n ++ (B ++ 61 :: c)))) ((n :: ns).map txt) (txt last) := by
  intro ns
  induction ns with
  | nil =>
    intro _ _ n a2 c q hn ha la hq e
    have hc : c.length ≤ 9 := by
      have := lin_len lA lB ll [] (List.forall_mem_nil _)
      rw [← e, List.length_append] at this; simp at this; omega
    obtain ⟨h1, h2, h3, h4⟩ := hn
    have hsp : Txt.splitMax (txt (a2 ++ (n ++ (B ++ 61 :: c)))) (Str.ofString "=") 1 = [txt (a2 ++ (n ++ B)), txt c] := by
      have := split_some (a := a2 ++ (n ++ B)) (b := c) (by simp only [List.mem_append, not_or]; exact ⟨sp61 ha, h3, sp61 hB⟩)
      simpa using this
    obtain ⟨p1, z, q1, ec, hp1, hq1, hz⟩ := core_of c
    have ez : z = last := by
      refine strip_same (p := p1) (q := q1 ++ q) (p' := A) (q' := B) hp1 (fun x hx => (List.mem_append.mp hx).elim (hq1 x) (hq x)) hz hA hB tl ?_
      rw [show lin A B [] last = A ++ (last ++ B) from rfl, ec] at e
      rw [← e]; simp
    have es : Txt.strip (txt c) = txt last := by rw [ec, strip_core hp1 hq1 hz, ez]
    have en : Txt.strip (txt (a2 ++ (n ++ B))) = txt n := strip_core ha hB h1
    have := Reads.step _ _ _ [] (txt last) hsp (by rw [len_txt]; simp only [List.length_append, List.length_cons]; omega) (by rw [len_txt]; simp only [List.length_append]; omega) (by rw [len_txt]; omega) (by rw [es]; exact Reads.stop _ (split_none nl) (by rw [len_txt]; omega))
    rw [en] at this
    exact this
  | cons m ns ih =>
    intro hns hlen n a2 c q hn ha la hq e
    have hlen' : ns.length + 1 ≤ 3 := hlen
    have hm := hns m (.head _)
    have hc : c.length ≤ 36 := by
      have := lin_len lA lB ll (m :: ns) fun x hx => (hns x hx).2.2.2
      rw [← e, List.length_append, List.length_cons] at this; omega
    obtain ⟨h1, h2, h3, h4⟩ := hn
    have hsp : Txt.splitMax (txt (a2 ++ (n ++ (B ++ 61 :: c)))) (Str.ofString "=") 1 = [txt (a2 ++ (n ++ B)), txt c] := by
      have := split_some (a := a2 ++ (n ++ B)) (b := c) (by simp only [List.mem_append, not_or]; exact ⟨sp61 ha, h3, sp61 hB⟩)
      simpa using this
    obtain ⟨p1, z, q1, ec, hp1, hq1, hz⟩ := core_of c
    obtain ⟨c2, q2, eR, hq2, hc2⟩ := rtrim (lin A B ns last)
    have ht : Tight (m ++ (B ++ 61 :: c2)) := by
      refine .inr ⟨?_, ?_⟩
      · rcases hm.1 with q | ⟨⟨a, r, rfl, hx⟩, _⟩
        · exact absurd q hm.2.1
        · exact ⟨a, _, rfl, hx⟩
      · rcases hc2 with rfl | ⟨r, b, rfl, hb⟩
        · exact ⟨m ++ B, 61, by simp, by decide +kernel⟩
        · exact ⟨m ++ (B ++ 61 :: r), b, by simp, hb⟩
    have ez : z = m ++ (B ++ 61 :: c2) := by
      refine strip_same (p := p1) (q := q1 ++ q) (p' := A) (q' := q2) hp1 (fun x hx => (List.mem_append.mp hx).elim (hq1 x) (hq x)) hz hA hq2 ht ?_
      rw [show lin A B (m :: ns) last = A ++ (m ++ (B ++ 61 :: lin A B ns last)) from rfl, ec, eR] at e
      have e' : p1 ++ (z ++ (q1 ++ q)) = p1 ++ (z ++ q1) ++ q := by simp
      rw [e', e]; simp
    have es : Txt.strip (txt c) = txt (m ++ (B ++ 61 :: c2)) := by rw [ec, strip_core hp1 hq1 hz, ez]
    have en : Txt.strip (txt (a2 ++ (n ++ B))) = txt n := strip_core ha hB h1
    have hr := ih (fun x hx => hns x (.tail _ hx)) (by omega) m [] c2 q2 hm (List.forall_mem_nil _) (Nat.zero_le _) hq2 eR.symm
    have := Reads.step (txt (a2 ++ (n ++ (B ++ 61 :: c)))) _ _ ((m :: ns).map txt) (txt last) hsp (by rw [len_txt]; simp only [List.length_append, List.length_cons]; omega) (by rw [len_txt]; simp only [List.length_append]; omega) (by rw [len_txt]; omega) (by rw [es]; exact hr)
    rw [en] at this
    exact this
theorem join_lin (A B last : Str) : ∀ (ws : List Str), Txt.join (Str.ofString "=") ((ws ++ [last]).map fun y => A ++ y ++ B) = txt (lin A.cps.toList B.cps.toList (ws.map (·.cps.toList)) last.cps.toList) := by
  intro ws
  show Builtin.Str.glued _ _ = _
  rw [StrLaws.glued_eq_join]
  have piece : ∀ y : Str, A ++ y ++ B = txt (A.cps.toList ++ (y.cps.toList ++ B.cps.toList)) := fun y => by
    apply PySem.Str.ext'
    rw [PySem.Str.cps_append, PySem.Str.cps_append]
    simp [txt]
  induction ws with
  | nil => show A ++ last ++ B = _; exact piece last
  | cons w ws ih =>
    have : ∃ y r, (ws ++ [last]).map (fun y => A ++ y ++ B) = y :: r := by
      cases h : (ws ++ [last]).map (fun y => A ++ y ++ B) with
      | nil => simp at h
      | cons y r => exact ⟨y, r, rfl⟩
    obtain ⟨y, r, e⟩ := this
    rw [List.cons_append, List.map_cons, e]
    rw [show PySem.Str.join (Str.ofString "=") ((A ++ w ++ B) :: y :: r) = A ++ w ++ B ++ Str.ofString "=" ++ PySem.Str.join (Str.ofString "=") (y :: r) from rfl, ← e, ih, piece]
    rw [show Str.ofString "=" = txt [61] from rfl, app_txt, app_txt]
    simp [lin]
end Mine
end
section
open PySem PySem.W PyProof.Rows
set_option Elab.async false
set_option maxRecDepth 100000
set_option maxHeartbeats 4000000
namespace Mine
noncomputable def Stp.pads (s : Stp) : Prop := SpL s.ahead.cps.toList ∧ SpL s.behind.cps.toList
noncomputable def tightB (l : List Nat) : Bool := l.isEmpty || (!Unicode.isSpace (l.headD 0) && !Unicode.isSpace (l.getLastD 0))
theorem tight_of {l : List Nat} (h : tightB l = true) : Tight l := by
  cases l with
  | nil => exact .inl rfl
  | cons a r =>
    simp only [tightB, List.isEmpty_cons, Bool.false_or, Bool.and_eq_true, Bool.not_eq_true', List.headD_cons] at h
    refine .inr ⟨⟨a, r, rfl, h.1⟩, (a :: r).dropLast, (a :: r).getLast (by simp), (List.dropLast_concat_getLast _).symm, ?_⟩
    have := h.2
    rwa [List.getLastD_cons, ← List.getLast_eq_getLastD] at this
theorem word_wd {w : Int} (h1 : 1 ≤ w) (h2 : w ≤ 7) : Wd (wordOf w).cps.toList := by
  have := int7 h1 h2
  rcases this with rfl | rfl | rfl | rfl | rfl | rfl | rfl <;> exact ⟨tight_of (by decide +kernel), by decide +kernel, by decide +kernel, by decide +kernel⟩
theorem last_wd (whos : List Int) {what : Int} (h1 : 0 ≤ what) (h2 : what < 19) : Tight (lastOf whos what).cps.toList ∧ 61 ∉ (lastOf whos what).cps.toList ∧ (lastOf whos what).cps.toList.length ≤ 4 ∧ (whos ≠ [] → RestOk (lastOf whos what)) ∧ (whos = [] → lastOf whos what ∈ kindSigns) ∧ (lastOf whos what).cps.all (· < 128) = true := by
  have e : lastOf whos what = lastOf (if whos = [] then [] else [1]) what := by
    by_cases h : whos = []
    · rw [if_pos h, h]
    · rw [if_neg h]; unfold lastOf; rw [if_neg h]; rfl
  rw [e]
  have := int19 h1 h2
  by_cases h : whos = []
  · simp only [h, if_true, ne_eq, not_true_eq_false, false_implies, true_and, true_implies]
    rcases this with rfl | rfl | rfl | rfl | rfl | rfl | rfl | rfl | rfl | rfl | rfl | rfl | rfl | rfl | rfl | rfl | rfl | rfl | rfl <;> exact ⟨tight_of (by decide +kernel), by decide +kernel, by decide +kernel, by decide +kernel, by decide +kernel⟩
  · simp only [h, if_false, ne_eq, not_false_eq_true, false_implies, true_implies, true_and]
    rcases this with rfl | rfl | rfl | rfl | rfl | rfl | rfl | rfl | rfl | rfl | rfl | rfl | rfl | rfl | rfl | rfl | rfl | rfl | rfl <;> exact ⟨tight_of (by decide +kernel), by decide +kernel, by decide +kernel, by decide +kernel, by decide +kernel⟩
theorem txt_back (s : Str) : txt s.cps.toList = s := (str_txt s).symm
/-- the line of a step is read as its words and its rest -/
theorem reads_line {st : Stp} (h : st.ok) (hp : st.pads) : Reads (lineOf st.whos st.what st.ahead st.behind) (st.whos.map wordOf) (lastOf st.whos st.what) := by
  obtain ⟨h0, h1, hw, hn, ha, hb⟩ := h
  obtain ⟨t1, t2, t3, _⟩ := last_wd st.whos h0 h1
  by_cases hnil : st.whos = []
  · rw [lineOf, if_pos hnil]
    rw [hnil] at t2 t3 ⊢
    have := Reads.stop (lastOf [] st.what) (by have := split_none t2; rwa [txt_back] at this) (by rw [← txt_back (lastOf [] st.what), len_txt]; omega)
    exact this
  · rw [lineOf, if_neg hnil, join_lin]
    generalize hwh : st.whos = whos at hw hn hnil t1 t2 t3 ⊢
    cases whos with
    | nil => exact absurd rfl hnil
    | cons w ws =>
      have hr := reads_from (A := st.ahead.cps.toList) (B := st.behind.cps.toList) hp.1 hp.2 (by rw [Array.length_toList]; exact ha) (by rw [Array.length_toList]; exact hb) t1 t2 t3 (ws.map fun w => (wordOf w).cps.toList)
        (fun n hm => by obtain ⟨x, hx, rfl⟩ := List.mem_map.mp hm; exact word_wd (hw x (.tail _ hx)).1 (hw x (.tail _ hx)).2) (by rw [List.length_map]; rw [List.length_cons] at hn; omega)
        (wordOf w).cps.toList st.ahead.cps.toList _ [] (word_wd (hw w (.head _)).1 (hw w (.head _)).2) hp.1 (by rw [Array.length_toList]; exact ha) (List.forall_mem_nil _) (List.append_nil _)
      have e1 : (((wordOf w).cps.toList :: ws.map fun w => (wordOf w).cps.toList).map txt) = (w :: ws).map wordOf := by
        simp only [List.map_cons, List.map_map, txt_back]
        congr 1
      rw [e1, txt_back] at hr
      rw [List.map_map]
      exact hr
end Mine
end
section
section
theorem Mine.anew_DU : (0 : Nat) = 0 := by w_top off; walk1
end
open PySem PySem.W PyProof.Rows
set_option Elab.async false
set_option maxRecDepth 100000
set_option maxHeartbeats 8000000
namespace Mine
local macro_rules | `(tactic| walk_at "call ref") => `(tactic| (k_here; refine Mine.hold_of ?_))
noncomputable def dueMap (o1 o2 o3 : Option Value) (rv tv sv : Value) : Str → Option Value := fun y =>
  if y = Str.ofString "step" then o1 else if y = Str.ofString "words" then o2 else if y = Str.ofString "last" then o3 else if y = Str.ofString "row" then some rv else if y = Str.ofString "told" then some tv else List.lookup y [(Str.ofString "steps", sv)]
theorem due_map0 {h₀ h : Heap} {L : Addr} {rv tv sv : Value} (F : Fr h₀ L h (fun y => if y = Str.ofString "told" then some tv else if y = Str.ofString "row" then some rv else List.lookup y [(Str.ofString "steps", sv)])) : Fr h₀ L h (dueMap none none none rv tv sv) := by
  refine fr_map F (funext fun y => ?_)
  simp only [dueMap]
  by_cases h1 : y = Str.ofString "step"
  · subst h1; rfl
  · by_cases h2 : y = Str.ofString "words"
    · subst h2; rfl
    · by_cases h3 : y = Str.ofString "last"
      · subst h3; rfl
      · by_cases h4 : y = Str.ofString "row"
        · subst h4; rfl
        · simp only [if_neg h1, if_neg h2, if_neg h3, if_neg h4]
theorem due_map1 {h₀ h : Heap} {L : Addr} {o1 o2 o3 : Option Value} {rv rv' tv sv a b c : Value} (F : Fr h₀ L h (fun y => if y = Str.ofString "row" then some rv' else if y = Str.ofString "last" then some c else if y = Str.ofString "words" then some b else if y = Str.ofString "step" then some a else dueMap o1 o2 o3 rv tv sv y)) : Fr h₀ L h (dueMap (some a) (some b) (some c) rv' tv sv) := by
  refine fr_map F (funext fun y => ?_)
  simp only [dueMap]
  by_cases h1 : y = Str.ofString "step"
  · subst h1; rfl
  · by_cases h2 : y = Str.ofString "words"
    · subst h2; rfl
    · by_cases h3 : y = Str.ofString "last"
      · subst h3; rfl
      · by_cases h4 : y = Str.ofString "row"
        · subst h4; rfl
        · simp only [if_neg h1, if_neg h2, if_neg h3, if_neg h4]
theorem name_head {h₀ h : Heap} {L : Addr} {a : Addr} {o : Obj} {r : Led} (N : News h₀ L h ((a, o) :: r)) : ∃ o', o' = o ∧ News h₀ L h ((a, o') :: r) := ⟨_, rfl, N⟩
theorem news_neq {h₀ h : Heap} {L : Addr} {news : Led} (N : News h₀ L h news) {a b : Addr × Obj} (ha : a ∈ news) (hb : b ∈ news) (hc : a.2.cls ≠ b.2.cls) : a.1 ≠ b.1 := fun e => hc (by
  have h1 := (N _ ha).1
  rw [e, (N _ hb).1] at h1
  rw [Option.some.inj h1])
theorem ct_due {w : World} {mean : ExcName → Option Value} {mg mb : Str → Option Value} (SL : Addr) (svs : List Value) (n : Nat) (P : Led) (sts : List Stp) (hs : StepsIn P svs sts) (hok : ∀ s ∈ sts, s.ok) (hlen : sts.length ≤ 100) :
    Con w mean mg mb 267 60 [.ref SL] ((SL, listOf svs.toArray n) :: P) (fun tl r => ∃ TL tvs n, r = .ref TL ∧ (TL, listOf tvs.toArray n) ∈ tl ∧ TellsIn tl tvs (dueOf sts (Str.ofString "-rw-------"))) := by
  walk_at "CON enter"
  replace F' : Fr g' L' h' (fun y => List.lookup y [(Str.ofString "steps", Value.ref SL)]) := F'
  k_steps
  refine wpAny_For ?_
  k_steps
  rename Fr g' L' _ _ => F1
  rename News g' L' _ _ => N1
  rename _ ∧ AllLt _ P => lTL
  rename_i TL _ _
  refine kp_liter F1 N1 (l := SL) (by k_mem) ?_
  intro it h1 F2 N2 off2
  dsimp only
  refine codeAny_anyTok fun tk0 => ?_
  have e9 : cLine = 9900 := rfl
  have e10 : recursionLimit = 1000 := rfl
  obtain ⟨oi, hoi, eoi⟩ : ∃ o, LstIt o SL 0 ∧ o = lstIterO SL 0 := ⟨_, ⟨rfl, rfl⟩, rfl⟩
  obtain ⟨i, ei⟩ : ∃ i : Nat, i = 0 := ⟨_, rfl⟩
  obtain ⟨tvs, ds, nt, R, hT, e1, e2, e3, e4⟩ : ∃ (tvs : List Value) (ds : List Tell) (nt : Nat) (R : Led), TellsIn R tvs ds ∧ tvs = [] ∧ ds = [] ∧ nt = 0 ∧ R = [] := ⟨[], [], 0, [], .nil, rfl, rfl, rfl, rfl⟩
  obtain ⟨row, er⟩ : ∃ row, row = Str.ofString "-rw-------" := ⟨_, rfl⟩
  obtain ⟨U, eU⟩ : ∃ U, U = P := ⟨_, rfl⟩
  obtain ⟨tot, etot⟩ : ∃ tot, tot = dueOf sts row := ⟨_, rfl⟩
  rw [← er, ← etot] at hret
  obtain ⟨rem, hrem⟩ : ∃ rem, sts.drop i = rem := ⟨_, rfl⟩
  have hpk : Hold (tot = ds ++ dueOf rem row ∧ (∀ p ∈ P, p ∈ U) ∧ (∀ p ∈ R, p ∈ U) ∧ (∀ p ∈ U, p.1 ≠ it ∧ p.1 ≠ TL) ∧ (∀ p ∈ R, p.1 ≠ SL ∧ ∀ q ∈ P, p.1 ≠ q.1) ∧ tvs.length = i ∧ i ≤ sts.length ∧ row.length = 10) := by
    refine ⟨by rw [etot, e2, ← hrem, ei]; rfl, by rw [eU]; exact fun _ h => h, by rw [e4]; exact List.forall_mem_nil _, by rw [eU]; exact fun p hp => ⟨off2 p (.tail _ (.tail _ hp)), Nat.ne_of_lt (kst_ltOf lTL.2 p hp)⟩, by rw [e4]; exact List.forall_mem_nil _, by rw [e1, ei]; rfl, by rw [ei]; exact Nat.zero_le _, by rw [er]; rfl⟩
  have hne : Hold (TL ≠ it ∧ SL ≠ it ∧ SL ≠ TL) := ⟨off2 _ (.head _), off2 _ (.tail _ (.head _)), Nat.ne_of_lt lTL.1⟩
  replace hT : Hold (TellsIn R tvs ds) := hT
  replace hs : Hold (StepsIn P svs sts) := hs
  obtain ⟨tr, etr⟩ : ∃ tr : Tok, tr = 0 := ⟨_, rfl⟩
  obtain ⟨o1, o2, o3, q1, q2, q3⟩ : ∃ o1 o2 o3 : Option Value, o1 = none ∧ o2 = none ∧ o3 = none := ⟨_, _, _, rfl, rfl, rfl⟩
  replace hoi : LstIt oi SL i := by rw [ei]; exact hoi
  replace N2 : News g' L' h1 ((it, oi) :: (TL, PySem.W.listOf tvs.toArray nt) :: (SL, PySem.W.listOf svs.toArray n) :: U) := by rw [eoi, e1, e3, eU]; exact N2
  replace F2 : ∃ tr, Fr g' L' h1 (dueMap o1 o2 o3 (.str row tr) (.ref TL) (.ref SL)) := by
    subst q1 q2 q3 er
    exact ⟨_, due_map0 F2⟩
  obtain ⟨tr, F2⟩ := F2
  clear eoi e1 e2 e3 e4 er eU etot q1 q2 q3 ei off2 F1 N1 lTL
  induction rem generalizing h1 tk0 i oi tvs ds nt R U row tr o1 o2 o3 with
  | nil =>
    obtain ⟨p1, p2, p3, p4, p5, p6, p7, p8⟩ := hpk
    obtain ⟨n1, n2, n3⟩ := hne
    have hl : i = sts.length := Nat.le_antisymm p7 (by simpa using hrem)
    refine codeAny_forTurn ?_
    refine kp_lend F2 N2 (by rw [StepsIn.len hs, ← hl]; exact hoi) (.tail _ (.head _)) rfl ?off ?_
    case off => exact List.forall_mem_cons.mpr ⟨n1, List.forall_mem_cons.mpr ⟨n2, fun p hp => (p4 p hp).1⟩⟩
    intro h3 F3 N3
    dsimp only
    k_steps
    rename Fr h₀ L _ m => kF
    rw [p1, show dueOf [] row = [] from rfl, List.append_nil] at hret
    refine' con_fin hret kG' N kF F3 N3 ?hsub ⟨(TL, PySem.W.listOf tvs.toArray nt) :: R, ?hm, ?hd, ⟨TL, tvs, nt, rfl, .head _, TellsIn.mono hT fun p hp => .tail _ hp⟩⟩
    case hsub => exact List.forall_mem_cons.mpr ⟨.tail _ (.head _), fun p hp => .tail _ (.tail _ (p2 p hp))⟩
    case hm => exact List.forall_mem_cons.mpr ⟨.head _, fun p hp => .tail _ (.tail _ (p3 p hp))⟩
    case hd => exact List.forall_mem_cons.mpr ⟨List.forall_mem_cons.mpr ⟨n3.symm, fun p hp => (p5 p hp).1⟩, fun q hq => List.forall_mem_cons.mpr ⟨fun e => (p4 q (p2 q hq)).2 e.symm, fun p hp => (p5 p hp).2 q hq⟩⟩
  | cons st rem ih =>
    have hst : sts[i]? = some st := by
      have := List.getElem?_drop (xs := sts) (i := i) (j := 0)
      rw [hrem] at this; exact this.symm
    obtain ⟨c1, c2, c3, c4, c5, c6⟩ := hok st (List.mem_of_getElem? hst)
    obtain ⟨x, l, ns, nn, kk, t1, t2, t3, hx, hns, hxm, hlm⟩ := steps_at hs hst
    have hpk0 := hpk
    obtain ⟨p1, p2, p3, p4, p5, p6, p7, p8⟩ := hpk0
    have hne0 := hne
    obtain ⟨n1, n2, n3⟩ := hne0
    have hsub : ∀ p ∈ [(x, ({ cls := .type "tuple", data := .seq #[.ref l, .int st.what t1, .str st.ahead t2, .str st.behind t3] kk } : Obj)), (l, PySem.W.listOf ns.toArray nn)], p ∈ U := List.forall_mem_cons.mpr ⟨p2 _ hxm, List.forall_mem_cons.mpr ⟨p2 _ hlm, List.forall_mem_nil _⟩⟩
    replace hsub : Hold _ := hsub
    have hoff : Hold (∀ p ∈ (TL, PySem.W.listOf tvs.toArray nt) :: (SL, PySem.W.listOf svs.toArray n) :: U, p.1 ≠ it) := List.forall_mem_cons.mpr ⟨n1, List.forall_mem_cons.mpr ⟨n2, fun p hp => (p4 p hp).1⟩⟩
    have ih' : Hold _ := ih
    clear ih p1 p2 p3 p4 p5 p6 p7 n1 n2 n3 hxm hlm
    refine codeAny_forTurn ?_
    refine kp_lnext F2 N2 hoi (.tail _ (.head _)) hx hoff ?_
    intro h3 oi3 hoi3 F3 N3
    dsimp only
    refine wpAny_of_eq (a := ()) rfl ?_
    clear F2 N2
    k_steps
    unfold Hold
    rename Fr g' L' _ _ => F4
    rename News g' L' _ _ => N4
    refine' con_use (mean := mean) (mg := mg) (mb := mb) (dp := dp + 1) (un := un + 3) (gd := gd) (cn := Str.ofString "_law_due") (L := L') (a := 267) (ccd := .ref 266) (outer := envX cn cs L a ccd cl :: outer) (ct_words t1 t2 t3 x l ns nn kk st.whos st.what st.ahead st.behind c1 c2 hns c3 c4) B' F4 X' N4 T' ?s ?k ?d ?u ?_
    case s => exact fun p hp => .tail _ (.tail _ (.tail _ (hsub p hp)))
    case k => rfl
    case d => omega
    case u => omega
    rintro _ _ h9 tk9 F9 N9 ne9 ⟨pw, lw, ys, nw, kw, tw, rfl, rfl, hys⟩
    simp only [List.cons_append, List.nil_append] at N9
    k_steps
    unfold Hold
    rename Fr g' L' _ _ => F5
    rename News g' L' _ _ => N5
    refine' con_use (mean := mean) (mg := mg) (mb := mb) (dp := dp + 1) (un := un + 3) (gd := gd) (cn := Str.ofString "_law_due") (L := L') (a := 267) (ccd := .ref 266) (outer := envX cn cs L a ccd cl :: outer) (ct_row row tr t1 t2 t3 x l ns nn kk st.whos st.what st.ahead st.behind p8 c1 c2 hns c3 c4) B' F5 X' N5 T' ?s ?k ?d ?u ?_
    case s => exact fun p hp => .tail _ (.tail _ (.tail _ (.tail _ (.tail _ (hsub p hp)))))
    case k => rfl
    case d => omega
    case u => omega
    rintro _ _ h10 tk10 F10 N10 ne10 ⟨rfl, ur, rfl⟩
    simp only [List.nil_append] at N10
    k_steps
    rename Fr g' L' _ _ => F6
    rename News g' L' _ _ => N6
    rename _ ∧ _ ∧ _ ∧ _ ∧ _ ∧ AllLt _ U => lt6
    rename_i DT _
    obtain ⟨oD, eoD, N7⟩ := name_head N6
    obtain ⟨n1, n2, n3⟩ := hne
    obtain ⟨p1, p2, p3, p4, p5, p6, p7, p8⟩ := hpk
    have lwq : ∀ q ∈ (it, oi3) :: (TL, PySem.W.listOf tvs.toArray nt) :: (SL, PySem.W.listOf svs.toArray n) :: U, lw ≠ q.1 := ne9 (lw, _) (.tail _ (.head _))
    refine append_head (D := TL) (its := tvs.toArray) (n := nt) (rest := (it, oi3) :: (SL, PySem.W.listOf svs.toArray n) :: (DT, oD) :: (lw, PySem.W.listOf ys.toArray nw) :: U) F6 (news_sub N7 ?hm) ?hap ?_ (hsz := ?hsz)
    case hm => exact List.forall_mem_cons.mpr ⟨by k_mem, List.forall_mem_cons.mpr ⟨by k_mem, List.forall_mem_cons.mpr ⟨by k_mem, List.forall_mem_cons.mpr ⟨by k_mem, List.forall_mem_cons.mpr ⟨by k_mem, fun p hp => .tail _ (.tail _ (.tail _ (.tail _ (.tail _ (.tail _ hp)))))⟩⟩⟩⟩⟩
    case hap => exact List.forall_mem_cons.mpr ⟨n1.symm, List.forall_mem_cons.mpr ⟨n3, List.forall_mem_cons.mpr ⟨Nat.ne_of_gt lt6.2.2.2.1, List.forall_mem_cons.mpr ⟨lwq _ (.tail _ (.head _)), fun p hp => (p4 p hp).2⟩⟩⟩⟩
    case hsz => rw [List.size_toArray, p6]; exact Nat.le_trans (Nat.le_trans p7 hlen) (Nat.le_of_ble_eq_true rfl)
    intro h11 F11 N11
    dsimp only
    have ih := unhold ih'
    refine wpAny_execs_nil ?_
    dsimp only
    refine ih h11 _ oi3 (i + 1) (tvs ++ [.ref DT]) (ds ++ [(st.whos.map wordOf, lastOf st.whos st.what, rowUpd row st.whos st.what)]) (nt + 1) ((DT, oD) :: (lw, PySem.W.listOf ys.toArray nw) :: R) (rowUpd row st.whos st.what) ((DT, oD) :: (lw, PySem.W.listOf ys.toArray nw) :: U) (by rw [← List.drop_drop, hrem]; rfl) ⟨?p1, ?p2, ?p3, ?p4, ?p5, ?p6, ?p7, ?p8⟩ ?T (some (.ref x)) (some (.ref lw)) (some (.str (lastOf st.whos st.what) tw)) hoi3 ?N ur ?F
    case p1 => rw [p1, List.append_assoc]; rfl
    case p2 => exact fun p hp => .tail _ (.tail _ (p2 p hp))
    case p3 => exact List.forall_mem_cons.mpr ⟨.head _, List.forall_mem_cons.mpr ⟨.tail _ (.head _), fun p hp => .tail _ (.tail _ (p3 p hp))⟩⟩
    case p4 => exact List.forall_mem_cons.mpr ⟨⟨Nat.ne_of_gt lt6.2.2.1, Nat.ne_of_gt lt6.2.2.2.1⟩, List.forall_mem_cons.mpr ⟨⟨lwq _ (.head _), lwq _ (.tail _ (.head _))⟩, p4⟩⟩
    case p5 => exact List.forall_mem_cons.mpr ⟨⟨Nat.ne_of_gt lt6.2.2.2.2.1, fun q hq => Nat.ne_of_gt (kst_ltOf lt6.2.2.2.2.2 q (p2 q hq))⟩, List.forall_mem_cons.mpr ⟨⟨lwq _ (.tail _ (.tail _ (.head _))), fun q hq => lwq q (.tail _ (.tail _ (.tail _ (p2 q hq))))⟩, p5⟩⟩
    case p6 => rw [List.length_append, p6]; rfl
    case p7 => exact (List.getElem?_eq_some_iff.mp hst).1
    case p8 => exact rowUpd_len p8
    case T => exact TellsIn.snoc (TellsIn.mono hT fun p hp => .tail _ (.tail _ hp)) (t := DT) (q := lw) (by rw [← eoD]; exact .head _) (.tail _ (.head _)) hys
    case N =>
      rw [← List.push_toArray]
      exact news_sub N11 (List.forall_mem_cons.mpr ⟨by k_mem, List.forall_mem_cons.mpr ⟨by k_mem, List.forall_mem_cons.mpr ⟨by k_mem, List.forall_mem_cons.mpr ⟨by k_mem, List.forall_mem_cons.mpr ⟨by k_mem, fun p hp => .tail _ (.tail _ (.tail _ (.tail _ (.tail _ hp))))⟩⟩⟩⟩⟩)
    case F => exact due_map1 F11
end Mine
end
section
open PySem PySem.W PyProof.Rows
set_option Elab.async false
set_option maxRecDepth 100000
set_option maxHeartbeats 4000000
namespace Mine
/-- what stood in `H` stands in `g`, but for the objects at `adr`; the frames `fr` up to their slots -/
structure Since (H : Heap) (adr fr : List Addr) (g : Heap) : Prop where
  keep : ∀ b o, H.get? b = some o → b ∉ adr → b ∉ fr → g.get? b = some o
  slots : ∀ b o, H.get? b = some o → b ∉ adr → (∀ vs, o.data ≠ .fields vs) → ∃ sl, g.get? b = some { o with slots := sl }
  none : ∀ b, b ∉ adr → g.get? b = none → H.get? b = none
theorem since_start {H g : Heap} {adr fr : List Addr} (G : GSub H g adr) : Since H adr fr g :=
  ⟨fun b o e n _ => G b o e n, fun b o e n _ => ⟨o.slots, G b o e n⟩, fun b n e => by
    cases h : H.get? b with
    | none => rfl
    | some o => rw [G b o h n] at e; cases e⟩
theorem since_step {A₀ : Around} {base g h h₆ H : Heap} {adr : List Addr} {outer : List Env} {L : Addr} {m : Str → Option Value} (S : Since H adr (framesOf outer) g) (B : Below A₀ base outer g) (F : Fr g L h m) (hsm : h.UpToSlots h₆) :
    Since H adr (framesOf outer) (patch g h₆ (framesOf outer)) := by
  have hg : ∀ a ∈ framesOf outer, ∃ o, g.get? a = some o := fun a ha => let ⟨_, o, ho, _⟩ := B.frames.mem ha; ⟨o, ho⟩
  have hh : ∀ a ∈ framesOf outer, ∃ o, h₆.get? a = some o := fun a ha => by
    obtain ⟨_, o, ho, hd⟩ := B.frames.mem ha
    obtain ⟨sl, e⟩ := hsm a o (F.keep _ _ ho) hd
    exact ⟨_, e⟩
  obtain ⟨p1, p2, p3⟩ := patch_spec h₆ (framesOf outer) g hg hh
  refine ⟨fun b o e n q => (p2 b q).trans (S.keep b o e n q), fun b o e n hd => ?_, fun b n e => ?_⟩
  · obtain ⟨sl, e1⟩ := S.slots b o e n hd
    by_cases q : b ∈ framesOf outer
    · obtain ⟨sl2, e2⟩ := hsm b _ (F.keep _ _ e1) hd
      exact ⟨sl2, (p3 b q).trans e2⟩
    · exact ⟨sl, (p2 b q).trans e1⟩
  · by_cases q : b ∈ framesOf outer
    · obtain ⟨o', ho'⟩ := hh b q
      rw [p3 b q, ho'] at e; cases e
    · rw [p2 b q] at e
      exact S.none b n e
theorem since_end {H g h' : Heap} {adr fr : List Addr} {L : Addr} {m : Str → Option Value} (S : Since H adr fr g) (F : Fr g L h' m) (ha : ∀ b ∈ adr, ∀ o, H.get? b = some o → h'.get? b = some o) :
    (∀ b o, H.get? b = some o → b ∉ fr → h'.get? b = some o) ∧ H.UpToSlots h' := by
  refine ⟨fun b o e q => ?_, fun b o e hd => ?_⟩
  · by_cases n : b ∈ adr
    · exact ha b n o e
    · exact F.keep _ _ (S.keep b o e n q)
  · by_cases n : b ∈ adr
    · exact ⟨o.slots, ha b n o e⟩
    · obtain ⟨sl, e1⟩ := S.slots b o e n hd
      exact ⟨sl, F.keep _ _ e1⟩
/-- new objects stay news over the new ground -/
theorem news_tl {A₀ : Around} {base g h h' : Heap} {outer : List Env} {L : Addr} {m : Str → Option Value} {tl : Led} (B : Below A₀ base outer g) (F : Fr g L h m) (hsm : h.UpToSlots h') (new : ∀ p ∈ tl, h.get? p.1 = none ∧ h'.get? p.1 = some p.2) :
    News (patch g h' (framesOf outer)) L h' tl := fun p hp => by
  have hg : ∀ a ∈ framesOf outer, ∃ o, g.get? a = some o := fun a ha => let ⟨_, o, ho, _⟩ := B.frames.mem ha; ⟨o, ho⟩
  have hh : ∀ a ∈ framesOf outer, ∃ o, h'.get? a = some o := fun a ha => by
    obtain ⟨_, o, ho, hd⟩ := B.frames.mem ha
    obtain ⟨sl, e⟩ := hsm a o (F.keep _ _ ho) hd
    exact ⟨_, e⟩
  obtain ⟨p1, p2, p3⟩ := patch_spec h' (framesOf outer) g hg hh
  obtain ⟨n1, n2⟩ := new p hp
  have ng : g.get? p.1 = none := by
    cases e : g.get? p.1 with
    | none => rfl
    | some o => rw [F.keep _ _ e] at n1; cases n1
  have nf : p.1 ∉ framesOf outer := fun q => by obtain ⟨o, ho⟩ := hg _ q; rw [ng] at ho; cases ho
  refine ⟨n2, fun e => ?_, (p2 _ nf).trans ng⟩
  obtain ⟨o, _, _, e2, _⟩ := F.ns
  rw [e, e2] at n1; cases n1
theorem news_app {g h : Heap} {L : Addr} {a b : Led} (x : News g L h a) (y : News g L h b) : News g L h (a ++ b) := fun p hp => (List.mem_append.mp hp).elim (x p) (y p)
/-- the contract of a def whose walk runs in H, the objects `sub` at hand -/
noncomputable def ConS (w : World) (mean : ExcName → Option Value) (mg mb : Str → Option Value) (f : Addr) (dep : Nat) (vs : List Value) (sub : Led) (post : Led → Value → Prop) : Prop :=
  ∀ (dp un : Nat) (gd : Option (List Code)) (cn : Str) (cs : Scope) (a : Addr) (ccd : Value) (cl : List (Str × Addr)) (outer : List Env) (A₀ : Around) (base h₀ : Heap) (L : Addr) (m : Str → Option Value) (s : Shared)
    (R : Result → Shared → Prop),
    Below A₀ base outer h₀ → Fr h₀ L s.heap m → (hd.heap_1 w.params).In h₀ → News h₀ L s.heap sub → Top q (looseW q loose) mean mg mb h₀ → (hd.heap_1 w.params).In base → Top q (looseW q loose) mean mg mb base → cs.kind = .function → dp + dep < recursionLimit → un + 8 * dep < cLine →
    (∀ r tl h' tk', (∀ b o, s.heap.get? b = some o → b ∉ framesOf (envX cn cs L a ccd cl :: outer) → h'.get? b = some o) → s.heap.UpToSlots h' → (∀ p ∈ tl, s.heap.get? p.1 = none ∧ h'.get? p.1 = some p.2) → post tl r → R (.ok (.ret r)) { s with heap := h', toks := tk' }) →
    codeH (model PySem.Challenge.rw_il0133_01.row.prog w) (ktrTop dp un gd cn cs L a ccd cl outer) (.call (.ref f) ⟨vs, []⟩) R s
/-- `ct_done` for a step -/
theorem ct_doneS {w : World} {mean : ExcName → Option Value} {mg mb : Str → Option Value} {st : Stp} (h : st.ok) (x : Int) (t u : Tok) (l : Addr) (vs : List Value) (n : Nat) (h0 : 0 ≤ x) (h1 : x < 65536) (hv : StrsAre vs (st.whos.map wordOf)) :
    Con w mean mg mb 248 60 [.int x t, .ref l, .str (lastOf st.whos st.what) u] [(l, listOf vs.toArray n)] (fun tl r => tl = [] ∧ ∃ v, r = .int (doneOf (st.whos.map wordOf) (lastOf st.whos st.what) x) v) := by
  obtain ⟨a, b, c, d, _, _⟩ := h
  obtain ⟨_, _, l4, rk, kd, _⟩ := last_wd st.whos a b
  have hlet := join_letters c
  refine ct_done x t u l vs n _ _ h0 h1 hv (fun y hy => ?_) (fun e => kd (by simpa using e)) (fun e => rk (by simpa using e)) (by rw [Array.length_toList] at l4; exact l4) (join_few (fun y hy => ?_) (by rw [List.length_map]; omega) (by decide)) hlet ?_
  · obtain ⟨z, hz, rfl⟩ := List.mem_map.mp hy
    exact (word_ok (c z hz).1 (c z hz).2).2
  · obtain ⟨z, hz, rfl⟩ := List.mem_map.mp hy
    exact Nat.le_trans (word_ok (c z hz).1 (c z hz).2).1 (by decide)
  · refine Array.all_eq_true.mpr fun i hi => ?_
    have := hlet _ (Array.getElem_mem_toList hi)
    simp only [decide_eq_true_eq]
    omega
end Mine
end
section
section
theorem Mine.anew_RUN : (0 : Nat) = 0 := by w_top off; walk1
end
open PySem PySem.W PyProof.Rows
set_option Elab.async false
set_option maxRecDepth 100000
set_option maxHeartbeats 8000000
namespace Mine
set_option hygiene false in
local macro_rules | `(tactic| walk_at "call ref") => `(tactic| (k_here; refine Mine.hold_of ?_))
noncomputable def Stp.line (s : Stp) : Str := lineOf s.whos s.what s.ahead s.behind
noncomputable def runMap (o1 o2 o3 : Option Value) (mv tv sv : Value) : Str → Option Value := fun y =>
  if y = Str.ofString "line" then o1 else if y = Str.ofString "names" then o2 else if y = Str.ofString "rest" then o3 else if y = Str.ofString "mode" then some mv else if y = Str.ofString "told" then some tv else List.lookup y [(Str.ofString "lines", sv)]
theorem run_map0 {h₀ h : Heap} {L : Addr} {mv tv sv : Value} (F : Fr h₀ L h (fun y => if y = Str.ofString "told" then some tv else if y = Str.ofString "mode" then some mv else List.lookup y [(Str.ofString "lines", sv)])) : Fr h₀ L h (runMap none none none mv tv sv) := by
  refine fr_map F (funext fun y => ?_)
  simp only [runMap]
  by_cases h1 : y = Str.ofString "line"
  · subst h1; rfl
  · by_cases h2 : y = Str.ofString "names"
    · subst h2; rfl
    · by_cases h3 : y = Str.ofString "rest"
      · subst h3; rfl
      · by_cases h4 : y = Str.ofString "mode"
        · subst h4; rfl
        · simp only [if_neg h1, if_neg h2, if_neg h3, if_neg h4]
theorem run_map1 {h₀ h : Heap} {L : Addr} {o1 o2 o3 : Option Value} {mv mv' tv sv a b c : Value} (F : Fr h₀ L h (fun y => if y = Str.ofString "mode" then some mv' else if y = Str.ofString "rest" then some c else if y = Str.ofString "names" then some b else if y = Str.ofString "line" then some a else runMap o1 o2 o3 mv tv sv y)) : Fr h₀ L h (runMap (some a) (some b) (some c) mv' tv sv) := by
  refine fr_map F (funext fun y => ?_)
  simp only [runMap]
  by_cases h1 : y = Str.ofString "line"
  · subst h1; rfl
  · by_cases h2 : y = Str.ofString "names"
    · subst h2; rfl
    · by_cases h3 : y = Str.ofString "rest"
      · subst h3; rfl
      · by_cases h4 : y = Str.ofString "mode"
        · subst h4; rfl
        · simp only [if_neg h1, if_neg h2, if_neg h3, if_neg h4]
theorem cs_run {w : World} {mean : ExcName → Option Value} {mg mb : Str → Option Value} (LL : Addr) (lvs : List Value) (n : Nat) (sts : List Stp) (hl : StrsAre lvs (sts.map Stp.line)) (hok : ∀ s ∈ sts, s.ok ∧ s.pads) (hlen : sts.length ≤ 100) :
    ConS w mean mg mb 260 280 [.ref LL] [(LL, listOf lvs.toArray n)] (fun tl r => ∃ TL tvs n, r = .ref TL ∧ (TL, listOf tvs.toArray n) ∈ tl ∧ TellsIn tl tvs (runOf (sts.map Stp.read) 33152)) := by
  unfold ConS; k_fill
  intro dp un gd cn cs a ccd cl outer A₀ base h₀ L m s R B F X N T XB TB hk hd hu hret
  k_dflt (refine' codeH_defR ?k1 ?k2 ?k3 ?k4 ?k5 ?kA ?kF ?kK ?k6 ?k7 ?k8 ?k9 ?kB ?_ ?c2 ?c3 ?c4 ?c5; (case kA => exact rfl); (case kF => exact rfl); (case kK => assumption); (case k1 => k_asm); (case k2 => k_asm); (case k3 => k_asm); (case k4 => k_asm); (case k5 => k_asm); (case k6 => k_is); (case k7 => k_is); (case k8 => ktr_room); (case k9 => exact BindsTo.of_eq rfl); (case c5 => decide); (case kB => exact locs rfl); (case c2 => exact rfl); (case c3 => exact rfl); (case c4 => exact rfl))
  intro g' L' h' eL' FG' F' N' B' X' T' kG'
  replace F' : Fr g' L' h' (fun y => List.lookup y [(Str.ofString "lines", Value.ref LL)]) := F'
  refine wpH_execs_pre ?_
  k_steps
  refine wpH_execs_pre ?_
  k_steps
  refine wpH_execs_cons (wpH_For ?_)
  k_steps
  rename Fr g' L' _ _ => F1
  rename News g' L' _ _ => N1
  rename LL < _ => lTL
  rename_i TL _ _
  refine kp_liter F1 N1 (l := LL) (by k_mem) ?_
  intro it h1 F2 N2 off2
  dsimp only
  refine codeH_anyTok fun tk0 => ?_
  have e9 : cLine = 9900 := rfl
  have e10 : recursionLimit = 1000 := rfl
  obtain ⟨oi, hoi, eoi⟩ : ∃ o, LstIt o LL 0 ∧ o = lstIterO LL 0 := ⟨_, ⟨rfl, rfl⟩, rfl⟩
  obtain ⟨i, ei⟩ : ∃ i : Nat, i = 0 := ⟨_, rfl⟩
  obtain ⟨tvs, ds, nt, U, hT, e1, e2, e3, e4⟩ : ∃ (tvs : List Value) (ds : List Tell) (nt : Nat) (U : Led), TellsIn U tvs ds ∧ tvs = [] ∧ ds = [] ∧ nt = 0 ∧ U = [] := ⟨[], [], 0, [], .nil, rfl, rfl, rfl, rfl⟩
  obtain ⟨mode, em⟩ : ∃ mode : Int, mode = 33152 := ⟨_, rfl⟩
  obtain ⟨tot, etot⟩ : ∃ tot, tot = runOf (sts.map Stp.read) mode := ⟨_, rfl⟩
  rw [← em, ← etot] at hret
  obtain ⟨rem, hrem⟩ : ∃ rem, sts.drop i = rem := ⟨_, rfl⟩
  have hS : Since s.heap [LL] (framesOf (envX cn cs L a ccd cl :: outer)) g' := since_start kG'
  have hpk : Hold (tot = ds ++ runOf (rem.map Stp.read) mode ∧ (∀ p ∈ U, p.1 ≠ it ∧ p.1 ≠ TL ∧ p.1 ≠ LL) ∧ tvs.length = i ∧ i ≤ sts.length ∧ 0 ≤ mode ∧ mode < 65536) := by
    refine ⟨by rw [etot, e2, ← hrem, ei]; rfl, by rw [e4]; exact List.forall_mem_nil _, by rw [e1, ei]; rfl, by rw [ei]; exact Nat.zero_le _, by rw [em]; decide, by rw [em]; decide⟩
  have hne : Hold (TL ≠ it ∧ LL ≠ it ∧ LL ≠ TL) := ⟨off2 _ (.head _), off2 _ (.tail _ (.head _)), Nat.ne_of_lt lTL⟩
  replace hT : Hold (TellsIn U tvs ds) := hT
  obtain ⟨o1, o2, o3, q1, q2, q3⟩ : ∃ o1 o2 o3 : Option Value, o1 = none ∧ o2 = none ∧ o3 = none := ⟨_, _, _, rfl, rfl, rfl⟩
  replace hoi : LstIt oi LL i := by rw [ei]; exact hoi
  replace N2 : News g' L' h1 ((it, oi) :: (TL, PySem.W.listOf tvs.toArray nt) :: (LL, PySem.W.listOf lvs.toArray n) :: U) := by rw [eoi, e1, e3, e4]; exact N2
  replace F2 : ∃ tr, Fr g' L' h1 (runMap o1 o2 o3 (.int mode tr) (.ref TL) (.ref LL)) := by
    subst q1 q2 q3 em
    exact ⟨_, run_map0 F2⟩
  obtain ⟨tr, F2⟩ := F2
  clear eoi e1 e2 e3 e4 em etot q1 q2 q3 ei off2 F1 N1 lTL FG' kG'
  have hLlen : lvs.length = sts.length := by have := hl.length; rwa [List.length_map] at this
  have hLL : ∀ o, s.heap.get? LL = some o → o = PySem.W.listOf lvs.toArray n := fun o e => by have := (N _ (.head _)).1; rw [e] at this; exact Option.some.inj this
  replace hl : Hold _ := hl
  induction rem generalizing g' h1 tk0 i oi tvs ds nt U mode tr o1 o2 o3 with
  | nil =>
    obtain ⟨p1, p2, p3, p4, p5, p6⟩ := hpk
    obtain ⟨n1, n2, n3⟩ := hne
    have hi : i = sts.length := Nat.le_antisymm p4 (by simpa using hrem)
    refine codeH_forTurn ?_
    refine kp_lend F2 N2 (by rw [hLlen, ← hi]; exact hoi) (.tail _ (.head _)) rfl ?off ?_
    case off => exact List.forall_mem_cons.mpr ⟨n1, List.forall_mem_cons.mpr ⟨n2, fun p hp => (p2 p hp).1⟩⟩
    intro h3 F3 N3
    dsimp only
    k_steps
    refine wpH_of_any ?_
    k_steps
    rw [p1, show runOf (List.map Stp.read []) mode = [] from rfl, List.append_nil] at hret
    obtain ⟨kk, uu⟩ := since_end hS F3 (fun b hb o e => by obtain rfl := List.mem_singleton.mp hb; rw [hLL o e]; exact (N3 _ (.tail _ (.head _))).1)
    refine hret _ ((TL, PySem.W.listOf tvs.toArray nt) :: U) _ _ kk uu (fun p hp => ?_) ⟨TL, tvs, nt, rfl, .head _, TellsIn.mono hT fun p hp => .tail _ hp⟩
    rcases List.mem_cons.mp hp with rfl | hp
    · exact ⟨hS.none TL (fun q => n3 (List.mem_singleton.mp q).symm) (N3 _ (.head _)).2.2, (N3 _ (.head _)).1⟩
    · exact ⟨hS.none p.1 (fun q => (p2 p hp).2.2 (List.mem_singleton.mp q)) (N3 _ (.tail _ (.tail _ hp))).2.2, (N3 _ (.tail _ (.tail _ hp))).1⟩
  | cons st rem ih =>
    have hst : sts[i]? = some st := by
      have := List.getElem?_drop (xs := sts) (i := i) (j := 0)
      rw [hrem] at this; exact this.symm
    obtain ⟨ok, pads⟩ := hok st (List.mem_of_getElem? hst)
    obtain ⟨tl, hx⟩ : ∃ tl, lvs[i]? = some (.str st.line tl) := by
      have hil : i < lvs.length := by rw [hLlen]; exact (List.getElem?_eq_some_iff.mp hst).1
      obtain ⟨k, t, e1, e2⟩ := strs_at hl i _ (List.getElem?_eq_getElem hil)
      rw [List.getElem?_map, hst] at e1
      obtain rfl := Option.some.inj e1
      exact ⟨t, by rw [List.getElem?_eq_getElem hil, e2]⟩
    have hR : Hold _ := reads_line ok pads
    have hpk0 := hpk
    obtain ⟨p1, p2, p3, p4, p5, p6⟩ := hpk0
    have hne0 := hne
    obtain ⟨n1, n2, n3⟩ := hne0
    have hoff : Hold (∀ p ∈ (TL, PySem.W.listOf tvs.toArray nt) :: (LL, PySem.W.listOf lvs.toArray n) :: U, p.1 ≠ it) := List.forall_mem_cons.mpr ⟨n1, List.forall_mem_cons.mpr ⟨n2, fun p hp => (p2 p hp).1⟩⟩
    have ih' : Hold _ := ih
    clear ih p1 p2 p3 p4 n1 n2 n3
    have hS' : Hold _ := hS
    clear hS
    refine codeH_forTurn ?_
    refine kp_lnext F2 N2 hoi (.tail _ (.head _)) hx hoff ?_
    intro h3 oi3 hoi3 F3 N3
    dsimp only
    refine wpAny_of_eq (a := ()) rfl ?_
    clear F2 N2
    k_steps
    refine wpH_execs_cons (wpH_Assign_Tuple (wpH_Call_Name ?_))
    k_steps
    refine wpH_callWith_K (K := Mine.hd.heap_1 w.params) (by kernel_rfl) ?_
    k_steps
    rename Fr g' L' _ _ => F4
    rename News g' L' _ _ => N4
    refine wpH_call ?_
    refine' cr_read (mean := mean) (mg := mg) (mb := mb) st.line (st.whos.map wordOf) (lastOf st.whos st.what) tl hR ?hn (dp + 1) (un + 3) gd (Str.ofString "_law_run") _ 260 (.ref 259) [] (envX cn cs L a ccd cl :: outer) (ktrTop dp un gd cn cs L a ccd cl outer) base g' L' _ _ _ B' ?F X' News.nil T' XB TB rfl ?dd ?uu ?_
    case hn => rw [List.length_map]; exact ok.2.2.2.1
    case F => exact F4
    case dd => omega
    case uu => omega
    rintro _ _ h5 tk5 keep5 slots5 new5 ⟨pr, lr, vr, nr, t5, rfl, hvr, rfl⟩
    dsimp only
    obtain ⟨F5, B5, st5⟩ := reframe B' F4 rfl keep5 slots5
    have N5 := news_reframe B' F4 N4 rfl keep5 slots5
    have N5' := news_app (news_tl B' F4 slots5 new5) N5
    have ne5 : Hold (∀ p ∈ [(pr, ({ cls := .type "tuple", data := .seq #[.ref lr, .str (lastOf st.whos st.what) t5] } : Obj)), (lr, PySem.W.listOf vr.toArray nr)], ∀ q ∈ (it, oi3) :: (TL, PySem.W.listOf tvs.toArray nt) :: (LL, PySem.W.listOf lvs.toArray n) :: U, p.1 ≠ q.1) := fun p hp q hq e => by
      have h1 := (new5 p hp).1
      have h2 := (N4 q hq).1
      rw [← e, h1] at h2; cases h2
    have X5 := Frag.In.keeps XB st5
    have T5 := Top.keeps TB st5
    have hS5 : Hold _ := since_step hS' B' F4 slots5
    simp only [List.cons_append, List.nil_append] at N5'
    clear N5 F4 N4 B' X' T' hS' new5 st5 keep5
    generalize patch g' h5 (framesOf (envX cn cs L a ccd cl :: outer)) = g5 at F5 B5 N5' X5 T5 hS5
    k_steps
    refine wpH_of_any ?_
    k_steps
    unfold Hold
    rename Fr g5 L' _ _ => F6
    rename News g5 L' _ _ => N6
    refine' con_use (mean := mean) (mg := mg) (mb := mb) (dp := dp + 1) (un := un + 3) (gd := gd) (cn := Str.ofString "_law_run") (L := L') (a := 260) (ccd := .ref 259) (outer := envX cn cs L a ccd cl :: outer) (ct_doneS ok mode tr t5 lr vr nr p5 p6 hvr) B5 F6 X5 N6 T5 ?s ?k ?d ?u ?_
    case s => exact List.forall_mem_cons.mpr ⟨by k_mem, List.forall_mem_nil _⟩
    case k => rfl
    case d => omega
    case u => omega
    rintro _ _ h9 tk9 F9 N9 _ ⟨rfl, td, rfl⟩
    simp only [List.nil_append] at N9
    obtain ⟨_, p7, p8⟩ := upd_step ok p5 p6
    clear F6 N6
    generalize em2 : doneOf (st.whos.map wordOf) (lastOf st.whos st.what) mode = mode2 at F9 p7 p8
    replace em2 : Hold _ := em2
    k_steps
    unfold Hold
    rename Fr g5 L' _ _ => F6
    rename News g5 L' _ _ => N6
    refine' con_use (mean := mean) (mg := mg) (mb := mb) (dp := dp + 1) (un := un + 3) (gd := gd) (cn := Str.ofString "_law_run") (L := L') (a := 260) (ccd := .ref 259) (outer := envX cn cs L a ccd cl :: outer) (ct_mode mode2 td p7 p8) B5 F6 X5 N6 T5 ?s ?k ?d ?u ?_
    case s => exact List.forall_mem_nil _
    case k => rfl
    case d => omega
    case u => omega
    rintro _ _ h10 tk10 F10 N10 _ ⟨rfl, tq, rfl⟩
    simp only [List.nil_append] at N10
    clear F6 N6
    generalize erow : rowOf mode2 = row2
    replace erow : Hold _ := erow
    have hm2 : Hold (0 ≤ mode2 ∧ mode2 < 65536) := ⟨p7, p8⟩
    clear p5 p6 p7 p8
    walk1
    refine kup_newTuple F10 N10 ?_ (Nat.le_of_ble_eq_true rfl)
    intro DT h12 F11 N11 lt6
    obtain ⟨oD, eoD, N7⟩ := name_head N11
    dsimp only
    walk1
    obtain ⟨n1, n2, n3⟩ := hne
    obtain ⟨p1, p2, p3, p4, _, _⟩ := hpk
    have lwq : ∀ q ∈ (it, oi3) :: (TL, PySem.W.listOf tvs.toArray nt) :: (LL, PySem.W.listOf lvs.toArray n) :: U, lr ≠ q.1 := ne5 (lr, _) (.tail _ (.head _))
    have ltT : TL < DT := lt6 (TL, _) (by k_mem)
    have ltI : it < DT := lt6 (it, _) (by k_mem)
    have ltL : LL < DT := lt6 (LL, _) (by k_mem)
    have ltU : ∀ p ∈ U, p.1 < DT := fun p hp => lt6 p (.tail _ (.tail _ (.tail _ (.tail _ (.tail _ hp)))))
    refine append_head (D := TL) (its := tvs.toArray) (n := nt) (rest := (it, oi3) :: (LL, PySem.W.listOf lvs.toArray n) :: (DT, oD) :: (lr, PySem.W.listOf vr.toArray nr) :: U) F11 (news_sub N7 ?hm) ?hap ?_ (hsz := ?hsz)
    case hm => exact List.forall_mem_cons.mpr ⟨by k_mem, List.forall_mem_cons.mpr ⟨by k_mem, List.forall_mem_cons.mpr ⟨by k_mem, List.forall_mem_cons.mpr ⟨by k_mem, List.forall_mem_cons.mpr ⟨by k_mem, fun p hp => .tail _ (.tail _ (.tail _ (.tail _ (.tail _ (.tail _ hp)))))⟩⟩⟩⟩⟩
    case hap => exact List.forall_mem_cons.mpr ⟨n1.symm, List.forall_mem_cons.mpr ⟨n3, List.forall_mem_cons.mpr ⟨Nat.ne_of_gt ltT, List.forall_mem_cons.mpr ⟨lwq _ (.tail _ (.head _)), fun p hp => (p2 p hp).2.1⟩⟩⟩⟩
    case hsz => rw [List.size_toArray, p3]; exact Nat.le_trans (Nat.le_trans p4 hlen) (Nat.le_of_ble_eq_true rfl)
    intro h11 F12 N12
    dsimp only
    have ih := unhold ih'
    have erow' := unhold erow
    have em2' := unhold em2
    obtain ⟨m1, m2⟩ := hm2
    refine wpAny_execs_nil ?_
    dsimp only
    refine ih g5 B5 X5 T5 h11 _ oi3 (i + 1) (tvs ++ [.ref DT]) (ds ++ [(st.whos.map wordOf, lastOf st.whos st.what, row2)]) (nt + 1) ((DT, oD) :: (lr, PySem.W.listOf vr.toArray nr) :: U) mode2 (by rw [← List.drop_drop, hrem]; rfl) hS5 ⟨?p1, ?p2, ?p3, ?p4, m1, m2⟩ ?T (some (.str st.line tl)) (some (.ref lr)) (some (.str (lastOf st.whos st.what) t5)) hoi3 ?N td ?F
    case p1 =>
      rw [p1, List.append_assoc]
      show ds ++ ((st.whos.map wordOf, lastOf st.whos st.what, rowOf (doneOf (st.whos.map wordOf) (lastOf st.whos st.what) mode)) :: runOf (rem.map Stp.read) (doneOf (st.whos.map wordOf) (lastOf st.whos st.what) mode)) = _
      rw [em2', erow']; rfl
    case p2 => exact List.forall_mem_cons.mpr ⟨⟨Nat.ne_of_gt ltI, Nat.ne_of_gt ltT, Nat.ne_of_gt ltL⟩, List.forall_mem_cons.mpr ⟨⟨lwq _ (.head _), lwq _ (.tail _ (.head _)), lwq _ (.tail _ (.tail _ (.head _)))⟩, p2⟩⟩
    case p3 => rw [List.length_append, p3]; rfl
    case p4 => exact (List.getElem?_eq_some_iff.mp hst).1
    case T => exact TellsIn.snoc (TellsIn.mono hT fun p hp => .tail _ (.tail _ hp)) (t := DT) (q := lr) (by rw [← eoD]; exact .head _) (.tail _ (.head _)) hvr
    case N =>
      rw [← List.push_toArray]
      exact news_sub N12 (List.forall_mem_cons.mpr ⟨by k_mem, List.forall_mem_cons.mpr ⟨by k_mem, List.forall_mem_cons.mpr ⟨by k_mem, List.forall_mem_cons.mpr ⟨by k_mem, List.forall_mem_cons.mpr ⟨by k_mem, fun p hp => .tail _ (.tail _ (.tail _ (.tail _ (.tail _ hp))))⟩⟩⟩⟩⟩)
    case F => exact run_map1 F12
end Mine
end
section
open PySem PySem.W PySem.Calls PyProof.Rows
set_option Elab.async false
set_option maxRecDepth 100000
set_option maxHeartbeats 800000
namespace Mine
section
variable {prog : Program} {w : World} {A : Around} {E : Value → Shared → Prop} {s : Shared} {h₀ : Heap} {L : Addr} {m : Str → Option Value} {env : Env} {elt : Expr} {x : Str} {scope : Scope} {cl : List (Str × Addr)} {S : Led → Prop} {Fin : List Value → Led → Prop} {news : Led}
/-- one element of a comprehension that makes data: the ledger grows -/
noncomputable def KdxEl (f : Int → Dat) (k : Int) (news : Led) (y : Value) (news' : Led) : Prop := (∀ p ∈ news, p ∈ news') ∧ DatIn news' y (f k)
/-- a comprehension over a list of ints whose elements are data -/
theorem kdx_list {vs : List Value} {ks : List Int} (f : Int → Dat) (hi : IntsAre vs ks) (S0 : ∀ p ∈ news, p ∈ news)
    (turn : ∀ k t I oI C oC D m₂ ys nw h tk (E' : Value → Shared → Prop), k ∈ ks → (∀ p ∈ news, p ∈ nw) → LCg.NsObj oC m₂ → m₂ x = some (.int k t) → Fr h₀ L h m → News h₀ L h ((I, oI) :: (C, oC) :: (D, LCg.lst ys) :: nw) → LCg.Off3 I C D nw → ((@Ne Nat I C) ∧ (@Ne Nat I D) ∧ (@Ne Nat C D)) →
      wpAny (model prog w) A (eval elt (compEnvC scope cl C env)) (LCg.CompEnd h₀ L m { s with heap := h, toks := tk } I oI C oC D (LCg.lst ys) S (fun y news' => KdxEl f k nw y news')) E' { s with heap := h, toks := tk })
    (fin : ∀ ys nw, (∀ p ∈ news, p ∈ nw) → DatAll nw ys (ks.map f) → Fin ys nw) : LCg.CompRest prog w A h₀ L m env elt x scope cl s S (fun i v => vs.toArray[i]? = some v) Fin vs.toArray.size 0 [] news := by
  suffices key : ∀ (j i : Nat) (ys : List Value) (nw : Led), i + j = vs.toArray.size → (∀ p ∈ news, p ∈ nw) → DatAll nw ys ((ks.take i).map f) → LCg.CompRest prog w A h₀ L m env elt x scope cl s S (fun i v => vs.toArray[i]? = some v) Fin j i ys nw from
    key _ 0 [] news (Nat.zero_add _) S0 .nil
  have hlen : vs.toArray.size = ks.length := by rw [List.size_toArray]; exact hi.length
  intro j
  induction j with
  | zero =>
    intro i ys nw hij hn hy
    rw [show i = ks.length by omega, List.take_length] at hy
    exact LCg.CompRest.zero (fin ys nw hn hy)
  | succ j ih =>
    intro i ys nw hij hn hy
    refine LCg.CompRest.succ fun v I oI C oC D m₂ h tk E' hv hC hx F N off ne => ?_
    obtain ⟨k, t, rfl, hk⟩ := IntsAre.at hi i v (by simpa using hv)
    refine wpAny_mono (turn k t I oI C oC D m₂ ys nw h tk E' (List.mem_of_getElem? hk) hn hC hx F N off ne) (fun y s₂ hr => ?_) fun _ _ e => e
    obtain ⟨h', tk', nw2, e, F', N', off', hS, hsub, hd⟩ := hr
    refine ⟨h', tk', nw2, e, F', N', off', hS, ih (i + 1) _ nw2 (by omega) (fun p hp => hsub p (hn p hp)) ?_⟩
    rw [List.take_add_one, hk, List.map_append]
    exact DatAll.append (DatAll.mono hsub hy) (.one hd)
/-- a comprehension over a list of steps whose elements are texts -/
theorem ksx_list {P : Led} {vs : List Value} {sts : List Stp} (g : Stp → Str) (hi : StepsIn P vs sts)
    (turn : ∀ (st : Stp) px pl ns n k t1 t2 t3 I oI C oC D m₂ ys h tk (E' : Value → Shared → Prop), st ∈ sts → IntsAre ns st.whos → (px, ({ cls := .type "tuple", data := .seq #[.ref pl, .int st.what t1, .str st.ahead t2, .str st.behind t3] k } : Obj)) ∈ P → (pl, PySem.W.listOf ns.toArray n) ∈ P →
      LCg.NsObj oC m₂ → m₂ x = some (.ref px) → Fr h₀ L h m → News h₀ L h ((I, oI) :: (C, oC) :: (D, LCg.lst ys) :: news) → LCg.Off3 I C D news → ((@Ne Nat I C) ∧ (@Ne Nat I D) ∧ (@Ne Nat C D)) →
      wpAny (model prog w) A (eval elt (compEnvC scope cl C env)) (LCg.CompEnd h₀ L m { s with heap := h, toks := tk } I oI C oC D (LCg.lst ys) S (fun y news' => news' = news ∧ ∃ t, y = .str (g st) t)) E' { s with heap := h, toks := tk })
    (fin : ∀ ys, StrsAre ys (sts.map g) → Fin ys news) : LCg.CompRest prog w A h₀ L m env elt x scope cl s S (fun i v => vs.toArray[i]? = some v) Fin vs.toArray.size 0 [] news := by
  suffices key : ∀ (j i : Nat) (ys : List Value), i + j = vs.toArray.size → StrsAre ys ((sts.take i).map g) → LCg.CompRest prog w A h₀ L m env elt x scope cl s S (fun i v => vs.toArray[i]? = some v) Fin j i ys news from
    key _ 0 [] (Nat.zero_add _) .nil
  have hlen : vs.toArray.size = sts.length := by rw [List.size_toArray]; exact StepsIn.len hi
  intro j
  induction j with
  | zero =>
    intro i ys hij hy
    rw [show i = sts.length by omega, List.take_length] at hy
    exact LCg.CompRest.zero (fin ys hy)
  | succ j ih =>
    intro i ys hij hy
    refine LCg.CompRest.succ fun v I oI C oC D m₂ h tk E' hv hC hx F N off ne => ?_
    obtain ⟨st, hst⟩ : ∃ st, sts[i]? = some st := ⟨_, List.getElem?_eq_getElem (show i < sts.length by omega)⟩
    obtain ⟨px, pl, ns, n, k, t1, t2, t3, e, hns, h1, h2⟩ := steps_at hi hst
    have hv' : vs[i]? = some v := by simpa using hv
    rw [e] at hv'
    obtain rfl := Option.some.inj hv'
    refine wpAny_mono (turn st px pl ns n k t1 t2 t3 I oI C oC D m₂ ys h tk E' (List.mem_of_getElem? hst) hns h1 h2 hC hx F N off ne) (fun y s₂ hr => ?_) fun _ _ e => e
    obtain ⟨h', tk', nw, e, F', N', off', hS, rfl, u, rfl⟩ := hr
    refine ⟨h', tk', nw, e, F', N', off', hS, ih (i + 1) _ (by omega) ?_⟩
    rw [List.take_add_one, hst, List.map_append]
    exact kct_snoc hy
end
end Mine
end
section
section
theorem Mine.anew_C1 : (0 : Nat) = 0 := by w_top off; walk1
end
open PySem PySem.W PyProof.Rows
set_option Elab.async false
set_option maxRecDepth 100000
set_option maxHeartbeats 8000000
namespace Mine
local macro_rules | `(tactic| walk_at "subscriptTail") => `(tactic| (k_here; (with_reducible show wpAny _ _ (subscriptTail _ _ (Value.ref _) (Value.int _ _)) _ _ _); ktb_letter; k_dflt (refine' KTb.item_tup ?ktbl ?ktbw ?ktb0 ?ktb1 ?ktbf ?_; (case ktbl => exact News.isTup (by k_asm) (by k_mem)); (case ktbw => repeat constructor); (case ktb0 => ktb_idx); (case ktb1 => ktb_idx); (case ktbf => ktb_idx)); intro _ ktbLt; clear ktbLt))
noncomputable def padOf (k : Int) : Str := [Str.ofString "", Str.ofString " ", Str.ofString "\t", Str.ofString " \n"].getD k.toNat Str.empty
noncomputable def whosN (n : Int) : List Int := [(n.fdiv 76).fmod 7 + 1, (n.fdiv 532).fmod 7 + 1, (n.fdiv 3724).fmod 7 + 1].take (n.fmod 4).toNat
/-- the objects of a step -/
noncomputable def StepAt (whos : List Int) (what : Int) (ahead behind : Str) (tl : Led) (r : Value) : Prop :=
  ∃ x l vs n k t1 t2 t3, r = .ref x ∧ tl = [(x, { cls := .type "tuple", data := .seq #[.ref l, .int what t1, .str ahead t2, .str behind t3] k }), (l, listOf vs.toArray n)] ∧ IntsAre vs whos
theorem ct_step {w : World} {mean : ExcName → Option Value} {mg mb : Str → Option Value} (n : Int) (t : Tok) (h0 : 0 ≤ n) (h1 : n < 417088) :
    Con w mean mg mb 219 3 [.int n t] [] (StepAt (whosN n) ((n.fdiv 4).fmod 19) (padOf ((n.fdiv 26068).fmod 4)) (padOf (n.fdiv 104272))) := by
  walk_at "CON enter"
  replace F' : Fr g' L' h' (fun y => List.lookup y [(Str.ofString "n", Value.int n t)]) := F'
  have hx : 0 ≤ n.fdiv 104272 ∧ n.fdiv 104272 < 4 := by rw [Int.fdiv_eq_ediv_of_nonneg _ (by decide)]; omega
  k_steps
  · refine' con_fin hret kG' N (by assumption) (by assumption) (by assumption) (List.forall_mem_nil _) ⟨_, ?hm, List.forall_mem_nil _, ⟨_, _, _, _, _, _, _, _, rfl, rfl, by assumption⟩⟩
    case hm => exact List.forall_mem_cons.mpr ⟨by k_mem, List.forall_mem_cons.mpr ⟨by k_mem, List.forall_mem_nil _⟩⟩
end Mine
end
section
open PySem PySem.W PyProof.Rows
set_option maxRecDepth 100000
namespace Mine
theorem good_true {cl : Str → Option Addr} {mean : ExcName → Option Value} {ns : List Int} {s₁ s' : Shared} (hk : ∀ b o, s₁.heap.get? b = some o → s'.heap.get? b = some o) (ho : s'.os = s₁.os) (hg : s'.gens = #[]) :
    GoodWG Challenge.rw_il0133_01.row.claim cl mean [ofPy (PyData.list (ns.map PyData.int))] s₁ (.ok (.ret (.bool true))) s' := by
  refine ⟨.inl ⟨_, ofPy (.bool true), [], rfl, fun cls => ?_, ?_, ?_, fun _ => ⟨List.nodup_nil, fun a h => nomatch h⟩⟩, .of_keep hk, ho, ?_⟩
  · rfl
  · exact ReadsW.bool _
  · exact postW_of (by wrow_shape) (by wtm_val) (by w_fin)
  · rw [hg]; intro y hy; simp at hy
end Mine
end
section
open PySem PySem.W PyProof.Rows
set_option Elab.async false
set_option maxRecDepth 100000
set_option maxHeartbeats 800000
namespace Mine
noncomputable def stepOf (n : Int) : Stp := ⟨whosN n, (n.fdiv 4).fmod 19, padOf ((n.fdiv 26068).fmod 4), padOf (n.fdiv 104272)⟩
noncomputable def ownSteps : List Stp := [⟨[1, 6], 15, Str.ofString " ", Str.ofString "\t"⟩, ⟨[4], 16, Str.ofString "", Str.ofString ""⟩, ⟨[], 4, Str.ofString "", Str.ofString ""⟩, ⟨[1, 2], 8, Str.ofString "\t", Str.ofString ""⟩, ⟨[2, 4], 0, Str.ofString " \n", Str.ofString " "⟩, ⟨[4], 13, Str.ofString "", Str.ofString " "⟩, ⟨[1], 18, Str.ofString "", Str.ofString ""⟩, ⟨[7, 4, 4], 9, Str.ofString "", Str.ofString ""⟩, ⟨[2], 16, Str.ofString " ", Str.ofString " "⟩, ⟨[], 10, Str.ofString "", Str.ofString ""⟩, ⟨[], 7, Str.ofString "", Str.ofString ""⟩]
theorem pad_ok (k : Int) : (padOf k).length ≤ 2 ∧ SpL (padOf k).cps.toList := by
  unfold padOf
  generalize k.toNat = j
  match j with
  | 0 => decide +kernel
  | 1 => decide +kernel
  | 2 => decide +kernel
  | 3 => decide +kernel
  | n + 4 => exact (by decide +kernel : (Str.empty).length ≤ 2 ∧ SpL (Str.empty).cps.toList)
theorem whos_ok (n : Int) : (∀ w ∈ whosN n, 1 ≤ w ∧ w ≤ 7) ∧ (whosN n).length ≤ 3 := by
  have q : ∀ x : Int, 1 ≤ x.fmod 7 + 1 ∧ x.fmod 7 + 1 ≤ 7 := fun x => by rw [Int.fmod_eq_emod_of_nonneg _ (by decide)]; omega
  constructor
  · intro w hw
    have := List.mem_of_mem_take hw
    simp only [List.mem_cons, List.not_mem_nil, or_false] at this
    rcases this with rfl | rfl | rfl <;> exact q _
  · unfold whosN
    rw [List.length_take]
    exact Nat.min_le_right _ _
theorem step_ok (n : Int) : (stepOf n).ok ∧ (stepOf n).pads := by
  have e : (n.fdiv 4).fmod 19 = (n.fdiv 4) % 19 := Int.fmod_eq_emod_of_nonneg _ (by decide)
  exact ⟨⟨show 0 ≤ (n.fdiv 4).fmod 19 by omega, show (n.fdiv 4).fmod 19 < 19 by omega, (whos_ok n).1, (whos_ok n).2, (pad_ok _).1, (pad_ok _).1⟩, (pad_ok _).2, (pad_ok _).2⟩
theorem own_ok : ∀ st ∈ ownSteps, st.ok ∧ st.pads := fun st h => by
  simp only [ownSteps, List.mem_cons, List.not_mem_nil, or_false] at h
  rcases h with rfl | rfl | rfl | rfl | rfl | rfl | rfl | rfl | rfl | rfl | rfl <;>
  · refine ⟨?_, ?_⟩
    · unfold Stp.ok; decide +kernel
    · unfold Stp.pads; decide +kernel
theorem steps_ok (ns : List Int) : ∀ st ∈ (ns.take 16).map (fun k => stepOf (k.fmod 417088)) ++ ownSteps, st.ok ∧ st.pads := fun st h => by
  rcases List.mem_append.mp h with h | h
  · obtain ⟨k, _, rfl⟩ := List.mem_map.mp h
    exact step_ok _
  · exact own_ok st h
theorem row_strOk {m : Int} (h0 : 0 ≤ m) (h1 : m < 65536) : PyData.strOk (rowOf m) = true := by
  obtain ⟨k, s2, s1, s0, u, g, o, F⟩ := fields_of m.toNat (by omega)
  have em : ((m.toNat : Nat) : Int) = m := by omega
  have e := row_fields F
  rw [em] at e
  rw [e]
  have hk : kch k < 0x110000 := by
    rcases lt16 F.hk with rfl | rfl | rfl | rfl | rfl | rfl | rfl | rfl | rfl | rfl | rfl | rfl | rfl | rfl | rfl | rfl <;> decide
  have ht : ∀ b s lo hi : Nat, lo < 0x110000 → hi < 0x110000 → (trip b s lo hi).all (· < 0x110000) = true := by
    intro b s lo hi hl hh
    simp only [trip, List.all_cons, List.all_nil, Bool.and_true, Bool.and_eq_true, decide_eq_true_eq]
    refine ⟨?_, ?_, ?_⟩ <;> (repeat' split) <;> omega
  show (kch k :: (trip u s2 115 83 ++ (trip g s1 115 83 ++ trip o s0 116 84))).toArray.all (· < 0x110000) = true
  rw [List.all_toArray]
  rw [List.all_cons, List.all_append, List.all_append, ht _ _ _ _ (by decide) (by decide), ht _ _ _ _ (by decide) (by decide), ht _ _ _ _ (by decide) (by decide)]
  simp [hk]
theorem tell_ok {ws : List Str} {y r : Str} (h : ∀ w ∈ ws, PyData.strOk w = true) (hy : PyData.strOk y = true) (hr : PyData.strOk r = true) : kqdOk 8 (tellDat (ws, y, r)) = true := by
  unfold tellDat
  simp only [kqdOk, List.all_cons, List.all_nil, Bool.and_true, Bool.and_eq_true, List.all_eq_true, List.mem_map]
  refine ⟨?_, hy, hr⟩
  rintro d ⟨w, hw, rfl⟩
  exact h w hw
theorem runs_ok : ∀ (sts : List Stp) {m : Int}, (∀ s ∈ sts, s.ok) → 0 ≤ m → m < 65536 → ∀ d ∈ (runOf (sts.map Stp.read) m).map tellDat, kqdOk 8 d = true
  | [], _, _, _, _ => fun _ h => nomatch h
  | st :: sts, m, h, h0, h1 => by
    obtain ⟨_, a, b⟩ := upd_step (h st (.head _)) h0 h1
    obtain ⟨k0, k1, k2, k3, _, _⟩ := h st (.head _)
    show ∀ d ∈ tellDat (st.whos.map wordOf, lastOf st.whos st.what, rowOf (doneOf (st.whos.map wordOf) (lastOf st.whos st.what) m)) :: (runOf (sts.map Stp.read) (doneOf (st.whos.map wordOf) (lastOf st.whos st.what) m)).map tellDat, _
    intro d hd
    rcases List.mem_cons.mp hd with rfl | hd
    · refine tell_ok (fun w hw => ?_) (last_ok st.whos k0 k1).2 (row_strOk a b)
      obtain ⟨x, hx, rfl⟩ := List.mem_map.mp hw
      exact (word_ok (k2 x hx).1 (k2 x hx).2).2
    · exact runs_ok sts (fun s hs => h s (.tail _ hs)) a b d hd
theorem tells_ok (ns : List Int) : ∀ d ∈ (runOf (((ns.take 16).map (fun k => stepOf (k.fmod 417088)) ++ ownSteps).map Stp.read) 33152).map tellDat, kqdOk 8 d = true :=
  runs_ok _ (fun st h => (steps_ok ns st h).1) (by decide) (by decide)
end Mine
end
section
section
theorem Mine.anew_LAW : (0 : Nat) = 0 := by w_top off; walk1
end
open PySem PySem.W PyProof.Rows
set_option Elab.async false
set_option maxRecDepth 100000
set_option maxHeartbeats 8000000
namespace Mine
section
open PySem.Calls
theorem call_fullH {prog : Program} {w : World} {A : Around} {R : Result → Shared → Prop} {s : Shared} {name : Str} {params : Arguments} {body : List Stmt} {scope : Scope}
    {dV kV pm cd doc : Value} {a : Addr} {o : Obj} {args : Args} {binds : List (Str × Value)}
    (hroom : A.depth < recursionLimit) (ho : s.heap.get? a = some o) (hdata : o.data = .func { docDef name params body scope pm cd doc with defaults := dV, kwdefaults := kV }) (hlim : s.heap.NoLimit) (hcd : s.heap.CodeRec cd name)
    (hbind : BindsTo s { docDef name params body scope pm cd doc with defaults := dV, kwdefaults := kV } args binds)
    (hloc : ∀ x ∈ binds, scope.names.lookup x.1 = some .local)
    (h : ∀ h₁, Fr s.heap s.heap.objs.size h₁ (fun x => binds.reverse.lookup x) →
      wpH (model prog w) (A.deeper (envOf name scope s.heap.objs.size a cd)) (execs body (envOf name scope s.heap.objs.size a cd))
        (fun f s' => R (.ok (.ret (match f with | .ret v => v | _ => .none))) s')
        (fun e s' => wpAny (model prog w) (A.deeper (envOf name scope s.heap.objs.size a cd)) (leaving (envOf name scope s.heap.objs.size a cd) e)
          (fun _ s'' => R (.error e) s'') (fun e' s'' => R (.error e') s'') s')
        { s with heap := h₁, toks := s.toks + binds.length })
    (hco : scope.isCoroutine = false := by rfl) (hgen : scope.isGenerator = false := by rfl) (hk : scope.kind = .function := by rfl)
    (hcell : ∀ x ∈ scope.names, x.2 ≠ .cell := by decide) :
    codeH (model prog w) A (.call (.ref a) args) R s :=
  codeH_call_def hroom ho hdata hlim hcd rfl hbind hcell hloc (fun h₁ hns hkeep => h h₁ ⟨hns, hkeep, Nat.le_refl _⟩) hco hgen hk
theorem law_around (n : Str) (sc : Scope) (L a : Addr) (cd : Value) : callerA.deeper (envOf n sc L a cd) = ktrTop (2 + claimMargin) 7 (some []) n sc L a cd [] [] := rfl
end
theorem law_led {g h : Heap} {L : Addr} {tlr U : Led} {a b c d : Addr × Obj} (N : News g L h (tlr ++ a :: b :: c :: d :: U)) : News g L h (c :: d :: (tlr ++ U)) := news_sub N fun p hp => by
  rcases List.mem_cons.mp hp with rfl | hp
  · exact List.mem_append.mpr (.inr (.tail _ (.tail _ (.head _))))
  · rcases List.mem_cons.mp hp with rfl | hp
    · exact List.mem_append.mpr (.inr (.tail _ (.tail _ (.tail _ (.head _)))))
    · rcases List.mem_append.mp hp with hp | hp
      · exact List.mem_append.mpr (.inl hp)
      · exact List.mem_append.mpr (.inr (.tail _ (.tail _ (.tail _ (.tail _ hp)))))
theorem own_pack {h₀ h : Heap} {L O LT : Addr} {its : List Value} {k : Nat} {oL : Obj} {tl nw : Led} (N : News h₀ L h ((O, PySem.W.listOf its.toArray k) :: (tl ++ (LT, oL) :: nw))) (D : DatAll tl its (ownSteps.map Stp.dat)) :
    ∃ (ovs : List Value) (ko : Nat) (U : Led), News h₀ L h ((O, PySem.W.listOf ovs.toArray ko) :: (LT, oL) :: U) ∧ StepsIn U ovs ownSteps ∧ (∀ p ∈ nw, p ∈ U) :=
  ⟨its, k, tl ++ nw, news_sub N (fun p hp => by
    rcases List.mem_cons.mp hp with rfl | hp
    · exact .head _
    · rcases List.mem_cons.mp hp with rfl | hp
      · exact .tail _ (List.mem_append.mpr (.inr (.head _)))
      · rcases List.mem_append.mp hp with hp | hp
        · exact .tail _ (List.mem_append.mpr (.inl hp))
        · exact .tail _ (List.mem_append.mpr (.inr (.tail _ hp)))), DatAll.mono (fun p hp => List.mem_append.mpr (.inl hp)) D, fun p hp => List.mem_append.mpr (.inr hp)⟩
set_option hygiene false in
local macro_rules | `(tactic| walk_at "CompSrc") => `(tactic| (k_here; refine Mine.hold_of ?_))
set_option hygiene false in
local macro_rules | `(tactic| walk_at "binaryOp Add ref ref") => `(tactic| (k_here; refine Mine.hold_of ?_))
set_option hygiene false in
local macro_rules | `(tactic| walk_at "eval ListComp") => `(tactic| (k_here; k_dflt (refine LCg.ListComp_U (F₀ := by k_asm) (by with_unfolding_all rfl) (by decide) (by rfl) (by decide) (by rfl) ?_)))
set_option hygiene false in
local macro_rules | `(tactic| walk_at "call ref") => `(tactic| (k_here; refine Mine.hold_of ?_))
theorem law_holds : PySem.Challenge.rw_il0133_01.Holds := by
  refine Mine.hd ?_
  k_fill
  intro w s₀ s₁ mg mb G Y fa o pm cd doc dV kV ho hd hcd hD hmg hg args vals as hpre hlay hrd hwl hlo
  have KX := kIn_of Y
  have X := (Ground.X G).1
  have V := (Ground.X G).2
  refine Ground.open G ?_
  intro T B D TE TW
  obtain ⟨_, _, M⟩ := bmod_of_top T
  have TA := at_of_top T
  try (obtain ⟨_, _, he, B0⟩ := based_of_top T rfl hmg ho hd; have he' : cd = _ := he; subst he'; clear he)
  clear hmg
  wrow_args hpre hlay hrd hwl hlo
  rename_i ns hs0 _ hL1 _ _ _ _ scr vl as2 hL ra w1 r0 hI hr hcond _
  refine wpAny_guard ?_ ?_
  rotate_left
  · refine wpAny_pure ?_
    exact good_true (fun _ _ h => h) rfl hg
  refine wpH_call ?_
  have K0 := below_caller s₁.heap
  have he := Dflts.none hD rfl
  subst he
  refine call_fullH (by decide) ho hd (Top.nolimit T) hcd (BindsTo.of_eq rfl) (locs rfl) fun h₁ F => ?_
  dsimp only at F ⊢
  rw [law_around]
  replace F : Fr s₁.heap s₁.heap.objs.size h₁ (fun y => List.lookup y [(Str.ofString "script", Value.ref scr)]) := F
  clear hr w1 ra r0 hL1 hs0
  have N0 : News s₁.heap s₁.heap.objs.size h₁ [] := News.nil
  refine wpH_execs_pre ?_
  walk1
  unfold Hold
  rename IntsAre _ (List.take 16 ns) => hI2
  rename Fr s₁.heap _ _ _ => F2
  rename News s₁.heap _ _ _ => N2
  rename_i ws2 _ _ _ _
  clear ho hd hcd G Y
  refine LCg.CompSrc.ledger (its := ws2.toArray) rfl F2 N2 (by k_mem) (by rw [List.size_toArray, hI2.length, List.length_take]; exact Nat.le_trans (Nat.min_le_left _ _) (Nat.le_of_ble_eq_true rfl)) ?_
  intro gg
  refine kdx_list (fun k => (stepOf (k.fmod 417088)).dat) hI2 (fun _ h => h) ?_ ?_
  · intro kk tt I3 oI3 C3 oC3 D3 m3 ys3 nw h3 tk3 E3 hk0 hnw hC3 hx3 F4 N4 off4 ne4
    have off5 := off4
    k_steps
    unfold Hold
    rename Fr s₁.heap _ _ _ => F5
    rename News s₁.heap _ _ _ => N5
    have hx0 : 0 ≤ kk.fmod 417088 := by rw [Int.fmod_eq_emod_of_nonneg _ (by decide)]; omega
    have hx1 : kk.fmod 417088 < 417088 := by rw [Int.fmod_eq_emod_of_nonneg _ (by decide)]; omega
    refine' con_use (mean := ExcName.means s₀.heap) (mg := mg) (mb := mb) (dp := 2 + claimMargin) (un := 7) (gd := some []) (cn := Str.ofString "law") (L := s₁.heap.objs.size) (a := fa) (outer := []) (ct_step (kk.fmod 417088) _ hx0 hx1) K0 F5 KX N5 T ?zs ?zk ?zd ?zu ?_
    case zs => exact List.forall_mem_nil _
    case zk => rfl
    case zd => decide
    case zu => decide
    rintro _ _ h9 tk9 F9 N9 ne9 ⟨px, pl, pvs, pn, pk, pt1, pt2, pt3, rfl, rfl, hpv⟩
    have nx := ne9 (px, _) (.head _)
    have nl := ne9 (pl, _) (.tail _ (.head _))
    refine LCg.CompEnd.intro F9 N9 ((px, _) :: (pl, _) :: nw) ?_ ⟨⟨nx _ (.head _), nx _ (.tail _ (.head _)), nx _ (.tail _ (.tail _ (.head _)))⟩, ⟨nl _ (.head _), nl _ (.tail _ (.head _)), nl _ (.tail _ (.tail _ (.head _)))⟩, off5⟩ (.inr ⟨_, .tail _ (.tail _ (hnw _ (.head _))), rfl, _, rfl⟩) ⟨fun p hp => .tail _ (.tail _ hp), ?_⟩
    · exact List.forall_mem_cons.mpr ⟨.tail _ (.tail _ (.head _)), List.forall_mem_cons.mpr ⟨.tail _ (.tail _ (.tail _ (.head _))), List.forall_mem_cons.mpr ⟨.tail _ (.tail _ (.tail _ (.tail _ (.head _)))), List.forall_mem_cons.mpr ⟨.head _, List.forall_mem_cons.mpr ⟨.tail _ (.head _), fun p hp => .tail _ (.tail _ (.tail _ (.tail _ (.tail _ hp))))⟩⟩⟩⟩⟩
    · exact .tuple (vs := [.ref pl, .int _ pt1, .str _ pt2, .str _ pt3]) (.head _) (.cons (.list (.tail _ (.head _)) (dat_ints hpv)) (.cons (.int _ pt1) (.cons (.str _ pt2) (.cons (.str _ pt3) .nil))))
  · intro ys nw hnw hys
    replace hys : Hold _ := hys
    k_steps
    refine wpH_execs_pre ?_
    rename LCg.Off1 _ nw => offL
    rename_i LOT _ _ _ _
    k_steps
    rename News s₁.heap _ _ _ => N7
    rename Fr s₁.heap _ _ _ => F7
    obtain ⟨ovs, ko, U, N8, hown, hnU⟩ := own_pack (tl := [_, _, _, _, _, _, _, _, _, _, _, _, _, _, _, _, _, _, _, _, _, _]) N7 (by kd_all)
    clear N7
    replace hown : Hold _ := hown
    refine wpH_execs_cons (wpH_Return (wpH_Compare1 (wpH_Call_Name ?_)))
    k_steps
    refine wpH_callWith_K (K := Mine.hd.heap_1 w.params) (by kernel_rfl) ?_
    k_steps
    unfold Hold
    rename Fr s₁.heap _ _ _ => F8
    have hlot : Hold (StepsIn U ys (((ns.take 16).map fun k => stepOf (k.fmod 417088)))) := StepsIn.mono (P := nw) (by unfold StepsIn; rw [List.map_map]; exact hys) hnU
    have hall : Hold (StepsIn U (ys ++ ovs) ((ns.take 16).map (fun k => stepOf (k.fmod 417088)) ++ ownSteps)) := by
      show DatAll _ _ _
      rw [List.map_append]; exact DatAll.append hlot hown
    have hsz : (ys ++ ovs).length ≤ 27 := by
      rw [StepsIn.len hall, List.length_append, List.length_map, List.length_take]
      show _ + 11 ≤ 27
      omega
    refine add_lists (vs := ys) (ws := ovs) F8 N8 ⟨_, (N8 _ (.tail _ (.head _))).1, rfl, _, rfl⟩ ⟨_, (N8 _ (.head _)).1, rfl, _, rfl⟩ ?_ (by rw [List.length_append] at hsz; exact Nat.le_trans hsz (Nat.le_of_ble_eq_true rfl))
    intro h9 F9 N9
    refine LCg.CompSrc.ledger (its := (ys ++ ovs).toArray) rfl F9 N9 (.head _) (by rw [List.size_toArray]; exact Nat.le_trans hsz (Nat.le_of_ble_eq_true rfl)) ?_
    intro gg2
    refine ksx_list Stp.line hall ?_ ?_
    · intro st px pl pns pn pk t1 t2 t3 I3 oI3 C3 oC3 D3 m3 ys3 h3 tk3 E3 hst hpn hpx hpl hC3 hx3 F4 N4 off4 ne4
      have off5 := off4
      k_steps
      unfold Hold
      rename Fr s₁.heap _ _ _ => F5
      rename News s₁.heap _ _ _ => N5
      obtain ⟨⟨k0, k1, k2, k3, k4, k5⟩, _⟩ := steps_ok ns st hst
      refine' con_use (mean := ExcName.means s₀.heap) (mg := mg) (mb := mb) (dp := 2 + claimMargin) (un := 7) (gd := some []) (cn := Str.ofString "law") (L := s₁.heap.objs.size) (a := fa) (outer := []) (ct_line t1 t2 t3 px pl pns pn pk st.whos st.what st.ahead st.behind k0 k1 hpn k2 k3 k4 k5) K0 F5 KX N5 T ?zs ?zk ?zd ?zu ?_
      case zs => exact List.forall_mem_cons.mpr ⟨.tail _ (.tail _ (.tail _ (.tail _ (.tail _ (.tail _ hpx))))), List.forall_mem_cons.mpr ⟨.tail _ (.tail _ (.tail _ (.tail _ (.tail _ (.tail _ hpl))))), List.forall_mem_nil _⟩⟩
      case zk => rfl
      case zd => decide
      case zu => decide
      rintro _ _ h10 tk10 F10 N10 ne10 ⟨rfl, ut, rfl⟩
      exact LCg.CompEnd.intro F10 N10 _ (fun p hp => hp) off5 (.inr ⟨_, .head _, rfl, _, rfl⟩) ⟨rfl, _, rfl⟩
    · intro ys3 hys3
      replace hys3 : Hold _ := hys3
      k_steps
      rename Fr s₁.heap _ _ _ => F10
      rename News s₁.heap _ _ _ => N10
      refine wpH_call ?_
      refine' cs_run (mean := ExcName.means s₀.heap) (mg := mg) (mb := mb) _ ys3 ys3.length _ hys3 (steps_ok ns) ?zl (2 + claimMargin) 7 (some []) (Str.ofString "law") _ fa _ [] [] callerA s₁.heap s₁.heap s₁.heap.objs.size _ _ _ K0 ?zF KX ?zN T KX T ?zk ?zd ?zu ?zm
      case zF => exact F10
      case zN => exact news_sub N10 (List.forall_mem_cons.mpr ⟨.head _, List.forall_mem_nil _⟩)
      case zk => rfl
      case zd => decide
      case zu => decide
      case zl =>
        rw [List.length_append, List.length_map, List.length_take]
        show _ + 11 ≤ 100
        omega
      case zm =>
       rintro _ tlr h11 tk11 keep11 slots11 new11 ⟨TL, tvs, nt, rfl, hTL, hT⟩
       dsimp only
       obtain ⟨F12, B12, st12⟩ := reframe K0 F10 rfl keep11 slots11
       have N12 := news_app (news_tl K0 F10 slots11 new11) (news_reframe K0 F10 N10 rfl keep11 slots11)
       have X12 := Frag.In.keeps KX st12
       have T12 := Top.keeps T st12
       generalize patch s₁.heap h11 (framesOf []) = g12 at F12 B12 N12 X12 T12 st12
       replace N12 := law_led N12
       replace hT : Hold _ := hT
       k_steps
       unfold Hold
       refine add_lists (vs := ys) (ws := ovs) F12 N12 ⟨_, (N12 _ (.tail _ (.head _))).1, rfl, _, rfl⟩ ⟨_, (N12 _ (.head _)).1, rfl, _, rfl⟩ ?_ (by rw [List.length_append] at hsz; exact Nat.le_trans hsz (Nat.le_of_ble_eq_true rfl))
       intro h13 F13 N13
       k_steps
       unfold Hold
       refine' con_use (mean := ExcName.means s₀.heap) (mg := mg) (mb := mb) (dp := 2 + claimMargin) (un := 7) (gd := some []) (cn := Str.ofString "law") (L := s₁.heap.objs.size) (a := fa) (outer := []) (ct_due _ (ys ++ ovs) 0 U _ hall (fun st h => (steps_ok ns st h).1) ?zl) B12 F13 X12 N13 T12 ?zs ?zk ?zd ?zu ?zm
       case zs => exact List.forall_mem_cons.mpr ⟨.head _, fun p hp => .tail _ (.tail _ (.tail _ (List.mem_append.mpr (.inr hp))))⟩
       case zk => rfl
       case zd => decide
       case zu => decide
       case zl =>
         rw [← StepsIn.len hall]; omega
       case zm =>
        rintro _ tld h14 tk14 F14 N14 ne14 ⟨TL2, tvs2, nt2, rfl, hTL2, hT2⟩
        dsimp only
        have e5 := due_run _ (fun st h => (steps_ok ns st h).1) (m := 33152) (by decide) (by decide)
        rw [row_start] at e5
        rw [e5] at hT2
        refine kqd_eq N14 (List.mem_append.mpr (.inr (.tail _ (.tail _ (.tail _ (List.mem_append.mpr (.inl hTL))))))) rfl rfl hT (fun p hp => List.mem_append.mpr (.inr (.tail _ (.tail _ (.tail _ (List.mem_append.mpr (.inl hp))))))) (List.mem_append.mpr (.inl hTL2)) rfl rfl hT2 (fun p hp => List.mem_append.mpr (.inl hp)) (tells_ok ns) (tells_ok ns) (show 7 + 64 < cLine by decide) ?_
        simp only [decide_true]
        exact good_true (fun b o h => F14.keep b o (st12 b o h)) rfl hg
end Mine
end
end
theorem PySem.Challenge.cw_il0133_01_holds : PySem.Challenge.rw_il0133_01.Holds :=
  Mine.law_holds
