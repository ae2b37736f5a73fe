import PyProof.Rows.All
import Wide.All
import OpenK.AllK
import Wide.FinOn
import PySem.Challenge.RW_il0025_01
set_option Elab.async false
set_option compiler.extract_closed false
section
local macro_rules | `(tactic| k_ne) => `(tactic| exact PySem.W.neN (by with_reducible assumption))
section
open PySem PySem.W PySem.Calls PyProof.Rows
set_option maxRecDepth 100000
namespace Mine
section
variable {α β : Type} {M : Model} {A : Around} {E : Value → Shared → Prop} {s : Shared}

/-- the claim's own caller lies beneath -/
def HasC (Γ : Ctx) : Prop := Γ.below.any (fun x => x.1.isCaller) = true

/-- a tree, run in a context above the claim's caller -/
def wpC (M : Model) (A : Around) (t : Sem α) (Q : α → Shared → Prop) (E : Value → Shared → Prop) (s : Shared) : Prop :=
  ∀ Γ p, Γ.In A → HasC Γ → Sem.wp M Γ t (fun a _ s' => Q a s') (fun e _ s' => E e s') p s
/-- a code, run in a context above the claim's caller -/
def codeC (M : Model) (A : Around) (c : Code) (R : Result → Shared → Prop) (s : Shared) : Prop :=
  ∀ Γ p, Γ.code = c → Γ.Below A → HasC Γ → wpCode M Γ R p s

theorem wpC_of {t : Sem α} {Q : α → Shared → Prop} (h : wpAny M A t Q E s) : wpC M A t Q E s := fun Γ p hi _ => h Γ p hi
theorem codeC_of {c : Code} {R : Result → Shared → Prop} (h : codeAny M A c R s) : codeC M A c R s := fun Γ p hc hb _ => h Γ p hc hb

theorem HasC.enter {Γ : Ctx} (h : HasC Γ) (c : Code) (hd : Option Value) (p : Pos) : HasC (Γ.enter c hd p) := by
  unfold HasC Ctx.enter
  rw [List.any_cons, Bool.or_eq_true]
  exact .inr h
theorem HasC.goto {Γ : Ctx} (h : HasC Γ) (c : Code) : HasC (Γ.goto c) := h

theorem wpC_mono {t : Sem α} {Q Q' : α → Shared → Prop} {E' : Value → Shared → Prop} (h : wpC M A t Q E s) (hQ : ∀ a s, Q a s → Q' a s) (hE : ∀ e s, E e s → E' e s) : wpC M A t Q' E' s :=
  fun Γ p hi hc => Sem.wp_mono M Γ t (fun a _ s' => hQ a s') (fun e _ s' => hE e s') p s (h Γ p hi hc)
theorem wpC_bind {m : Sem α} {f : α → Sem β} {Q : β → Shared → Prop} (h : wpC M A m (fun a s' => wpC M A (f a) Q E s') E s) : wpC M A (m >>= f) Q E s := fun Γ p hi hc => by
  rw [Sem.wp_bind']
  exact Sem.wp_mono M Γ m (fun _ p' _ x => x Γ p' hi hc) (fun _ _ _ x => x) p s (h Γ p hi hc)
/-- a plain part, and what follows it above the caller -/
theorem wpC_then {m : Sem α} {f : α → Sem β} {Q : β → Shared → Prop} (h : wpAny M A m (fun a s' => wpC M A (f a) Q E s') E s) : wpC M A (m >>= f) Q E s := wpC_bind (wpC_of h)
/-- a part above the caller, and a plain rest -/
theorem wpC_rest {m : Sem α} {f : α → Sem β} {Q : β → Shared → Prop} (h : wpC M A m (fun a s' => wpAny M A (f a) Q E s') E s) : wpC M A (m >>= f) Q E s :=
  wpC_bind (wpC_mono h (fun _ _ x => wpC_of x) fun _ _ x => x)
theorem wpC_pure {a : α} {Q : α → Shared → Prop} (h : Q a s) : wpC M A (pure a) Q E s := wpC_of (wpAny_pure h)
theorem wpC_tryCatch {m : Sem α} {k : Value → Sem α} {Q : α → Shared → Prop} (h : wpC M A m Q (fun e s' => wpC M A (k e) Q E s') s) : wpC M A (tryCatch m k) Q E s := fun Γ p hi hc => by
  rw [Sem.wp_tryCatch']
  exact Sem.wp_mono M Γ m (fun _ _ _ x => x) (fun _ p' _ x => x Γ p' hi hc) p s (h Γ p hi hc)
theorem wpC_onRaise {m : Sem α} {k : Value → Sem Unit} {Q : α → Shared → Prop} (h : wpC M A m Q (fun e s' => wpC M A (k e) (fun _ s'' => E e s'') E s') s) : wpC M A (m.onRaise k) Q E s := fun Γ p hi hc => by
  rw [Sem.wp_onRaise]
  exact Sem.wp_mono M Γ m (fun _ _ _ x => x) (fun _ p' _ x => x Γ p' hi hc) p s (h Γ p hi hc)
theorem wpC_attempt {m : Sem α} {Q : Except Value α → Shared → Prop} (h : wpC M A m (fun a => Q (.ok a)) (fun e => Q (.error e)) s) : wpC M A m.attempt Q E s := fun Γ p hi hc => by
  rw [Sem.wp_attempt]; exact h Γ p hi hc
theorem wpC_holding {vs : List Value} {m : Sem α} {Q : α → Shared → Prop} (h : wpC M A m Q E s) : wpC M A (holding vs m) Q E s := fun Γ p hi hc => by
  rw [Sem.wp_holding]; exact h Γ p hi hc
theorem wpC_keep {vs : List Value} {m : Sem α} {Q : α → Shared → Prop} (h : wpC M A m Q E s) : wpC M A (m.keep vs) Q E s := fun Γ p hi hc => by
  rw [Sem.wp_keep]; exact h Γ p hi hc
theorem wpC_release {vs ks : List Value} {Q : Unit → Shared → Prop} (h : Q () s) : wpC M A (release vs ks) Q E s := wpC_of (wpAny_release' h)
theorem wpC_operate {vs : List Value} {m : Sem Value} {Q : Value → Shared → Prop} (h : wpC M A m Q E s) : wpC M A (operate vs m) Q E s := fun Γ p hi hc => by
  rw [Sem.wp_operate]; exact h Γ p hi hc
theorem wpC_of_eq {m : Sem α} {a : α} {Q : α → Shared → Prop} (e : m = pure a) (h : Q a s) : wpC M A m Q E s := by rw [e]; exact wpC_pure h

theorem codeC_mono {c : Code} {R R' : Result → Shared → Prop} (h : codeC M A c R s) (hR : ∀ r s, R r s → R' r s) : codeC M A c R' s := fun Γ p hc hb hh => wpCode_mono hR (h Γ p hc hb hh)
theorem wpC_run {c : Code} {hd : Option Value} {Q : Flow → Shared → Prop} (h : codeC M (A.mark hd) c (fun r s' => match r with | .ok f => Q f s' | .error e => E e s') s) (hnb : hd ≠ some byPass := by intro x; cases x) :
    wpC M A (run c hd) Q E s := fun Γ p hi hc => by
  rw [Sem.wp_run]; exact h _ p rfl (hi.enter c hd p hnb) (hc.enter c hd p)
theorem wpC_runValue {c : Code} {Q : Value → Shared → Prop} (h : codeC M A c (fun r s' => match r with | .ok (.ret v) => Q v s' | .ok _ => False | .error e => E e s') s) : wpC M A (runValue c) Q E s := fun Γ p hi hc => by
  rw [Sem.wp_runValue]; exact h _ p rfl (hi.enter c none p (by intro x; cases x)) (hc.enter c none p)
theorem wpC_call {f : Value} {pos : List Value} {kw : List (Str × Value)} {Q : Value → Shared → Prop}
    (h : codeC M A (.call f ⟨pos, kw⟩) (fun r s' => match r with | .ok (.ret v) => Q v s' | .ok _ => False | .error e => E e s') s) : wpC M A (call f pos kw) Q E s := wpC_runValue h
theorem codeC_of_tree {c : Code} {R : Result → Shared → Prop}
    (h : wpC M (A.under c) (M.den c) (fun fin s' => match fin with | .done f => R (.ok f) s' | .again c' => c'.quiet = true ∧ codeC M A c' R s') (fun e s' => R (.error e) s') s) : codeC M A c R s := fun Γ p hc hb hh => by
  rw [wpCode_iff_wp, hc]
  refine Sem.wp_mono M Γ _ (fun fin p' s' x => ?_) (fun _ _ _ x => x) p s (h Γ p (hc ▸ hb.in) hh)
  cases fin with
  | done f => exact x
  | again c' => exact ⟨x.1, x.2 (Γ.goto c') p' rfl (hb.goto c') (hh.goto c')⟩
theorem codeC_loop {c : Code} {R : Result → Shared → Prop} (hq : c.quiet = true) (I : Nat → Shared → Prop)
    (turn : ∀ n s, I n s → wpC M (A.under c) (M.den c) (fun fin s' => match fin with | .done f => R (.ok f) s' | .again c' => c' = c ∧ ∃ m, m < n ∧ I m s') (fun e s' => R (.error e) s') s)
    (n : Nat) (h : I n s) : codeC M A c R s := by
  induction n using Nat.strongRecOn generalizing s with
  | ind n ih =>
    refine codeC_of_tree (wpC_mono (turn n s h) (fun fin s' x => ?_) fun _ _ x => x)
    cases fin with
    | done f => exact x
    | again c' => obtain ⟨rfl, m, hm, hI⟩ := x; exact ⟨hq, ih m hm hI⟩
end

/-- the claim's caller itself: what it calls runs above it -/
theorem caller_wp {prog : Program} {w : World} {f : Value} {vs : List Value} {Q : Value → Shared → Prop} {E : Value → Shared → Prop} {s : Shared}
    (h : codeC (model prog w) callerA (.call f ⟨vs, []⟩) (fun r s' => match r with | .ok (.ret v) => Q v s' | .ok _ => False | .error e => E e s') s) (p : Pos) :
    Sem.wp (model prog w) ⟨.builtin "claim.caller" {}, none, none, [], none⟩ (call f vs) (fun a _ s' => Q a s') (fun e _ s' => E e s') p s := by
  unfold call
  rw [Sem.wp_runValue]
  exact h _ p rfl (caller_in.enter _ none p (by intro x; cases x)) (by unfold HasC; rfl)

abbrev WalkC (q : Program) (loose : List Str) (XP : (Str → Option Value) → Heap → Prop) (YP : World → Heap → Prop) (r : RowW) (d : DefRec) (kwd : List (Str × Expr)) : Prop :=
  ∀ (w : World) (s₀ s₁ : Shared) (mg mb : Str → Option Value), Ground q loose r.records XP w s₀ mg mb s₁.heap → YP w s₁.heap → ∀ (a : Addr) (o : Obj) (pm cd doc dV kV : Value), s₁.heap.get? a = some o →
    o.data = .func { docDef d.name d.params d.body d.scope pm cd doc with defaults := dV, kwdefaults := kV } → s₁.heap.CodeRec cd d.name → Dflts mg s₁.heap d.params kwd dV kV → mg d.name = some (.ref a) → s₁.gens = #[] →
    ∀ (args : List WData) (vals : List Value) (as : List Addr), r.claim.pre args = true → WData.layableAll args = true → ReadsAllW r.records (classAt s₀.heap) s₁.heap vals args as → WellAll w.params s₁.heap vals args → (∀ a ∈ as, (a == sysModules) = false) →
      codeC (model r.prog w) callerA (.call (.ref a) ⟨vals, []⟩) (fun x s' => GoodWG r.claim (classAt s₀.heap) (ExcName.means s₀.heap) args s₁ x s') s₁

theorem PySem.W.holds_open {r : OpenRow} {q : Program} {loose : List Str} {Xt : Shared → Bool} {XP : (Str → Option Value) → Heap → Prop} {α : Type} {Yf : Shared → α} {Ya : World → α} {YP : World → Heap → Prop} {d : DefRec} {kwd : List (Str × Expr)} {N : Nat}
    (left : LeftO r.prog q loose Xt Yf Ya N) (hY : ∀ w s, Yf s = Ya w → YP w s.heap) (hYk : ∀ w h h', YP w h → (∀ b o, h.get? b = some o → h'.get? b = some o) → YP w h')
    (hX : ∀ s, Xt s = true → XP (s.heap.nsMap mainGlobals) s.heap) (hXk : ∀ mg h h', XP mg h → (∀ b o, h.get? b = some o → h'.get? b = some o) → XP mg h')
    (hdef : defOf q r.name = some (d, kwd)) (hp : r.prog.theDef r.name = some (d.params, d.body, d.scope)) (hk : kwWritten? d.params.kwonlyargs d.params.kw_defaults = some kwd) (hRf : ∀ s, Xt s = true → RecFacts r.records s.heap) (hwr : (!r.writes || r.records.isEmpty) = true)
    (k1 : r.wellSaid = true) (ok : (chainsOk q && opensWell r.prog && (frees r.toRowW && r.within.isEmpty)) = true) (hb : r.prog.bare) (hw : r.toRowW.promised)
    (walk : WalkC q loose XP YP r.toRowW d kwd) : r.Holds := by
  obtain ⟨ok, k5⟩ := Bool.and_eq_true_iff.mp ok
  obtain ⟨hch, o1⟩ := Bool.and_eq_true_iff.mp ok
  obtain ⟨k5, k6⟩ := Bool.and_eq_true_iff.mp k5
  obtain ⟨hsame, hu, ha, hap, hm⟩ := frees_parts k5
  have hwi : r.toRowW.claim.within = [] := List.isEmpty_iff.mp k6
  refine ⟨k1, hw, ⟨hb, o1, by show r.makers.map _ = []; rw [hm]; rfl⟩, hw.witness, fun w => ⟨(left.behind hX hch w).1, fun s' hs' => ?_⟩⟩
  obtain ⟨s₀, hf, _, s, hT, hz, hgens, hg, G00, y⟩ := (left.behind (XP := fun mg h => XP mg h ∧ RecFacts r.records h) (fun s hs => ⟨hX s hs, hRf s hs⟩) hch w).2 s' hs'
  have G0 : Ground q loose [] XP w s (s.heap.nsMap mainGlobals) (s.heap.nsMap builtinsNs) s.heap := { G00 with X := G00.X.1 }
  refine ⟨s₀, hf, ‹_›, s, hT, fun n hn => ?_, G00.X.2.1, G00.X.2.2.1, ?_⟩
  · obtain rfl : n = r.name := by split at hn <;> simp_all
    exact pinned_of_view hg G0 hdef hp hk
  have hgens : s.gens = #[] := Array.eq_empty_of_size_eq_zero (beq_iff_eq.mp hgens)
  have G : Ground q loose r.records XP w s _ _ s.heap := G00.X.2.ground G0
  intro args hpre hlay ord hord
  obtain ⟨⟨vs, s₁⟩, hlaid⟩ := Option.isSome_iff_exists.mp (layAllW_isSome (P := w.params) (ord := ord) G.has args r.args s (pre_splitW hpre).1)
  have keeps := layAllW_keeps _ _ _ hlaid
  have hal := layAllW_rest _ _ _ hlaid
  obtain ⟨as, hrd, hin, hold⟩ := reads_layAllW hord _ _ _ hlaid hlay s₁.heap (fun _ _ e => e)
  have L : Laid r.records w s s₁ args vs as := ⟨⟨ord, hord, hlaid⟩, hrd, hin, hold, keeps, hal.1.trans hgens, hal.2.2.1⟩
  have G₁ := G.keeps hXk keeps
  obtain ⟨a, o, pm, cd, doc, dV, kV, h1, h2, h3, h4, h5⟩ := G₁.fn hdef
  have code := walk w s s₁ _ _ G₁ (hYk _ _ _ (hY w s y) keeps) a o pm cd doc dV kV h2 h3 h4 h5 (defOf_name hdef ▸ h1) L.gens args vs as hpre hlay L.reads L.well (L.low G.low)
  have hi := ident_freeW hu ha hap
  have fin (x : Result) (t : Shared) (g : GoodWG r.toRowW.claim (classAt s.heap) (ExcName.means s.heap) args s₁ x t) := g.laid hsame hwi hi L
  -- the run of the thread
  let kept : Heap → Prop := fun h' => r.writes = true → namesKept r.prog r.keeps s.heap h' ∧ ∀ x ∈ r.records, ∀ a, classAt s.heap x.1 = some a → recordClass h' a x.1 (x.2.map (·.1)) = true
  let R : Result → Shared → Prop := fun x t => r.toRowW.claim.Ends s args vs s₁ x t ∧ t.os = s.os ∧ kept t.heap
  have good : ∀ x t, GoodWG r.toRowW.claim (classAt s.heap) (ExcName.means s.heap) args s₁ x t → R x t ∧ leftWithCleanup t.gens = false := fun x t g =>
    have z := g.laid hsame hwi hi L
    ⟨⟨z.1, z.2.1, fun q => ⟨namesKept_of hT hg r.keeps keeps g.2.1.old, noTable hwr q⟩⟩, leftWithCleanup_false_of_bare z.2.2⟩
  have look := wpAny_nsGet (M := model r.prog w) (A := callerA) (E := fun _ _ => False) (Q := fun v t => v = some (.ref a) ∧ t = s₁) (name := r.name) G₁.T.g ⟨h1, rfl⟩ _ default caller_in
  obtain ⟨k, x, s₂, t, hsched, hrun, hfo, ⟨hends, hos, hkp⟩⟩ := wp_halts_full (M := model r.prog w) (c := .builtin "claim.caller" {}) (p := default) (R := R) (s := s₁)
    (t := do match ← nsGet mainNs r.name with | some f => do ret (← PySem.call f vs) | none => unsupported "claim.caller:no-such-global")
    (Shared.asleep_of_life hal.2.2.2 hz) (by
      rw [Sem.wp_bind']
      refine Sem.wp_mono _ _ _ (fun v p t e => ?_) (fun _ _ _ e => e.elim) _ _ look
      obtain ⟨rfl, rfl⟩ := e
      rw [Sem.wp_bind']
      refine Sem.wp_mono _ _ _ (fun v p t e => ?_) (fun _ _ _ e => e) _ _ (caller_wp (Q := fun v t => R (.ok (.ret v)) t ∧ leftWithCleanup t.gens = false) (E := fun e t => R (.error e) t ∧ leftWithCleanup t.gens = false) (codeC_mono code fun x t g => ?_) p)
      · exact e
      · have z := good x t g
        rcases g.1 with ⟨_, _, _, rfl, _⟩ | ⟨_, _, _, rfl, _⟩ <;> exact z)
  obtain ⟨eh, _, _, eo, _⟩ := Shared.forget_eq hfo
  have hlife : t.heap.life = s.heap.life := (runN_life _ _ _ hrun).trans hal.2.2.2
  rw [← eo] at hos
  refine ⟨vs, s₁, hlaid, k, _, t, hsched, ?_, (fun _ i x hx => by rw [hgens] at hx; simp at hx), (show kept t.heap from eh ▸ hkp), by rw [hlife], Shared.rest_eq hos⟩
  rcases ClaimW.Ends.congr eh hends with ⟨v, rfl, d1, d2, d3, d4, d5⟩ | ⟨e, ob, cls, rfl, d1, d2, d3, d4, d5⟩
  · exact .inl ⟨v, rfl, d1, d2, d3, fun b o y _ => d4 b o y, d5⟩
  · exact .inr ⟨e, ob, cls, rfl, d1, d2, d3, d4, fun b o y _ => d5 b o y⟩
end Mine
end

section
open PySem PySem.W PySem.W.X PySem.Calls PyProof.Rows
set_option maxRecDepth 100000
set_option maxHeartbeats 8000000
namespace Mine
open_top hd for PySem.Challenge.rw_il0025_01
end Mine
end

section
open PySem PySem.W PySem.W.X PySem.Calls PyProof.Rows
set_option maxRecDepth 100000
set_option maxHeartbeats 8000000
namespace Mine
abbrev PG : Program := PySem.Challenge.pw_il0025_01
/-- a plain surrounding with room above and below -/
def XA : Around := { depth := 600, units := 8000 }
abbrev TopF (mean : ExcName → Option Value) (mg mb : Str → Option Value) (h : Heap) : Prop := Top Mine.hd.view_39 [Str.ofString "_tuplegetter", Str.ofString "Pair"] mean mg mb h

theorem weaken {M : Model} {A : Around} {α : Type} {t : Sem α} {Q : α → Shared → Prop} {E : Value → Shared → Prop} {s : Shared} (hh : A.handled = none) (hd : A.depth ≤ 600) (hu : A.units ≤ 8000)
    (h : wpAny M XA t Q E s) : wpAny M A t Q E s := fun Γ p hΓ => h Γ p ⟨hΓ.1.trans hh, Nat.le_trans hΓ.2.1 hd, fun _ e => (nomatch e), fun _ e => (nomatch e), Nat.le_trans hΓ.2.2.2.2 hu⟩

/-- what a part of a run leaves: all that stood stands, and the objects made, newest first -/
structure Nw (h h' : Heap) (nw : List (Addr × Obj)) : Prop where
  keep : ∀ b o, h.get? b = some o → h'.get? b = some o
  new : ∀ p ∈ nw, h'.get? p.1 = some p.2 ∧ h.get? p.1 = none
theorem Nw.refl (h : Heap) : Nw h h [] := ⟨fun _ _ e => e, fun _ e => nomatch e⟩
theorem Nw.of_mem {h h' : Heap} {nw : List (Addr × Obj)} (D : Mem h h' [] nw) : Nw h h' nw := ⟨fun b o e => D.keep b o e (by rw [Bool.or_eq_true]; exact .inr rfl), fun p hp => D.nw p hp⟩
theorem Nw.sub {h h' : Heap} {nw nw' : List (Addr × Obj)} (x : Nw h h' nw) (hs : ∀ p ∈ nw', p ∈ nw) : Nw h h' nw' := ⟨x.keep, fun p hp => x.new p (hs p hp)⟩
theorem Nw.trans {h h' h'' : Heap} {nw nw' : List (Addr × Obj)} (x : Nw h h' nw) (y : Nw h' h'' nw') : Nw h h'' (nw' ++ nw) := ⟨fun b o e => y.keep b o (x.keep b o e), fun p hp => by
  rcases List.mem_append.mp hp with hp | hp
  · refine ⟨(y.new p hp).1, ?_⟩
    cases q : h.get? p.1 with
    | none => rfl
    | some o => have := x.keep _ _ q; rw [(y.new p hp).2] at this; cases this
  · exact ⟨y.keep _ _ (x.new p hp).1, (x.new p hp).2⟩⟩
theorem Nw.fr {h₀ h h' : Heap} {L : Addr} {m : Str → Option Value} {nw : List (Addr × Obj)} (x : Nw h h' nw) (F : Fr h₀ L h m) : Fr h₀ L h' m := F.keeps x.keep
theorem Nw.news {h₀ h h' : Heap} {L : Addr} {m : Str → Option Value} {nw news : List (Addr × Obj)} (x : Nw h h' nw) (F : Fr h₀ L h m) (N : News h₀ L h news) : News h₀ L h' (nw ++ news) := fun p hp => by
  rcases List.mem_append.mp hp with hp | hp
  · obtain ⟨a, b⟩ := x.new p hp
    refine ⟨a, fun e => ?_, ?_⟩
    · obtain ⟨oL, _, _, hL, _⟩ := F.ns
      rw [e, hL] at b; cases b
    · cases q : h₀.get? p.1 with
      | none => rfl
      | some o => have := F.keep _ _ q; rw [b] at this; cases this
  · exact ⟨x.keep _ _ (N p hp).1, (N p hp).2⟩

/-- a tree that comes back, with what, and what it made -/
def Yields {α : Type} (M : Model) (A : Around) (t : Sem α) (s : Shared) (post : α → List (Addr × Obj) → Prop) : Prop :=
  ∀ (Q : α → Shared → Prop) (E : Value → Shared → Prop), (∀ v h' tk nw, Nw s.heap h' nw → post v nw → Q v { s with heap := h', toks := tk }) → wpAny M A t Q E s
theorem Yields.weaken {α : Type} {M : Model} {A : Around} {t : Sem α} {s : Shared} {post : α → List (Addr × Obj) → Prop} (y : Yields M XA t s post) (hh : A.handled = none) (hd : A.depth ≤ 600) (hu : A.units ≤ 8000) : Yields M A t s post :=
  fun Q E h => Mine.weaken hh hd hu (y Q E h)

/-- what x_run asks of its end -/
def XK {α : Type} (s : Shared) (Q : α → Shared → Prop) (post : α → List (Addr × Obj) → Prop) : Prop :=
  ∀ v (h' : Heap) (tk : Nat) (nw : List (Addr × Obj)), Nw s.heap h' nw → post v nw → Q v ⟨h', s.gens, s.drawn, tk, s.os⟩
theorem xk_use {α : Type} {s : Shared} {Q : α → Shared → Prop} {post : α → List (Addr × Obj) → Prop} (K : XK s Q post) {v : α} {h' : Heap} {tk : Nat} {nw : List (Addr × Obj)} (D : Mem s.heap h' [] nw) (hp : post v nw) :
    Q v ⟨h', s.gens, s.drawn, tk, s.os⟩ := K v h' tk nw (.of_mem D) hp
theorem yields_of_xk {α : Type} {M : Model} {t : Sem α} {s : Shared} {post : α → List (Addr × Obj) → Prop} (h : ∀ (Q : α → Shared → Prop) (E : Value → Shared → Prop), XK s Q post → wpAny M XA t Q E s) : Yields M XA t s post := fun Q E k => h Q E k

/-- a run of the engine may begin at any tree: behind a call that does nothing -/
def idle : Sem Value := runValue (.builtin "proto.let_go" {})
theorem den_builtin {prog : Program} {w : World} (id : String) (args : Args) :
    (model prog w).den (.builtin id args) = (match entryFor table id with | some b => b args | none => unsupported ((withoutEnding? id "#data").getD id)) := rfl
theorem idle_back {prog : Program} {w : World} {α : Type} {A : Around} {t : Sem α} {Q : α → Shared → Prop} {E : Value → Shared → Prop} {s : Shared} (h : wpAny (model prog w) A (idle >>= fun _ => t) Q E s) : wpAny (model prog w) A t Q E s := fun Γ p hΓ => by
  have z := h Γ p hΓ
  rw [Sem.wp_bind'] at z
  unfold idle at z
  rw [Sem.wp_runValue] at z
  obtain ⟨r, s', hr, hR⟩ := z
  have e : (model prog w).den (.builtin "proto.let_go" {}) = pure (.done (.ret .none)) := by
    rw [den_builtin, entry_let_go]; rfl
  unfold Returns at hr
  rw [show (Γ.enter (.builtin "proto.let_go" {}) none p).code = .builtin "proto.let_go" {} from rfl, e] at hr
  cases hr
  exact hR
end Mine
end

section
open PySem PySem.W PySem.W.X PySem.Calls PyProof.Rows
set_option maxRecDepth 100000
set_option maxHeartbeats 8000000
namespace Mine
abbrev TR (mg mb : Str → Option Value) (h : Heap) : Prop := TopRead Mine.hd.view_39 [Str.ofString "_tuplegetter", Str.ofString "Pair"] mg mb h
theorem enter {prog : Program} {w : World} {A : Around} {s : Shared} {K : Frag} {R : Result → Shared → Prop} {name qual : Str} {params : Arguments} {body : List Stmt} {scope : Scope} {dV kV doc pm cdv ct oc : Value} {an od : Option Addr} {osl : Array (Option Value)} {f : Addr} {args : Args} {binds : List (Str × Value)}
    (X : K.In s.heap) (ho : K.lookup f = some ⟨oc, od, .func (fnOf name qual params body scope dV kV doc pm an cdv ct), osl⟩) (hcd : codeIn K cdv qual = true) (hlim : s.heap.NoLimit) (hroom : A.depth < recursionLimit)
    (hbind : BindsTo s (fnOf name qual params body scope dV kV doc pm an cdv ct) args binds) (hkind : (binds.all fun y => scope.names.lookup y.1 == some .local || scope.names.lookup y.1 == some .cell) = true)
    (hnd : ((cellsFrom 0 scope.names []).map (·.1)).Nodup)
    (h : ∀ L h₁ tk cells, Fr s.heap L h₁ (bindL (envOfC qual scope L f cdv).kindOf binds fun _ => none) → News s.heap L h₁ cells →
      CellsAre (bindC (envOfC qual scope L f cdv).kindOf binds fun _ => none) (cellsFrom (L + 1) scope.names []) cells →
      wpAny (model prog w) (A.deeper (envOfC qual scope L f cdv)) (execs body (envOfC qual scope L f cdv))
        (fun fl s' => R (.ok (.ret (match fl with | .ret v => v | _ => .none))) s')
        (fun e s' => wpAny (model prog w) (A.deeper (envOfC qual scope L f cdv)) (leaving (envOfC qual scope L f cdv) e) (fun _ s'' => R (.error e) s'') (fun e' s'' => R (.error e') s'') s')
        { s with heap := h₁, toks := tk })
    (hco : scope.isCoroutine = false := by rfl) (hgen : scope.isGenerator = false := by rfl) (hk : scope.kind = .function := by rfl) : codeAny (model prog w) A (.call (.ref f) args) R s := by
  refine codeAny_call_function hroom (X _ _ ho) rfl hco hgen rfl (codeRec_of X hcd) (hbind _ _ _ _ ?_)
  refine wpAny_newFunctionEnv_cells hk (kindsX hkind _) fun env he s' x => ?_
  subst he
  refine ⟨hlim.keeps x.toInCall.keep, codeAny_func ?_⟩
  obtain ⟨h₁, tk, rfl, _⟩ := x.done
  obtain ⟨cells, NC, Y⟩ := Cl.news (h₀ := s.heap) (Nat.le_refl _) fun n c hm => ⟨x.cell n c (lookup_of_mem_nodup (cellsFrom_names scope.names 0 (s.heap.objs.size + 1) [] [] rfl ▸ hnd) hm), x.above n c hm⟩
  exact h s.heap.objs.size h₁ tk cells ⟨x.toInCall.ns, x.toInCall.keep, Nat.le_refl _⟩ NC Y

theorem cells_nil {cm : Str → Option Value} {cells : List (Addr × Obj)} (Y : CellsAre cm [] cells) : cells = [] := by cases Y; rfl
end Mine
end

section
open PySem PySem.W PySem.Calls PyProof.Rows
set_option maxRecDepth 100000
namespace Mine
section
variable {prog : Program} {w : World} {A : Around} {R : Result → Shared → Prop} {E : Value → Shared → Prop} {s : Shared} {env : Env}

theorem codeC_call_function {a : Addr} {args : Args} {o : Obj} {fd : FuncData} {body : List Stmt} (hroom : A.depth < recursionLimit)
    (ho : s.heap.get? a = some o)
    (hd' : o.data = .func fd) (hco : fd.scope.isCoroutine = false) (hgen : fd.scope.isGenerator = false) (hbody : fd.body = .stmts body) (hcd : s.heap.CodeRec fd.code fd.qualname)
    (h : wpAny (model prog w) A.in1 (bindArgs fd args) (fun binds s₁ =>
      wpAny (model prog w) A.in1 (newFunctionEnv fd.scope fd.globals fd.closure binds (fd.qualname ++ ".<locals>.") (some a) fd.code none fd.builtins)
        (fun env s₂ => s₂.heap.NoLimit ∧ codeC (model prog w) A (.func body env) R s₂) (fun e s' => R (.error e) s') s₁) (fun e s' => R (.error e) s') s) :
    codeC (model prog w) A (.call (.ref a) args) R s := by
  refine codeC_of_tree (wpC_of ?_)
  show wpAny _ A.in1 (callAny (.ref a) args) _ _ s
  simp only [callAny]
  refine wpAny_bind (wpAny_load ho ?_)
  obtain ⟨c, oc, vs, tq, hc, hoc, hdc, hq⟩ := hcd
  simp only [hd', callFunction, hco, hgen, hbody, hc]
  rw [hc] at h
  refine wpAny_bind (m := field (.ref c) 1) (wpAny_field hoc hdc hq (wpAny_bind (wpAny_pure ?_)))
  exact wpAny_bind (wpAny_mono h (fun binds s₁ h₁ => wpAny_bind (wpAny_mono h₁ (fun env s₂ h₂ => wpAny_bind (wpAny_enterFrame h₂.1 hroom
    (wpAny_pure (And.intro rfl h₂.2)))) fun _ _ h' => h')) fun _ _ h' => h')

theorem codeC_func {body env}
    (h : wpC (model prog w) (A.deeper env) (execs body env) (fun f s' => R (.ok (.ret (match f with | .ret v => v | _ => .none))) s')
      (fun e s' => wpAny (model prog w) (A.deeper env) (leaving env e) (fun _ s'' => R (.error e) s'') (fun e' s'' => R (.error e') s'') s') s) :
    codeC (model prog w) A (.func body env) R s := by
  refine codeC_of_tree ?_
  show wpC _ (A.deeper env) (do point; match ← (execs body env).onRaise (leaving env) with | .ret v => ret v | _ => ret .none) _ _ s
  refine wpC_then (wpAny_point (wpC_bind (wpC_onRaise (wpC_mono h (fun f s' h' => ?_) fun _ _ h' => wpC_of h'))))
  cases f <;> exact wpC_pure h'

theorem wpC_execs_cons {M : Model} {st rest} {Q : Flow → Shared → Prop}
    (h : wpC M A (exec st env) (fun f s' => match f with | .next => wpC M A (execs rest env) Q E s' | f => Q f s') E s) :
    wpC M A (execs (st :: rest) env) Q E s := by
  rw [execs_cons]
  refine wpC_bind (wpC_mono h (fun f s' h' => ?_) fun _ _ x => x)
  cases f <;> first | exact h' | exact wpC_pure h'

theorem wpC_Return {M : Model} {e pos} {Q : Flow → Shared → Prop} (h : wpC M A (eval e env) (fun v => Q (.ret v)) E s) :
    wpC M A (exec (.Return (some e) pos) env) Q E s := fun Γ p hi hc => by
  simp only [exec_Return_some, Sem.wp_bind', Sem.wp_cmd_standAt, Sem.wp_pure']; exact h Γ _ hi hc

theorem wpC_Assign_Name {M : Model} {x pos' value pos} {Q : Flow → Shared → Prop}
    (h : wpC M A (eval value env) (fun v s₁ => wpC M A (storeName env x v) (fun _ => Q .next) E s₁) E s)
    (hs : swapsWith value (some (.Name x pos')) pos.line env = pure false := by rfl) :
    wpC M A (exec (.Assign [.Name x pos'] value pos) env) Q E s := fun Γ p hi hc => by
  simp only [exec_Assign_Name env x pos' value pos hs, Sem.wp_bind', Sem.wp_cmd_standAt, Sem.wp_bindName, Sem.wp_pure']
  exact Sem.wp_mono M Γ _ (fun v _ s₁ h₁ => h₁ Γ _ hi hc) (fun _ _ _ h' => h') _ _ (h Γ _ hi hc)

theorem wpC_tryStmt {M : Model} {body orelse : Sem Flow} {h₀ : ExceptHandler} {hs : List ExceptHandler} {Q : Flow → Shared → Prop}
    (h : wpC M A body (fun f s₁ => match f with | .next => wpC M A orelse Q E s₁ | f => Q f s₁)
      (fun e s₁ => wpAny M A (noteFrame e env) (fun _ s₂ => wpAny M A (setFlight e none) (fun _ s₃ => wpAny M A (handleBy e env (h₀ :: hs)) Q E s₃) E s₂) E s₁) s) :
    wpC M A (tryStmt false body (h₀ :: hs) orelse [] env) Q E s := by
  unfold tryStmt
  simp only [List.isEmpty_nil, if_true, List.isEmpty_cons, Bool.false_and, Bool.false_eq_true, if_false]
  refine wpC_bind (wpC_attempt (wpC_mono h (fun f s₁ h₁ => ?_) fun e s₁ h₁ => ?_))
  · cases f <;> first | exact h₁ | exact wpC_pure h₁
  · exact wpC_of (wpAny_bind (wpAny_mono h₁ (fun _ _ h₂ => wpAny_bind h₂) fun _ _ x => x))
theorem wpC_Try {M : Model} {body orelse : List Stmt} {h₀ : ExceptHandler} {hs : List ExceptHandler} {pos : Pos} {Q : Flow → Shared → Prop}
    (h : wpC M A (execs body env) (fun f s₁ => match f with | .next => wpC M A (execs orelse env) Q E s₁ | f => Q f s₁)
      (fun e s₁ => wpAny M A (noteFrame e env) (fun _ s₂ => wpAny M A (setFlight e none) (fun _ s₃ => wpAny M A (handleBy e env (h₀ :: hs)) Q E s₃) E s₂) E s₁) s) :
    wpC M A (exec (.Try body (h₀ :: hs) orelse [] pos) env) Q E s := by
  rw [arm_exec_Try]
  exact wpC_then (wpAny_standAt (wpC_tryStmt h))

theorem wpC_callWith {M : Model} {pos : Pos} {f : Value} {first : List Value} {Q : Value → Shared → Prop} {args : List (Bool × Sem Value)} {P : Heap → Prop}
    (hk : ∀ h, P h → ∃ k, (k = Keeper.frame ∨ k = Keeper.machine ∨ k = Keeper.boundFrame) ∧ Looks M h (keeperOf f) k)
    (h : wpAny M A (evalArgs f true args []) (fun a s₁ => P s₁.heap ∧ wpC M A (call f (first ++ a.pos) a.kw) Q E s₁) E s) : wpC M A (callWith pos f first args []) Q E s := by
  unfold callWith
  refine wpC_then (wpAny_holding (wpAny_mono h (fun a s₁ h₁ => wpC_then (wpAny_standAt ?_)) fun _ _ x => x))
  obtain ⟨k, hk', L⟩ := hk _ h₁.1
  refine wpC_then (L.here ?_)
  have tail : ∀ {t : Sem Value}, wpC M A t Q E s₁ → wpC M A (t >>= fun r => holding [r] point >>= fun _ => pure r) Q E s₁ :=
    fun ht => wpC_bind (wpC_mono ht (fun r s₂ hr => wpC_of (wpAny_bind (wpAny_holding (wpAny_point (wpAny_pure hr))))) fun _ _ x => x)
  have marked (mk : Value) : wpC M A (callMarked mk f (first ++ a.pos) a.kw) Q E s₁ := by unfold callMarked; exact wpC_keep h₁.2
  generalize (args.any (·.1) || ([] : List (Option Str × Sem Value)).any (·.1.isNone)) = b
  cases b <;> rcases hk' with rfl | rfl | rfl <;> dsimp only <;> first | exact tail h₁.2 | exact tail (marked _) | exact tail (wpC_operate h₁.2) | (split <;> first | exact tail h₁.2 | exact tail (marked _) | exact tail (wpC_operate h₁.2)) | skip
end
end Mine
end

section
open PySem PySem.W PySem.W.X PySem.Calls PyProof.Rows
set_option maxRecDepth 100000
set_option maxHeartbeats 8000000
namespace Mine
section
variable {M : Model} {A : Around} {E : Value → Shared → Prop} {s : Shared} {K : Frag} {h₀ : Heap} {L C : Addr} {m mg mb : Str → Option Value} {scope : Scope} {cl : List (Str × Addr)} {env : Env} {p : Program} {loose : List Str} {x : Str} {pos : Pos} {v : Value} {Q : Value → Shared → Prop}
theorem ldC_global (F : Fr h₀ L s.heap m) (X : K.In h₀) (T : TopRead p loose mg mb h₀) (e : nsIn K mainGlobals x = some (some v)) (h : Q v s) (hg : env.globals = mainGlobals := by rfl)
    (hk : (compEnvC scope cl C env).scope.kind = .function := by rfl) (hx : (compEnvC scope cl C env).kindOf x = some .globalImplicit := by rfl) (hd : (x == ("__debug__" : Str)) = false := by decide) :
    wpAny M A (eval (.Name x pos) (compEnvC scope cl C env)) Q E s :=
  Name_function_global hk hx (loadGlobal_global (env := compEnvC scope cl C env) (show s.heap.Ns env.globals mg from hg ▸ (T.keeps F.keep).g) (mg_of X T.g e) h) hd
theorem ldC_built (F : Fr h₀ L s.heap m) (X : K.In h₀) (T : TopRead p loose mg mb h₀) (e : nsIn K mainGlobals x = some none) (hv : bootBuiltins x = some v) (hn : x ≠ "__name__") (h : Q v s) (hg : env.globals = mainGlobals := by rfl) (hb : env.builtins = builtinsNs := by rfl)
    (hk : (compEnvC scope cl C env).scope.kind = .function := by rfl) (hx : (compEnvC scope cl C env).kindOf x = some .globalImplicit := by rfl) (hd : (x == ("__debug__" : Str)) = false := by decide) :
    wpAny M A (eval (.Name x pos) (compEnvC scope cl C env)) Q E s :=
  Name_function_global hk hx (loadGlobal_builtin (env := compEnvC scope cl C env) (show s.heap.Ns env.globals mg from hg ▸ (T.keeps F.keep).g) (mg_none_of X T.g e) (show s.heap.Ns env.builtins mb from hb ▸ (T.keeps F.keep).b) ((T.builtins x hn).trans hv) h) hd
end
theorem comp_end1 {h₀ h' : Heap} {L I C D : Addr} {m : Str → Option Value} {s₁ : Shared} {oI oC oD : Obj} {P : List (Addr × Obj) → Prop} {rest : Value → List (Addr × Obj) → Prop} {y : Value} {tk : Nat} {x : Addr × Obj} {news : List (Addr × Obj)}
    (F : Fr h₀ L h' m) (N : News h₀ L h' (x :: (I, oI) :: (C, oC) :: (D, oD) :: news)) (hI : I < x.1) (hC : C < x.1) (hD : D < x.1) (off : LCg.Off3 I C D news) (hS : P (x :: news)) (r : rest y (x :: news)) :
    LCg.CompEnd h₀ L m s₁ I oI C oC D oD P rest y { s₁ with heap := h', toks := tk } :=
  LCg.CompEnd.intro F N (x :: news) (fun p hp => by
    simp only [List.mem_cons] at hp ⊢
    rcases hp with h | h | h | h | h
    · exact .inr (.inl h)
    · exact .inr (.inr (.inl h))
    · exact .inr (.inr (.inr (.inl h)))
    · exact .inl h
    · exact .inr (.inr (.inr (.inr h)))) ⟨⟨Ne.symm (Nat.ne_of_lt hI), Ne.symm (Nat.ne_of_lt hC), Ne.symm (Nat.ne_of_lt hD)⟩, off⟩ hS r
/-- a goal that the walk leaves alone -/
structure Hold (P : Prop) : Prop where
  h : P
end Mine
end

section
open PySem PySem.W PySem.W.X PySem.Calls PyProof.Rows
set_option maxRecDepth 100000
set_option maxHeartbeats 8000000
namespace Mine
section
variable {M : Model} {A : Around} {R : Result → Shared → Prop} {E : Value → Shared → Prop} {s : Shared} {env : Env}
theorem wpC_CallName {x : Str} {np pos : Pos} {args : List Expr} {Q : Value → Shared → Prop}
    (h : wpAny M A (eval (.Name x np) env) (fun f s₁ => wpC M A (callWith pos f [] (backTo pos (starEach args env)) []) Q E s₁) E s) :
    wpC M A (eval (.Call (.Name x np) args [] pos) env) Q E s := by
  show wpC M A (do callWith pos (← eval (.Name x np) env) [] (backTo pos (starEach args env)) (backToKw pos (keywordEach [] env))) Q E s
  exact wpC_then h
theorem wpC_methodCall {name : Str} {o : Expr} {apos pos : Pos} {args : List Expr} {pl : Sem Bool} {Q : Value → Shared → Prop}
    (h : wpAny M A (eval o env) (fun ov s₁ => wpAny M A (getMethod ov name pl) (fun fx s₂ => wpC M A (callWith pos fx.1 fx.2 (backTo pos (starEach args env)) []) Q E s₂) E s₁) E s)
    (he : eval (.Call (.Attribute o name apos) args [] pos) env = (do
      let ov ← eval o env
      standAt apos.atName
      let (f, first) ← holding [ov] (getMethod ov name pl)
      callWith pos f first (backTo pos (starEach args env)) []) := by rfl) :
    wpC M A (eval (.Call (.Attribute o name apos) args [] pos) env) Q E s := by
  rw [he]
  refine wpC_then (wpAny_mono h (fun ov s₁ h₁ => wpC_then (wpAny_standAt (wpC_then (wpAny_holding (wpAny_mono h₁ (fun fx s₂ h₂ => ?_) fun _ _ x => x))))) fun _ _ x => x)
  exact h₂
end
theorem enterR {prog : Program} {w : World} {A : Around} {s : Shared} {K : Frag} {R : Result → Shared → Prop} {name qual : Str} {params : Arguments} {body : List Stmt} {scope : Scope} {dV kV doc pm cdv ct oc : Value} {an od : Option Addr} {osl : Array (Option Value)} {f : Addr} {args : Args} {binds : List (Str × Value)}
    (X : K.In s.heap) (ho : K.lookup f = some ⟨oc, od, .func (fnOf name qual params body scope dV kV doc pm an cdv ct), osl⟩) (hcd : codeIn K cdv qual = true) (hlim : s.heap.NoLimit) (hroom : A.depth < recursionLimit)
    (hbind : BindsTo s (fnOf name qual params body scope dV kV doc pm an cdv ct) args binds) (hkind : (binds.all fun y => scope.names.lookup y.1 == some .local || scope.names.lookup y.1 == some .cell) = true)
    (hnd : ((cellsFrom 0 scope.names []).map (·.1)).Nodup)
    (h : ∀ L h₁ tk cells, Fr s.heap L h₁ (bindL (envOfC qual scope L f cdv).kindOf binds fun _ => none) → News s.heap L h₁ cells →
      CellsAre (bindC (envOfC qual scope L f cdv).kindOf binds fun _ => none) (cellsFrom (L + 1) scope.names []) cells →
      wpC (model prog w) (A.deeper (envOfC qual scope L f cdv)) (execs body (envOfC qual scope L f cdv))
        (fun fl s' => R (.ok (.ret (match fl with | .ret v => v | _ => .none))) s')
        (fun e s' => wpAny (model prog w) (A.deeper (envOfC qual scope L f cdv)) (leaving (envOfC qual scope L f cdv) e) (fun _ s'' => R (.error e) s'') (fun e' s'' => R (.error e') s'') s')
        { s with heap := h₁, toks := tk })
    (hco : scope.isCoroutine = false := by rfl) (hgen : scope.isGenerator = false := by rfl) (hk : scope.kind = .function := by rfl) : codeC (model prog w) A (.call (.ref f) args) R s := by
  refine codeC_call_function hroom (X _ _ ho) rfl hco hgen rfl (codeRec_of X hcd) (hbind _ _ _ _ ?_)
  refine wpAny_newFunctionEnv_cells hk (kindsX hkind _) fun env he s' x => ?_
  subst he
  refine ⟨hlim.keeps x.toInCall.keep, codeC_func ?_⟩
  obtain ⟨h₁, tk, rfl, _⟩ := x.done
  obtain ⟨cells, NC, Y⟩ := Cl.news (h₀ := s.heap) (Nat.le_refl _) fun n c hm => ⟨x.cell n c (lookup_of_mem_nodup (cellsFrom_names scope.names 0 (s.heap.objs.size + 1) [] [] rfl ▸ hnd) hm), x.above n c hm⟩
  exact h s.heap.objs.size h₁ tk cells ⟨x.toInCall.ns, x.toInCall.keep, Nat.le_refl _⟩ NC Y
end Mine
end

section
open PySem PySem.W PySem.W.X PySem.Calls PyProof.Rows PyProof.Rows.LCg
set_option maxRecDepth 100000
set_option maxHeartbeats 8000000
namespace Mine
section
variable {M : Model} {A : Around} {R : Result → Shared → Prop} {E : Value → Shared → Prop} {s : Shared} {env : Env}
theorem wpC_isTrue_not {x : Expr} {pos : Pos} {whole : Sem Value} {Q : Bool → Shared → Prop} (h : wpC M A (isTrue x env (eval x env)) (fun c s' => Q (!c) s') E s) :
    wpC M A (isTrue (.UnaryOp .Not x pos) env whole) Q E s := by
  show wpC M A (do return !(← isTrue x env (eval x env))) Q E s
  exact wpC_bind (wpC_mono h (fun c s' h' => wpC_pure h') fun _ _ x => x)
theorem wpC_isTrue_plain {e : Expr} {whole : Sem Value} {Q : Bool → Shared → Prop} (h : wpC M A whole (fun v s₁ => wpAny M A (truthy v) Q E s₁) E s)
    (he : isTrue e env whole = (do let v ← whole; standAt e.pos; holding [v] (truthy v)) := by rfl) : wpC M A (isTrue e env whole) Q E s := by
  rw [he]
  exact wpC_bind (wpC_mono h (fun v s₁ h₁ => wpC_of (wpAny_bind (wpAny_standAt (wpAny_holding h₁)))) fun _ _ x => x)
theorem wpC_Compare1 {l r : Expr} {op : CmpOp} {pos : Pos} {Q : Value → Shared → Prop}
    (h : wpC M A (eval l env) (fun a s₁ => wpAny M A (eval r env) (fun b s₂ => wpAny M A (compareOp op a b) Q E s₂) E s₁) E s)
    (hm : behindInMarks op r = false := by with_unfolding_all rfl) :
    wpC M A (eval (.Compare l [op] [r] pos) env) Q E s := by
  rw [eval_Compare1]
  refine wpC_bind (wpC_mono h (fun a s₁ h₁ => wpC_of ?_) fun _ _ x => x)
  rw [markedBehindIn_of_false hm]
  refine wpAny_bind (wpAny_holding (wpAny_mono h₁ (fun b s₂ h₂ => wpAny_bind (wpAny_standAt ?_)) fun _ _ x => x))
  exact fun Γ p hΓ => by rw [Sem.wp_operate]; exact h₂ Γ p hΓ

theorem wpC_comprehension {e : Expr} {scope : Scope} {pos : Pos} {newAcc first : Sem Value} {g : Comprehension} {gs : List Comprehension} {cl : List (Str × Addr)} {Q : Value → Shared → Prop}
    (hcl : clausesOf e = g :: gs) (hs : ∀ x, foldedSetIterable g.iter env x = pure x) (hclos : closureFor scope env = pure cl)
    (hkind : scope.kind = .function) (hnames : ∀ x ∈ scope.names, x.2 = .local → scope.names.lookup x.1 = some .local)
    (h : wpAny M A first (fun x s₁ => wpAny M A (pyIter x) (fun it s₂ => wpAny M A newAcc (fun acc s₃ =>
      wpAny M A (newFunctionEnv scope env.globals cl [] env.qual none .none (some env)) (fun cenv s₄ =>
        codeC M A (.compStart e 0 it acc { cenv with scope := relabel scope env }) (fun r s' => ∃ f, r = .ok f ∧ ∃ m, s'.heap.Ns cenv.locals m ∧ ∀ h', Heap.SameBut cenv.locals s'.heap h' → Q acc { s' with heap := h' }) s₄) E s₃) E s₂) E s₁) E s) :
    wpC M A (comprehension e scope env pos newAcc false first none) Q E s := by
  unfold comprehension
  rw [hclos, hcl]
  refine wpC_then (wpAny_mono h (fun x s₁ h₁ => wpC_then (wpAny_standAt (wpC_then (wpAny_of_eq (hs x) (wpC_then (wpAny_holding (wpAny_mono h₁ (fun it s₂ h₂ => ?_) fun _ _ y => y)))))))  fun _ _ y => y)
  dsimp only
  refine wpC_then (wpAny_mono h₂ (fun acc s₃ h₃ => wpC_then (wpAny_pure (wpC_then (wpAny_mono h₃ (fun cenv s₄ h₄ => ?_) fun _ _ y => y)))) fun _ _ y => y)
  have hv : ∀ x ∈ (scope.names.filter fun x => (x.2 == .local || x.2 == .cell) && x.1 != (".0" : Str)).reverse, x.2 = .local →
      Env.kindOf { cenv with scope := relabel scope env } x.1 = some .local := fun x hx hl => lookup_relabel_local (hnames x (List.mem_filter.mp (List.mem_reverse.mp hx)).1 hl)
  refine wpC_holding (wpC_bind (wpC_attempt (wpC_holding (wpC_run (codeC_mono h₄ fun r s' hr => ?_) (by intro z; cases z)))))
  obtain ⟨f, rfl, m, hn, hq⟩ := hr
  exact wpC_of (wpAny_bind (wpAny_holding (wpAny_comp_letGo (cenv := { cenv with scope := relabel scope env }) hkind _ s' m hv hn fun h' m' _ hs' => wpAny_pure (hq h' hs'))))
end
section
variable {prog : Program} {w : World} {A : Around} {R : Result → Shared → Prop} {E : Value → Shared → Prop} {s : Shared} {env : Env}
theorem codeC_compStart {elt target iter : Expr} {ifs : List Expr} {scope : Scope} {pos : Pos} {it acc : Value}
    (h0 : codeC (model prog w) A (.compLoop (.ListComp elt [⟨target, iter, ifs, 0⟩] scope pos) 0 it acc env) R s)
    (h : wpAny (model prog w) A (pyIter it) (fun it' s' => codeC (model prog w) A (.compLoop (.ListComp elt [⟨target, iter, ifs, 0⟩] scope pos) 0 it' acc env) R s')
      (notedBy (model prog w) A env fun x s' => R (.error x) s') s) :
    codeC (model prog w) A (.compStart (.ListComp elt [⟨target, iter, ifs, 0⟩] scope pos) 0 it acc env) R s := by
  refine codeC_of_tree (wpC_of ?_)
  show wpAny _ _ ((compStart (.ListComp elt [⟨target, iter, ifs, 0⟩] scope pos) 0 it acc env).onRaise (fun x => do noteFrame x env; standAt theWindowsPlace)) _ _ s
  refine wpAny_notedAt ?_
  unfold compStart
  show wpAny _ _ (ask >>= _) _ _ s
  refine wpAny_bind (wpAny_askSetting (wpAny_ite ?_))
  split
  · exact wpAny_bind (wpAny_pure (wpAny_pure (And.intro rfl h0)))
  · refine wpAny_bind (wpAny_rule ?_)
    show wpAny _ _ (standAt iter.pos >>= _) _ _ s
    exact wpAny_bind (wpAny_standAt (wpAny_bind (wpAny_mono h (fun it' s' h' => wpAny_pure (And.intro rfl h')) fun _ _ x => x)))
theorem wpC_noted {α : Type} {M : Model} {m : Sem α} {Q : α → Shared → Prop} (h : wpC M A m Q (notedBy M A env E) s) : wpC M A (m.onRaise fun x => do noteFrame x env; theTreesLotGoes x) Q E s :=
  wpC_onRaise (wpC_mono h (fun _ _ q => q) fun _ _ hx => wpC_of (wpAny_bind (wpAny_mono hx (fun _ _ e => wpAny_theTreesLotGoes e) fun _ _ e => e)))
theorem codeC_compLoop_none {elt target iter ct : Expr} {scope : Scope} {pos : Pos} {it acc : Value} (I : Nat → Shared → Prop)
    (turn : ∀ n s, I n s → wpAny (model prog w) A (pyNext it) (fun r s₁ => match r with
      | none => R (.ok .next) s₁
      | some v => wpAny (model prog w) A (assign target env v) (fun _ s₂ =>
          wpC (model prog w) A (isTrue ct env (eval ct env)) (fun ok s₃ => ok = false ∧ ∃ m, m < n ∧ I m s₃) (notedBy (model prog w) A env fun e s' => R (.error e) s') s₂)
        (notedBy (model prog w) A env fun e s' => R (.error e) s') s₁) (notedBy (model prog w) A env fun e s' => R (.error e) s') s)
    (n : Nat) (h : I n s) (ht : ∀ v, letOwnedTupleGo target it v = pure () := by intro _; rfl) :
    codeC (model prog w) A (.compLoop (.ListComp elt [⟨target, iter, [ct], 0⟩] scope pos) 0 it acc env) R s := by
  refine codeC_loop rfl I (fun n s hI => ?_) n h
  show wpC _ A ((compTurn (.ListComp elt [⟨target, iter, [ct], 0⟩] scope pos) 0 it acc env).onRaise (fun x => do noteFrame x env; theTreesLotGoes x)) _ _ s
  refine wpC_noted ?_
  rw [compTurn_list]
  refine wpC_then (wpAny_standAt (wpC_then (wpAny_mono (turn n s hI) (fun r s₁ h₁ => ?_) fun _ _ h' => h')))
  cases r with
  | none => exact wpC_pure h₁
  | some v =>
    refine wpC_then (wpAny_of_eq (ht v) ?_)
    refine wpC_then (wpAny_mono h₁ (fun _ s₂ h₂ => ?_) fun _ _ h' => h')
    simp only [List.forIn_cons, List.forIn_nil, if_true]
    refine wpC_bind (wpC_bind (wpC_bind (wpC_mono h₂ (fun ok s₃ h₃ => ?_) fun _ _ x => x)))
    obtain ⟨rfl, h₃⟩ := h₃
    exact wpC_pure (wpC_pure (wpC_pure ⟨rfl, h₃⟩))

/-- a list comprehension with one test that no item passes -/
theorem wpC_ListComp_none {elt iter ct : Expr} {x : Str} {px : Pos} {scope : Scope} {cl : List (Str × Addr)} {pos : Pos} {h₀ : Heap} {L : Addr} {m : Str → Option Value} {Q : Value → Shared → Prop} (hh : A.handled = none) (_F₀ : Fr h₀ L s.heap m)
    (hclos : closureFor scope env = pure cl) (hcell : ∀ y ∈ scope.names, y.2 ≠ .cell) (hkind : scope.kind = .function)
    (hnames : ∀ y ∈ scope.names, y.2 = .local → scope.names.lookup y.1 = some .local) (hx : scope.names.lookup x = some .local)
    (h : wpAny (model prog w) A (eval iter env) (fun xv s₁ => Hold (∃ (ax : Addr) (its : Array Value) (news : List (Addr × Obj)), xv = .ref ax ∧ Fr h₀ L s₁.heap m ∧ News h₀ L s₁.heap news ∧ SrcAt h₀ ax its news ∧
      (∀ (i : Nat) v I oI C oC D m₂ h tk (E' : Value → Shared → Prop), its[i]? = some v → NsObj oC m₂ → m₂ x = some v → Fr h₀ L h m → News h₀ L h ((I, oI) :: (C, oC) :: (D, lst []) :: news) → Off3 I C D news → ((@Ne Nat I C) ∧ (@Ne Nat I D) ∧ (@Ne Nat C D)) →
        wpC (model prog w) A (isTrue ct (compEnvC scope cl C env) (eval ct (compEnvC scope cl C env)))
          (fun ok s₂ => ok = false ∧ ∃ h' tk', s₂ = { s₁ with heap := h', toks := tk' } ∧ Fr h₀ L h' m ∧ News h₀ L h' ((I, oI) :: (C, oC) :: (D, lst []) :: news)) E' { s₁ with heap := h, toks := tk }) ∧
      (∀ D h tk, Fr h₀ L h m → News h₀ L h ((D, lst []) :: news) → Q (.ref D) { s₁ with heap := h, toks := tk }))) E s)
    (hs : ∀ x, foldedSetIterable iter env x = pure x := by intro _; rfl) :
    wpC (model prog w) A (eval (.ListComp elt [⟨.Name x px, iter, [ct], 0⟩] scope pos) env) Q E s := by
  rw [eval_ListComp]
  refine wpC_comprehension rfl hs hclos hkind hnames (wpAny_mono h (fun xv s₁ h₁ => ?_) fun _ _ e => e)
  obtain ⟨ax, its, news, rfl, F, N, S, turn, fin⟩ := h₁.h
  have hl := S.list F.keep N
  have hlt : ax < s₁.heap.objs.size := by obtain ⟨_, e, _⟩ := hl; exact Heap.lt_size e
  refine wpAny_pyIter_list hl ?_
  have up : ∀ b o, s₁.heap.get? b = some o → (s₁.heap.push { cls := .type "list_iterator", data := .fields #[.ref ax, .int 0 0] }).get? b = some o := fun b o e => Heap.get?_push_of_some _ e
  have hI0 : (s₁.heap.push { cls := .type "list_iterator", data := .fields #[.ref ax, .int 0 0] }).get? s₁.heap.objs.size = some { cls := .type "list_iterator", data := .fields #[.ref ax, .int 0 0] } := Heap.get?_push_size _ rfl
  have hI₀ : h₀.get? s₁.heap.objs.size = none := next_is_new F
  have hIL : L ≠ s₁.heap.objs.size := Nat.ne_of_lt F.ns.lt
  have hIax : ax ≠ s₁.heap.objs.size := Nat.ne_of_lt hlt
  have offI : ∀ p ∈ news, p.1 ≠ s₁.heap.objs.size := fun p hp => Nat.ne_of_lt (Heap.lt_size (N p hp).1)
  have F₁ := F.keeps up
  have N₁ := N.grown up
  have hz : (s₁.heap.push { cls := .type "list_iterator", data := .fields #[.ref ax, .int 0 0] }).objs.size = s₁.heap.objs.size + 1 := Heap.size_push ..
  generalize s₁.heap.objs.size = I at *
  generalize (s₁.heap.push { cls := .type "list_iterator", data := .fields #[.ref ax, .int 0 0] }) = H1 at *
  refine wpAny_newObj_type (wpAny_newFunctionEnv hcell (by intro y hy; simp at hy) (fun h₁ hns₁ hsb₁ => ?_) hkind)
  dsimp only at hns₁ hsb₁ ⊢
  generalize hH2 : H1.push { cls := .type "list", dict := none, data := .seq ([] : List Value).toArray } = H2 at hns₁ hsb₁ ⊢
  have hC : H2.objs.size = H1.objs.size + 1 := by rw [← hH2, Heap.size_push]
  have ltI : I < H1.objs.size := by rw [hz]; exact Nat.lt_succ_self _
  have ne1 : I ≠ H1.objs.size := Nat.ne_of_lt ltI
  have ne2 : I ≠ H2.objs.size := by rw [hC]; exact Nat.ne_of_lt (Nat.lt_succ_of_lt ltI)
  have ne3 : H1.objs.size ≠ H2.objs.size := by rw [hC]; exact Nat.ne_of_lt (Nat.lt_succ_self _)
  have old : ∀ b o, H1.get? b = some o → h₁.get? b = some o := fun b o e =>
    hsb₁.extBut b o (fun q => by have h1 := Heap.lt_size e; have h2 : b < H2.objs.size := by rw [hC]; exact Nat.lt_succ_of_lt h1
                                 exact Nat.ne_of_lt h2 q) (Heap.get?_push_of_some _ (by rw [← hH2]; exact Heap.get?_push_of_some _ e))
  have hacc : h₁.get? H1.objs.size = some (lst []) := hsb₁.extBut _ _ ne3 (Heap.get?_push_of_some _ (by rw [← hH2]; exact Heap.get?_push_size _ rfl))
  have F₂ := F₁.keeps old
  have N₂ := N₁.grown old
  have hD₀ : h₀.get? H1.objs.size = none := next_is_new F₁
  have hC₀ : h₀.get? H2.objs.size = none := Heap.get?_none_of_le (by rw [hC]; exact Nat.le_succ_of_le (Nat.le_of_lt (Nat.lt_of_le_of_lt F₁.above F₁.ns.lt)))
  have hDL : H1.objs.size ≠ L := Ne.symm (Nat.ne_of_lt F₁.ns.lt)
  have hCL : H2.objs.size ≠ L := by rw [hC]; exact Ne.symm (Nat.ne_of_lt (Nat.lt_succ_of_lt F₁.ns.lt))
  have off : Off3 I H2.objs.size H1.objs.size news := Off3.of fun p hp => by
    have q := Heap.lt_size (N₁ p hp).1
    exact ⟨offI p hp, by rw [hC]; exact Nat.ne_of_lt (Nat.lt_succ_of_lt q), Nat.ne_of_lt q⟩
  generalize H2.objs.size = C at *
  generalize H1.objs.size = D at *
  have hst : h₁.IsListIter I ax 0 := ⟨_, old _ _ hI0, rfl, rfl⟩
  have loop : ∀ s₃ : Shared, s₃ = { s₁ with heap := h₁, toks := s₁.toks + ([] : List (Str × Value)).length } →
      codeC (model prog w) A (.compLoop (.ListComp elt [⟨.Name x px, iter, [ct], 0⟩] scope pos) 0 (.ref I) (.ref D) (compEnvC scope cl C env))
        (fun r s' => ∃ f, r = .ok f ∧ ∃ m, s'.heap.Ns C m ∧ ∀ h', Heap.SameBut C s'.heap h' → Q (.ref D) { s' with heap := h' }) s₃ := by
    rintro s₃ rfl
    refine codeC_compLoop_none (fun k s' => ∃ h' tk i m', s' = { s₁ with heap := h', toks := tk } ∧ i ≤ its.size ∧ k = its.size + 1 - i ∧ h'.IsListIter I ax i ∧ Fr h₀ L h' m ∧ h'.Ns C m' ∧ News h₀ L h' ((D, lst []) :: news)) ?_ (its.size + 1)
      ⟨h₁, _, 0, _, rfl, Nat.zero_le _, rfl, hst, F₂, hns₁, fun p hp => ?_⟩
    · rintro k s' ⟨h', tk, i, m', rfl, hi, rfl, hit', F', hn', N'⟩
      have hl' : h'.IsList ax its := S.list F'.keep fun p hp => N' p (List.mem_cons_of_mem _ hp)
      have off3 := off.mem
      by_cases hlt : i < its.size
      · refine (Walks.list (prog := prog) (w := w) (A := A) hh I ax hIax its).item i _ _ _ hlt ⟨hit', hl'⟩ fun v h₂ tk₂ hPv hst₂ hk₂ => ?_
        refine wpAny_assign_Name (wpAny_storeName_local (lookup_relabel_local hx) (hn'.at' fun o e => hk₂ _ o (by simpa using Ne.symm ne2) e) (fun h₃ hn₃ hs₃ => ?_) (by simp [compEnvC, relabel, hkind]))
        obtain ⟨oI, heI, hoI⟩ : ∃ o, h₃.get? I = some o ∧ h₂.get? I = some o := by
          obtain ⟨o, e, _⟩ := hst₂.1
          exact ⟨o, hs₃.extBut _ _ ne2 e, e⟩
        obtain ⟨oC, heC, hoC⟩ := ns_obj hn₃
        have F₃ : Fr h₀ L h₃ m := (fr_but F' hk₂ hIL hI₀).change hs₃ hCL hC₀
        have N₃' : News h₀ L h₂ ((D, lst []) :: news) := news_but N' hk₂ fun p hp => by
          rcases List.mem_cons.mp hp with rfl | hp
          · exact Ne.symm ne1
          · exact (off3 p hp).1
        have N₃ : News h₀ L h₃ ((I, oI) :: (C, oC) :: (D, lst []) :: news) := fun p hp => by
          rcases List.mem_cons.mp hp with rfl | hp
          · exact ⟨heI, Ne.symm hIL, hI₀⟩
          · rcases List.mem_cons.mp hp with rfl | hp
            · exact ⟨heC, hCL, hC₀⟩
            · have z := N₃' p hp
              refine ⟨hs₃.extBut _ _ ?_ z.1, z.2⟩
              rcases List.mem_cons.mp hp with rfl | hp
              · exact ne3
              · exact (off3 p hp).2.1
        refine wpC_mono (turn i v I oI C oC D _ h₃ _ _ hPv hoC (by simp) F₃ N₃ off ⟨ne2, ne1, Ne.symm ne3⟩) (fun ok s₄ h₄ => ?_) fun _ _ e => e
        obtain ⟨rfl, h₄, tk₄, rfl, F₄, N₄⟩ := h₄
        refine ⟨rfl, its.size + 1 - (i + 1), by omega, h₄, tk₄, i + 1, _, rfl, hlt, rfl, ?_, F₄, hoC.ns (N₄ _ (.tail _ (.head _))).1, fun p hp => N₄ p (List.mem_cons_of_mem _ (List.mem_cons_of_mem _ hp))⟩
        obtain ⟨o, e, r⟩ := hst₂.1
        rw [hoI] at e
        cases e
        exact ⟨_, (N₄ _ (.head _)).1, r⟩
      · obtain rfl : i = its.size := Nat.le_antisymm hi (Nat.not_lt.mp hlt)
        refine (Walks.list (prog := prog) (w := w) (A := A) hh I ax hIax its).done _ _ _ ⟨hit', hl'⟩ fun h₂ tk₂ hk₂ => ?_
        have F₃ := fr_but F' hk₂ hIL hI₀
        have N₃ : News h₀ L h₂ ((D, lst []) :: news) := news_but N' hk₂ fun p hp => by
          rcases List.mem_cons.mp hp with rfl | hp
          · exact Ne.symm ne1
          · exact (off3 p hp).1
        refine ⟨_, rfl, m', hn'.at' fun o e => hk₂ _ o (by simpa using Ne.symm ne2) e, fun h'' hs'' => fin D h'' _ (F₃.change hs'' hCL hC₀) fun p hp => ?_⟩
        refine ⟨hs''.extBut _ _ ?_ (N₃ p hp).1, (N₃ p hp).2⟩
        rcases List.mem_cons.mp hp with rfl | hp
        · exact ne3
        · exact (off3 p hp).2.1
    · rcases List.mem_cons.mp hp with rfl | hp
      · exact ⟨hacc, hDL, hD₀⟩
      · exact N₂ p hp
  exact codeC_compStart (loop _ rfl) (wpAny_pyIter_listiter hst (loop _ rfl))
end
end Mine
end

section
open PySem PySem.Calls PyProof.Rows PySem.Builtin.SmallTypes
set_option maxRecDepth 100000
set_option maxHeartbeats 8000000
namespace Mine
theorem slot_map_next : Slot "map" "__next__" "map.__next__" :=
  .of (owner := "map") (n := "__next__") (by rw [typeLookup_type, builtinLookup_eq_fast]; kernel_rfl) (by decide +kernel) (by decide +kernel) (by decide +kernel)
    (by first | exact .inl (by decide +kernel) | exact .inr (by decide +kernel)) (by rw [isSubtype_type]; kernel_rfl)
theorem slot_map_iter : Slot "map" "__iter__" "map.__iter__" :=
  .of (owner := "map") (n := "__iter__") (by rw [typeLookup_type, builtinLookup_eq_fast]; kernel_rfl) (by decide +kernel) (by decide +kernel) (by decide +kernel)
    (by first | exact .inl (by decide +kernel) | exact .inr (by decide +kernel)) (by rw [isSubtype_type]; kernel_rfl)
theorem entry_map_iter : entryFor table "map.__iter__" = some Builtin.«dict_keyiterator.__iter__» :=
  entryFor_alias (id' := "dict_keyiterator.__iter__") (by kernel_rfl) rfl (by decide +kernel) (by kernel_rfl)
theorem args_map_iter (a : Value) : argsOk "map.__iter__" ⟨[a], []⟩ := by unfold argsOk; kernel_rfl
theorem entry_map_next : entryFor table "map.__next__" = some Builtin.«map.__next__» := entryFor_of_fast (by kernel_rfl)
theorem args_map_next (a : Value) : argsOk "map.__next__" ⟨[a], []⟩ := by unfold argsOk; kernel_rfl
theorem nolen_map : typeLookup (.type "map") "__len__" = pure none := by rw [typeLookup_type, builtinLookup_eq_fast]; kernel_rfl
theorem nohint_map : typeLookup (.type "map") "__length_hint__" = pure none := by rw [typeLookup_type, builtinLookup_eq_fast]; kernel_rfl


section
variable {prog : Program} {w : World} {A : Around} {E : Value → Shared → Prop} {s : Shared}
theorem pyNext_map_item {Mp tp it l : Addr} {i : Nat} {items : Array Value} {X : Str} {t : Tok} {Q : Option Value → Shared → Prop}
    (hM : s.heap.get? Mp = some { cls := .type "map", data := .fields #[.ref tp, .builtin "str.strip"] }) (htp : s.heap.get? tp = some { cls := .type "tuple", data := .seq #[.ref it] })
    (hit : s.heap.IsListIter it l i) (hl : s.heap.IsList l items) (hx : items[i]? = some (.str X t)) (hsz : X.length ≤ sizeLine)
    (hQ : ∀ h' t' tk, h'.IsListIter it l (i + 1) → Heap.SameBut it s.heap h' → Q (some (.str (Txt.strip X) t')) { s with heap := h', toks := tk }) :
    wpAny (model prog w) A (pyNext (.ref Mp)) Q E s := by
  obtain ⟨o, ho, hc, hd⟩ := id hit
  obtain ⟨ol, hol, _, nl, hdl⟩ := hl
  have hMT : s.TypeIs (.ref Mp) "map" := ⟨_, hM, rfl⟩
  unfold pyNext
  refine wpAny_bind (wpAny_attempt (wpAny_callSpecial?_slot (name := Str.ofString "__next__") hMT slot_map_next (wpAny_call_entry slot_map_next hMT entry_map_next ?_ (args_map_next _))))
  show wpAny _ _ (field (.ref Mp) 0 >>= _) _ _ s
  refine wpAny_bind (wpAny_field hM rfl (x := .ref tp) rfl ?_)
  show wpAny _ _ (seqItems? (.ref tp) >>= _) _ _ s
  refine wpAny_bind (wpAny_seqItems htp rfl ?_)
  dsimp only
  rw [← Array.forIn_toList]
  simp only [List.forIn_cons, List.forIn_nil]
  refine wpAny_bind (wpAny_bind (wpAny_bind (wpAny_holding ?_)))
  unfold nextOf
  refine wpAny_bind (wpAny_callSpecial?_slot (name := Str.ofString "__next__") hit.typeIs slot_listiter_next (wpAny_call_entry slot_listiter_next hit.typeIs entry_listiter_next ?_ (args_listiter_next _)))
  show wpAny _ _ (field (.ref it) 0 >>= _) _ _ s
  refine wpAny_bind (wpAny_field ho hd (x := .ref l) rfl ?_)
  show wpAny _ _ (if (Value.ref l == Value.none) = true then _ else _) _ _ s
  rw [if_neg (show ¬ ((Value.ref l == Value.none) = true) from Bool.false_ne_true)]
  show wpAny _ _ (field (.ref it) 1 >>= _) _ _ s
  refine wpAny_bind (wpAny_field ho hd (x := .int i 0) rfl ?_)
  show wpAny _ _ (seqItems? (.ref l) >>= _) _ _ s
  refine wpAny_bind (wpAny_seqItems hol hdl ?_)
  simp only [Int.toNat_natCast, hx]
  have hne : it ≠ Mp := fun e => by rw [e, hM] at ho; rw [← Option.some.inj ho] at hc; revert hc; simp
  refine wpAny_bind (wpAny_setField ho hd (by simp) (wpAny_pure ⟨_, rfl, wpAny_pure (wpAny_pure (wpAny_pure ?_))⟩))
  refine wpAny_bind (wpAny_field (o := { cls := .type "map", data := .fields #[.ref tp, .builtin "str.strip"] }) ((Heap.get?_update_other _ _ hne).trans hM) rfl (x := .builtin "str.strip") rfl ?_)
  refine wpAny_bind (wpAny_holding (SC.strip (fun t' k => ?_) hsz))
  refine wpAny_bind (wpAny_letGo ?_)
  refine wpAny_bind (wpAny_pure (wpAny_pure ⟨_, rfl, wpAny_pure (hQ _ _ _ ?_ (Heap.SameBut.update ..))⟩))
  exact ⟨_, Heap.get?_update_self _ ho (Obj.isFreed_of_fields (Obj.data_mapFields hd _)), (Obj.cls_mapFields ..).trans hc, by
    rw [Obj.data_mapFields hd]; simp [rawInt]⟩
theorem pyNext_map_end {Mp tp it l : Addr} {i : Nat} {items : Array Value} {f : Value} {Q : Option Value → Shared → Prop} (hh : A.handled = none)
    (hM : s.heap.get? Mp = some { cls := .type "map", data := .fields #[.ref tp, f] }) (htp : s.heap.get? tp = some { cls := .type "tuple", data := .seq #[.ref it] })
    (hit : s.heap.IsListIter it l i) (hl : s.heap.IsList l items) (hx : items[i]? = none)
    (hQ : ∀ h', Heap.ExtBut it s.heap h' → Q none { s with heap := h' }) :
    wpAny (model prog w) A (pyNext (.ref Mp)) Q E s := by
  obtain ⟨o, ho, hc, hd⟩ := id hit
  obtain ⟨ol, hol, _, nl, hdl⟩ := hl
  have hMT : s.TypeIs (.ref Mp) "map" := ⟨_, hM, rfl⟩
  unfold pyNext
  refine wpAny_bind (wpAny_attempt (wpAny_callSpecial?_slot (name := Str.ofString "__next__") hMT slot_map_next (wpAny_call_entry slot_map_next hMT entry_map_next ?_ (args_map_next _))))
  show wpAny _ _ (field (.ref Mp) 0 >>= _) _ _ s
  refine wpAny_bind (wpAny_field hM rfl (x := .ref tp) rfl ?_)
  show wpAny _ _ (seqItems? (.ref tp) >>= _) _ _ s
  refine wpAny_bind (wpAny_seqItems htp rfl ?_)
  dsimp only
  rw [← Array.forIn_toList]
  simp only [List.forIn_cons, List.forIn_nil]
  refine wpAny_bind (wpAny_bind (wpAny_bind (wpAny_holding ?_)))
  unfold nextOf
  refine wpAny_bind (wpAny_callSpecial?_slot (name := Str.ofString "__next__") hit.typeIs slot_listiter_next (wpAny_call_entry slot_listiter_next hit.typeIs entry_listiter_next ?_ (args_listiter_next _)))
  show wpAny _ _ (field (.ref it) 0 >>= _) _ _ s
  refine wpAny_bind (wpAny_field ho hd (x := .ref l) rfl ?_)
  show wpAny _ _ (if (Value.ref l == Value.none) = true then _ else _) _ _ s
  rw [if_neg (show ¬ ((Value.ref l == Value.none) = true) from Bool.false_ne_true)]
  show wpAny _ _ (field (.ref it) 1 >>= _) _ _ s
  refine wpAny_bind (wpAny_field ho hd (x := .int i 0) rfl ?_)
  show wpAny _ _ (seqItems? (.ref l) >>= _) _ _ s
  refine wpAny_bind (wpAny_seqItems hol hdl ?_)
  simp only [Int.toNat_natCast, hx]
  refine wpAny_bind (wpAny_rule (wpAny_bind (wpAny_setField ho hd (by simp) ?_)))
  show wpAny _ _ (newExc (.type "StopIteration") [] >>= _) _ _ _
  refine wpAny_bind ?_
  simp only [newExc, newTuple]
  refine wpAny_bind (wpAny_newObj_type ?_ (by size_fits))
  refine wpAny_bind (m := firstArgMember _ _) (wpAny_of_eq (a := Value.none) (by first | rfl | (simp only [firstArgMember]; rfl)) ?_)
  refine wpAny_newObj_type ?_ (by size_fits)
  simp only [raiseNew]
  refine wpAny_bind (wpAny_handled ?_)
  rw [show A.in1.in1.handled = none from hh]
  refine wpAny_bind (wpAny_pure (wpAny_throw ?_))
  refine wpAny_bind (wpAny_isInstance (T := "StopIteration") (b := true) ⟨_, Heap.get?_push_size _ rfl, rfl⟩ isSubtype_stop ?_)
  exact wpAny_pure (hQ _ (((Heap.SameBut.update ..).extBut.push _).push _))

theorem pyIter_map {Mp tp : Addr} {f : Value} {Q : Value → Shared → Prop} (hM : s.heap.get? Mp = some { cls := .type "map", data := .fields #[.ref tp, f] }) (hQ : Q (.ref Mp) s) :
    wpAny (model prog w) A (pyIter (.ref Mp)) Q E s := by
  have hMT : s.TypeIs (.ref Mp) "map" := ⟨_, hM, rfl⟩
  refine wpAny_pyIter_slot hMT slot_map_iter (wpAny_call_entry slot_map_iter hMT entry_map_iter ?_ (args_map_iter _))
  show wpAny _ _ (ret (.ref Mp)) _ _ s
  exact wpAny_pure ⟨_, rfl, "map", _, hMT, slot_map_next.lookup, hQ⟩

/-- a map of str.strip over a list, i of its items drawn -/
def MapAt (h : Heap) (Mp tp it l : Addr) (items : Array Value) (i : Nat) : Prop :=
  h.get? Mp = some { cls := .type "map", data := .fields #[.ref tp, .builtin "str.strip"] } ∧ h.get? tp = some { cls := .type "tuple", data := .seq #[.ref it] } ∧ h.IsListIter it l i ∧ h.IsList l items
theorem map_walks (hh : A.handled = none) {Mp tp it l : Addr} {items : Array Value} (n1 : Mp ≠ it) (n2 : tp ≠ it) (n3 : l ≠ it) (hall : ∀ (i : Nat) v, items[i]? = some v → ∃ X t, v = .str X t ∧ X.length ≤ sizeLine) :
    Walks prog w A Mp [Mp, tp, it, l] [it] items.size (fun i v => ∃ X t t', items[i]? = some (.str X t) ∧ v = .str (Txt.strip X) t') (fun i h => MapAt h Mp tp it l items i) where
  sub := fun b hb => by simp at hb; simp [hb]
  frame := fun i h h' st hk => ⟨hk _ (by simp) _ st.1, hk _ (by simp) _ st.2.1, st.2.2.1.at fun o e => hk it (by simp) o e, st.2.2.2.at fun o e => hk l (by simp) o e⟩
  item := fun i s Q E hi st hQ => by
    obtain ⟨X, t, e, hsz⟩ := hall i items[i] (by simp [hi])
    refine pyNext_map_item st.1 st.2.1 st.2.2.1 st.2.2.2 (X := X) (t := t) (by rw [← e]; simp [hi]) hsz fun h' t' tk hit' hs' => ?_
    exact hQ _ h' tk ⟨X, t, t', by rw [← e]; simp [hi], rfl⟩ ⟨hs'.extBut _ _ n1 st.1, hs'.extBut _ _ n2 st.2.1, hit', st.2.2.2.extBut hs'.extBut n3⟩ fun b o hb e => hs'.extBut b o (fun h => hb (by simp [h])) e
  done := fun s Q E st hQ => pyNext_map_end hh st.1 st.2.1 st.2.2.1 st.2.2.2 (by simp) fun h' he' => hQ h' s.toks fun b o hb e => he' b o (fun h => hb (by simp [h])) e
  self := fun _ _ _ _ st hQ => pyIter_map st.1 hQ

theorem collect_map {Mp tp it l : Addr} {items : Array Value} {Q : List Value → Shared → Prop} (hh : A.handled = none) (n1 : Mp ≠ it) (n2 : tp ≠ it) (n3 : l ≠ it) (hall : ∀ (i : Nat) v, items[i]? = some v → ∃ X t, v = .str X t ∧ X.length ≤ sizeLine)
    (hst : MapAt s.heap Mp tp it l items 0) (hn : items.size ≤ sizeLine)
    (hQ : ∀ s' acc, Moved [it] (fun a b => b = a) s s' → ItemsOf (fun i v => ∃ X t t', items[i]? = some (.str X t) ∧ v = .str (Txt.strip X) t') acc items.size → Q acc.toList s') :
    wpAny (model prog w) A (collect (.ref Mp)) Q E s := by
  have W := (map_walks (prog := prog) (w := w) (A := A.in1) hh n1 n2 n3 hall).toS
  obtain ⟨hM, htp, hit, hl⟩ := id hst
  have hfp : ∀ b ∈ [Mp, tp, it, l], b < s.heap.objs.size := fun b hb => by
    simp only [List.mem_cons, List.not_mem_nil, or_false] at hb
    obtain ⟨o, ho, _⟩ := hit
    obtain ⟨ol, hol, _⟩ := hl
    rcases hb with rfl | rfl | rfl | rfl
    · exact Heap.lt_size hM
    · exact Heap.lt_size htp
    · exact Heap.lt_size ho
    · exact Heap.lt_size hol
  have hSf : s.heap.objs.size ∉ [Mp, tp, it, l] := fun hm => Nat.lt_irrefl _ (hfp _ hm)
  have hSI : s.heap.objs.size ≠ Mp := fun e => hSf (e ▸ List.mem_cons_self)
  unfold collect
  refine wpAny_bind (wpAny_runValue (codeAny_builtin F.entry_proto_collect ?_))
  rw [Around.under_plainId F.plain_proto_collect _]
  show wpAny _ A.in1 (newList [] >>= fun l => again (.builtin "list.__iadd__" ⟨[l, .ref Mp], []⟩)) _ _ s
  refine wpAny_bind (wpAny_newObj_type ?_)
  refine wpAny_pure ⟨plainId_quiet F.plain_list_iadd _, codeAny_builtin F.entry_list_iadd ?_⟩
  rw [Around.under_plainId F.plain_list_iadd _]
  have hst₁ := W.frame 0 s (s.heap.push { cls := .type "list", data := .seq ([] : List Value).toArray }) s.toks hst (Nat.le_refl _) fun b _ o e => Heap.get?_push_of_some _ e
  have hT : ∀ s : Shared, MapAt s.heap Mp tp it l items 0 → s.TypeIs (.ref Mp) "map" := fun s x => ⟨_, x.1, rfl⟩
  show wpAny _ A.in1 (Builtin.List.listExtendWith (.ref s.heap.objs.size) (.ref Mp) (.ref s.heap.objs.size)) _ _ _
  unfold Builtin.List.listExtendWith
  refine wpAny_bind (wpAny_typeOf (hT _ hst₁) ?_)
  have h1 : Builtin.List.listSameRef (.ref s.heap.objs.size) (.ref Mp) = false := by simp [Builtin.List.listSameRef, hSI]
  have h2 : (Value.type "map" == Value.type "list") = false := by decide
  have h3 : (Value.type "map" == Value.type "tuple") = false := by decide
  simp only [h1, h2, h3, Bool.or_false, Bool.false_eq_true, if_false]
  refine wpAny_bind (W.self 0 _ _ _ hst₁ ?_)
  refine wpAny_bind (wpAny_holding ?_)
  unfold Builtin.List.listLengthHint
  refine wpAny_bind (wpAny_specialOf (hT _ hst₁) nolen_map ?_)
  show wpAny _ A.in1 (specialOf (Value.ref Mp) (Str.ofString "__length_hint__") >>= _) _ _ _
  refine wpAny_bind (wpAny_specialOf (hT _ hst₁) nohint_map ?_)
  refine wpAny_pure ?_
  show wpAny _ A.in1 (rule "list.extend.makes-room" >>= fun _ => Builtin.List.listTouch (.ref s.heap.objs.size) >>= fun _ =>
    again (.builtin "list.extend.loop" ⟨[.ref s.heap.objs.size, .ref Mp, .ref s.heap.objs.size], []⟩)) _ _ _
  refine wpAny_bind (wpAny_rule ?_)
  have hS₁ : (s.heap.push { cls := .type "list", data := .seq ([] : List Value).toArray }).get? s.heap.objs.size = some { cls := .type "list", data := .seq ([] : List Value).toArray } := Heap.get?_push_size _ rfl
  refine wpAny_bind ?_
  show wpAny _ A.in1 (updateSeq s.heap.objs.size (·.push .none) >>= fun _ => updateSeq s.heap.objs.size (·.pop)) _ _ _
  refine wpAny_bind (wpAny_updateSeq hS₁ rfl ?_)
  have hS₂ := Heap.get?_update_self (Obj.mapSeq (·.push Value.none)) hS₁ rfl
  refine wpAny_updateSeq hS₂ rfl ?_
  have hS₃ := Heap.get?_update_self (Obj.mapSeq (·.pop)) hS₂ rfl
  have oth : ∀ b o, b ≠ s.heap.objs.size → (s.heap.push { cls := .type "list", data := .seq ([] : List Value).toArray }).get? b = some o →
      (((s.heap.push { cls := .type "list", data := .seq ([] : List Value).toArray }).update s.heap.objs.size (Obj.mapSeq (·.push Value.none))).update s.heap.objs.size (Obj.mapSeq (·.pop))).get? b = some o :=
    fun b o hb e => (Heap.get?_update_other _ _ (Ne.symm hb)).trans ((Heap.get?_update_other _ _ (Ne.symm hb)).trans e)
  refine wpAny_pure ⟨plainId_quiet F.plain_extend_loop _, codeAny_extend_loopS W hn _ hSf _ items.size 0 _ _ _ rfl (Nat.zero_le _)
    (W.frame 0 ({ s with heap := s.heap.push { cls := .type "list", data := .seq ([] : List Value).toArray } } : Shared) _ s.toks hst₁ (Nat.le_refl _) fun b hb o e => oth b o (fun h => hSf (h ▸ hb)) e) hS₃ (ItemsOf.nil _) fun s' acc' c' hm hS' hacc => ?_⟩
  show wpAny _ A (load s.heap.objs.size >>= _) _ _ s'
  refine wpAny_bind (wpAny_load hS' ?_)
  refine wpAny_pure (hQ s' acc' (Moved.drop_new (o := { cls := .type "list", data := .seq ([] : List Value).toArray }) (tk := s.toks) ⟨fun b o hb e => hm.heap b o hb (oth b o (fun h => hb (h ▸ List.mem_cons_self)) e), hm.gens, hm.drawn, hm.os, hm.toks⟩ (Nat.le_refl _)) hacc)

theorem mapIterable {Mp tp : Addr} {f : Value} {Q : Bool → Shared → Prop} (hM : s.heap.get? Mp = some { cls := .type "map", data := .fields #[.ref tp, f] }) (hQ : Q false s) :
    wpAny (model prog w) A (notIterableAtAll (.ref Mp)) Q E s := by
  have hMT : s.TypeIs (.ref Mp) "map" := ⟨_, hM, rfl⟩
  unfold notIterableAtAll
  exact wpAny_bind (wpAny_specialOf hMT slot_map_iter.lookup (wpAny_pure hQ))
end
end Mine
end

section
open PySem PySem.Calls PyProof.Rows PySem.Builtin PySem.Builtin.Str
set_option maxRecDepth 100000
set_option linter.unusedSimpArgs false
namespace Mine
/-- a text of code points -/
abbrev S (l : List Nat) : Str := ⟨l.toArray⟩
def EQ : Str := ⟨#[61]⟩
def stripL (p : Nat → Bool) (l : List Nat) : List Nat := ((l.dropWhile p).reverse.dropWhile p).reverse

theorem drop_takeWhile {α : Type} (p : α → Bool) : ∀ l : List α, l.drop (l.takeWhile p).length = l.dropWhile p
  | [] => rfl
  | a :: l => by
    cases h : p a
    · simp [List.takeWhile_cons, List.dropWhile_cons, h]
    · simp [List.takeWhile_cons, List.dropWhile_cons, h, drop_takeWhile p l]
theorem strSub_whole (x : Str) : strSub x 0 x.length = x := by
  cases x; simp [strSub, Str.length]
theorem strip_eq (l : List Nat) : Txt.strip (S l) = S (stripL Unicode.isSpace l) := by
  have e : Txt.strip (S l) = stripped Unicode.isSpace true true (S l) := by
    unfold Txt.strip Txt.stripBy
    split
    · rename_i h
      unfold stripSame at h
      rw [Bool.and_eq_true, beq_iff_eq, beq_iff_eq] at h
      unfold stripped
      rw [h.2, h.1, strSub_whole]
    · rfl
  rw [e]
  refine Str.ext' (Array.toList_inj.mp ?_)
  unfold stripped
  rw [StrLaws.strSub_toList]
  simp only [stripLo, stripHi, if_true, Str.length, S, List.size_toArray]
  show _ = stripL Unicode.isSpace l
  unfold stripL
  rw [drop_takeWhile]
  generalize hm : l.dropWhile Unicode.isSpace = m
  have hlen : l.length = (l.takeWhile Unicode.isSpace).length + m.length := by
    rw [← hm, ← List.length_append, List.takeWhile_append_dropWhile]
  have hr : (m.reverse.takeWhile Unicode.isSpace).length ≤ m.length := by
    have := (List.takeWhile_prefix Unicode.isSpace (l := m.reverse)).length_le
    simpa using this
  rw [← drop_takeWhile Unicode.isSpace m.reverse, List.reverse_drop, List.reverse_reverse, List.length_reverse]
  congr 1
  omega

theorem kind_ge (x : Str) : (decide (PySem.Builtin.Str.strKind x < PySem.Builtin.Str.strKind EQ)) = false := by
  unfold PySem.Builtin.Str.strKind
  have : (EQ.cps.all (· < 256)) = true := by simp [EQ]
  rw [if_pos this]
  split
  · decide
  · split <;> decide

theorem at_iff (l : List Nat) (i : Nat) : StrLaws.At (S l) EQ (S l).length i ↔ l[i]? = some 61 := StrLaws.subAt_one (S l) 61 i

theorem limit_one (x : Str) : limitOf x 1 = 1 := by unfold limitOf; rw [if_neg (by decide)]; rfl

theorem split_none {l : List Nat} (h : 61 ∉ l) : Txt.splitMax (S l) EQ 1 = [S l] := by
  unfold Txt.splitMax
  split
  · rfl
  · rcases StrLaws.occ_head (S l) EQ (limitOf (S l) 1) (by rw [limit_one]; exact Nat.le_refl 1) with ⟨e, _⟩ | ⟨i, r, e, hi, _⟩
    · rw [e]; rfl
    · exact absurd (List.mem_of_getElem? ((at_iff l i).mp hi)) h

theorem split_some {a b : List Nat} (h : 61 ∉ a) : Txt.splitMax (S (a ++ 61 :: b)) EQ 1 = [S a, S b] := by
  unfold Txt.splitMax
  rw [if_neg (by
    rw [Bool.or_eq_true, kind_ge]
    have : ¬ ((S (a ++ 61 :: b)).length < EQ.length) := by simp [Str.length, S, EQ]
    simp [this])]
  have hat : StrLaws.At (S (a ++ 61 :: b)) EQ (S (a ++ 61 :: b)).length a.length := (at_iff _ _).mpr (by simp)
  rcases StrLaws.occ_head (S (a ++ 61 :: b)) EQ (limitOf (S (a ++ 61 :: b)) 1) (by rw [limit_one]; exact Nat.le_refl 1) with ⟨_, e⟩ | ⟨i, r, e, hi, hk⟩
  · exact absurd hat (e _)
  · have hl := StrLaws.occ_length_le (S (a ++ 61 :: b)) EQ 0 (S (a ++ 61 :: b)).length (limitOf (S (a ++ 61 :: b)) 1)
    have hlim : limitOf (S (a ++ 61 :: b)) 1 = 1 := limit_one _
    have hia : i = a.length := by
      rcases Nat.lt_trichotomy i a.length with hlt | he | hgt
      · have := (at_iff _ _).mp hi
        rw [List.getElem?_append_left hlt] at this
        exact absurd (List.mem_of_getElem? this) h
      · exact he
      · exact absurd hat (hk _ hgt)
    rw [e, hlim] at hl
    have hr : r = [] := by
      cases r with
      | nil => rfl
      | cons _ _ => simp at hl
    rw [e, hr, hia, if_neg (by simp), StrLaws.partsBetween_eq]
    show [strSub (S (a ++ 61 :: b)) 0 a.length, strSub (S (a ++ 61 :: b)) (a.length + 1) (S (a ++ 61 :: b)).length] = _
    have e1 : strSub (S (a ++ 61 :: b)) 0 a.length = S a := Str.ext' (Array.toList_inj.mp (by rw [StrLaws.strSub_toList]; simp [S]))
    have e2 : strSub (S (a ++ 61 :: b)) (a.length + 1) (S (a ++ 61 :: b)).length = S b := Str.ext' (Array.toList_inj.mp (by
      rw [StrLaws.strSub_toList]
      show ((a ++ 61 :: b).drop (a.length + 1)).take _ = b
      rw [← List.drop_drop, List.drop_left' rfl]
      show b.take _ = b
      rw [List.take_of_length_le]
      simp [Str.length, S]; omega))
    rw [e1, e2]
end Mine
end

section
open PySem PySem.Calls PyProof.Rows PySem.Builtin PySem.Builtin.Str
set_option maxRecDepth 100000
set_option linter.unusedSimpArgs false
namespace Mine
def ch (c : Nat) : Str := ⟨#[c]⟩
/-- a row of signs: its items are texts of one code point each -/
def RowOf (its : Array Value) (cs : List Nat) : Prop := StrsAre its.toList (cs.map ch)

theorem strsAre_len {vs : List Value} {ys : List Str} (h : StrsAre vs ys) : vs.length = ys.length := by
  induction h with
  | nil => rfl
  | cons _ _ _ ih => simp [ih]
theorem strsAre_get {vs : List Value} {ys : List Str} (h : StrsAre vs ys) : ∀ (i : Nat) y, ys[i]? = some y → ∃ t, vs[i]? = some (.str y t) := by
  induction h with
  | nil => intro i y e; simp at e
  | cons y t _ ih => intro i z e; cases i with
    | zero => simp at e; subst e; exact ⟨t, rfl⟩
    | succ i => exact ih i z (by simpa using e)
theorem strsAre_take {vs : List Value} {ys : List Str} (h : StrsAre vs ys) : ∀ n, StrsAre (vs.take n) (ys.take n) := by
  induction h with
  | nil => intro n; simp; exact .nil
  | cons y t _ ih => intro n; cases n with
    | zero => exact .nil
    | succ n => exact .cons y t (ih n)
theorem strsAre_drop {vs : List Value} {ys : List Str} (h : StrsAre vs ys) : ∀ n, StrsAre (vs.drop n) (ys.drop n) := by
  induction h with
  | nil => intro n; simp; exact .nil
  | cons y t h ih => intro n; cases n with
    | zero => exact .cons y t h
    | succ n => exact ih n
theorem strsAre_append {vs ws : List Value} {ys zs : List Str} (h : StrsAre vs ys) (h' : StrsAre ws zs) : StrsAre (vs ++ ws) (ys ++ zs) := by
  induction h with
  | nil => exact h'
  | cons y t _ ih => exact .cons y t ih
theorem RowOf.size {its : Array Value} {cs : List Nat} (h : RowOf its cs) : its.size = cs.length := by
  have := strsAre_len (show StrsAre _ _ from h); simpa using this
theorem RowOf.get {its : Array Value} {cs : List Nat} (h : RowOf its cs) {i : Nat} {c : Nat} (e : cs[i]? = some c) : ∃ t, its[i]? = some (.str ⟨#[c]⟩ t) := by
  obtain ⟨t, ht⟩ := strsAre_get h i (ch c) (by rw [List.getElem?_map, e]; rfl)
  exact ⟨t, by rw [← Array.getElem?_toList]; exact ht⟩
theorem RowOf.cut {its : Array Value} {cs : List Nat} (h : RowOf its cs) (a n : Nat) : RowOf ((its.toList.drop a).take n).toArray ((cs.drop a).take n) := by
  show StrsAre _ _
  rw [List.map_take, List.map_drop]
  exact strsAre_take (strsAre_drop h a) n

theorem join_go : ∀ cs : List Nat, Str.join (Str.ofString "") (cs.map ch) = S cs
  | [] => rfl
  | [c] => rfl
  | c :: d :: r => by
    show ch c ++ Str.ofString "" ++ Str.join (Str.ofString "") ((d :: r).map ch) = _
    rw [join_go (d :: r)]
    refine Str.ext' ?_
    simp only [Str.cps_append]
    refine Array.toList_inj.mp ?_
    have e0 : (Str.ofString "").cps = #[] := rfl
    rw [e0]
    simp [ch, S]
theorem join_row (cs : List Nat) : Txt.join (Str.ofString "") (cs.map ch) = S cs := by
  unfold Txt.join
  rw [StrLaws.glued_eq_join, join_go]
theorem row_fits (cs : List Nat) (h : cs.length ≤ 1000) : ((cs.map ch).map (·.length)).sum + (cs.map ch).length * (Str.ofString "").length ≤ 16777216 := by
  have e1 : (Str.ofString "").length = 0 := rfl
  have e2 : ((cs.map ch).map (·.length)).sum = cs.length := by
    induction cs with
    | nil => rfl
    | cons c r ih => simp only [List.map_cons, List.sum_cons, List.length_cons, ih (by simp at h; omega)]; show 1 + r.length = _; omega
  rw [e1, e2]; omega

theorem dropWhile_all {α : Type} {p : α → Bool} : ∀ {u : List α} (m : List α), (∀ x ∈ u, p x = true) → (u ++ m).dropWhile p = m.dropWhile p
  | [], _, _ => rfl
  | x :: u, m, h => by
    rw [List.cons_append, List.dropWhile_cons_of_pos (h x List.mem_cons_self)]
    exact dropWhile_all m fun y hy => h y (List.mem_cons_of_mem _ hy)
theorem dropWhile_head {α : Type} {p : α → Bool} {m : List α} (h : ∀ x, m.head? = some x → p x = false) : m.dropWhile p = m := by
  cases m with
  | nil => rfl
  | cons x r => rw [List.dropWhile_cons_of_neg]; rw [h x rfl]; decide
/-- what is left between the ends -/
theorem stripL_mid {p : Nat → Bool} {u m v : List Nat} (hu : ∀ x ∈ u, p x = true) (hv : ∀ x ∈ v, p x = true) (hne : m ≠ []) (hh : ∀ x, m.head? = some x → p x = false) (hl : ∀ x, m.getLast? = some x → p x = false) :
    stripL p (u ++ (m ++ v)) = m := by
  unfold stripL
  rw [dropWhile_all _ hu, dropWhile_head (m := m ++ v) (fun x e => by
    cases m with
    | nil => exact absurd rfl hne
    | cons a r => exact hh x e), List.reverse_append, dropWhile_all _ (by simpa using hv), dropWhile_head (by simpa using hl), List.reverse_reverse]
theorem stripL_all {p : Nat → Bool} {u : List Nat} (hu : ∀ x ∈ u, p x = true) : stripL p u = [] := by
  unfold stripL
  have := dropWhile_all (p := p) (u := u) [] hu
  rw [List.append_nil] at this
  rw [this]; rfl

/-- the places that stay -/
def places (p : Nat → Bool) (cs : List Nat) : List Nat := (List.range cs.length).filter fun j => !(p (cs.getD j 0))
theorem places_mem {p : Nat → Bool} {cs : List Nat} {j : Nat} : j ∈ places p cs ↔ ∃ c, cs[j]? = some c ∧ p c = false := by
  unfold places
  rw [List.mem_filter, List.mem_range, Bool.not_eq_true']
  constructor
  · rintro ⟨h, e⟩
    refine ⟨cs[j], by simp [h], ?_⟩
    rwa [List.getD_eq_getElem?_getD, List.getElem?_eq_getElem h, Option.getD_some] at e
  · rintro ⟨c, e, q⟩
    obtain ⟨h, rfl⟩ := List.getElem?_eq_some_iff.mp e
    exact ⟨h, by rwa [List.getD_eq_getElem?_getD, List.getElem?_eq_getElem h, Option.getD_some]⟩
theorem places_sorted (p : Nat → Bool) (cs : List Nat) : (places p cs).Pairwise (· < ·) := List.Pairwise.filter _ List.pairwise_lt_range
theorem bare_none {p : Nat → Bool} {cs : List Nat} (h : places p cs = []) : stripL p cs = [] := stripL_all fun x hx => by
  obtain ⟨j, e⟩ := List.mem_iff_getElem?.mp hx
  cases q : p x with
  | true => rfl
  | false => have : j ∈ places p cs := places_mem.mpr ⟨x, e, q⟩
             rw [h] at this; cases this
theorem bare_some {p : Nat → Bool} {cs : List Nat} (h : places p cs ≠ []) :
    (cs.drop ((places p cs).head h)).take ((places p cs).getLast h + 1 - (places p cs).head h) = stripL p cs ∧ (places p cs).head h ≤ (places p cs).getLast h ∧ (places p cs).getLast h < cs.length := by
  have hs := places_sorted p cs
  generalize ha : (places p cs).head h = a
  generalize hb : (places p cs).getLast h = b
  have hma : a ∈ places p cs := ha ▸ List.head_mem h
  have hmb : b ∈ places p cs := hb ▸ List.getLast_mem h
  have hlo : ∀ j ∈ places p cs, a ≤ j := by
    intro j hj
    cases hl : places p cs with
    | nil => exact absurd hl h
    | cons x r =>
      have : x = a := by rw [← ha]; simp [hl]
      subst this
      rw [hl] at hj hs
      rcases List.mem_cons.mp hj with rfl | hj
      · exact Nat.le_refl _
      · exact Nat.le_of_lt ((List.pairwise_cons.mp hs).1 j hj)
  have hhi : ∀ j ∈ places p cs, j ≤ b := by
    intro j hj
    have e := List.dropLast_concat_getLast h
    rw [hb] at e
    rw [← e] at hj hs
    rcases List.mem_append.mp hj with hj | hj
    · exact Nat.le_of_lt ((List.pairwise_append.mp hs).2.2 j hj b List.mem_cons_self)
    · rw [List.mem_singleton.mp hj]; exact Nat.le_refl _
  obtain ⟨c, hc, hcp⟩ := places_mem.mp hma
  obtain ⟨d, hd, hdp⟩ := places_mem.mp hmb
  have hab := hlo b hmb
  obtain ⟨hal, _⟩ := List.getElem?_eq_some_iff.mp hc
  obtain ⟨hbl, _⟩ := List.getElem?_eq_some_iff.mp hd
  refine ⟨?_, hab, hbl⟩
  have split : cs = cs.take a ++ ((cs.drop a).take (b + 1 - a) ++ cs.drop (b + 1)) := by
    have e1 : cs.drop (b + 1) = (cs.drop a).drop (b + 1 - a) := by rw [List.drop_drop]; congr 1; omega
    rw [e1, List.take_append_drop, List.take_append_drop]
  have out : ∀ j x, cs[j]? = some x → (j < a ∨ b < j) → p x = true := fun j x e q => by
    cases r : p x with
    | true => rfl
    | false =>
      have hm := places_mem.mpr ⟨x, e, r⟩
      have := hlo j hm; have := hhi j hm; omega
  have fin := stripL_mid (p := p) (u := cs.take a) (m := (cs.drop a).take (b + 1 - a)) (v := cs.drop (b + 1))
    (fun x hx => by
      obtain ⟨j, e⟩ := List.mem_iff_getElem?.mp hx
      rw [List.getElem?_take] at e
      split at e
      · exact out j x e (.inl ‹_›)
      · cases e)
    (fun x hx => by
      obtain ⟨j, e⟩ := List.mem_iff_getElem?.mp hx
      rw [List.getElem?_drop] at e
      exact out _ x e (.inr (by omega)))
    (fun q => by
      have := congrArg List.length q
      simp at this; omega)
    (fun x e => by
      rw [List.head?_take, if_neg (by omega), List.head?_drop, hc] at e
      cases e; exact hcp)
    (fun x e => by
      rw [List.getLast?_eq_getElem?, List.length_take, List.length_drop, Nat.min_eq_left (by omega), List.getElem?_take, if_pos (by omega), List.getElem?_drop, show a + (b + 1 - a - 1) = b by omega, hd] at e
      cases e; exact hdp)
  rw [← split] at fin
  exact fin.symm
theorem small_n (n : Nat) (hz : n ≤ sizeLine) : Builtin.Range.small 0 (n : Int) 1 = true := by
  have hz2 : n ≤ 16777216 := hz
  have fits : ∀ x : Int, 0 ≤ x → x ≤ 16777217 → Builtin.Range.rangeFitsLong x = true := fun x h0 h1 => by
    unfold Builtin.Range.rangeFitsLong
    simp only [Bool.and_eq_true, decide_eq_true_eq]
    omega
  unfold Builtin.Range.small
  rw [rangeSize_nat, fits 0 (by omega) (by omega), fits n (by omega) (by omega), fits 1 (by omega) (by omega), fits (((n : Int) - 0).toNat : Int) (by omega) (by omega), if_pos (by decide), fits ((n : Int) + (1 - 1)) (by omega) (by omega)]
  simp
end Mine
end

section
open PySem PySem.Calls PyProof.Rows PySem.Builtin PySem.Builtin.Str
set_option maxRecDepth 100000
set_option linter.unusedSimpArgs false
namespace Mine
theorem dropWhile_form (p : Nat → Bool) : ∀ l : List Nat, ∃ u, l = u ++ l.dropWhile p ∧ (∀ x ∈ u, p x = true) ∧ (∀ x, (l.dropWhile p).head? = some x → p x = false)
  | [] => ⟨[], rfl, by simp, by simp⟩
  | c :: l => by
    cases hc : p c with
    | true =>
      obtain ⟨u, e, h1, h2⟩ := dropWhile_form p l
      refine ⟨c :: u, ?_, ?_, ?_⟩
      · rw [List.dropWhile_cons_of_pos hc, List.cons_append, ← e]
      · intro x hx
        rcases List.mem_cons.mp hx with rfl | hx
        · exact hc
        · exact h1 x hx
      · rw [List.dropWhile_cons_of_pos hc]; exact h2
    | false =>
      refine ⟨[], ?_, by simp, ?_⟩
      · rw [List.dropWhile_cons_of_neg (by rw [hc]; decide)]; rfl
      · rw [List.dropWhile_cons_of_neg (by rw [hc]; decide)]
        intro x hx; simp at hx; subst hx; exact hc
/-- a text, its blank ends, and what is between -/
theorem strip_form (p : Nat → Bool) (l : List Nat) : ∃ u v, l = u ++ (stripL p l ++ v) ∧ (∀ x ∈ u, p x = true) ∧ (∀ x ∈ v, p x = true) ∧ (∀ x, (stripL p l).head? = some x → p x = false) ∧ (∀ x, (stripL p l).getLast? = some x → p x = false) := by
  obtain ⟨u, e1, hu, hh⟩ := dropWhile_form p l
  obtain ⟨v, e2, hv, hl⟩ := dropWhile_form p (l.dropWhile p).reverse
  have e3 : l.dropWhile p = stripL p l ++ v.reverse := by
    have := congrArg List.reverse e2
    rw [List.reverse_reverse, List.reverse_append] at this
    exact this
  refine ⟨u, v.reverse, by rw [← e3]; exact e1, hu, by simpa using hv, fun x hx => ?_, fun x hx => ?_⟩
  · refine hh x ?_
    rw [e3]
    cases hs : stripL p l with
    | nil => rw [hs] at hx; cases hx
    | cons c r => rw [hs] at hx; exact hx
  · refine hl x ?_
    unfold stripL at hx
    rw [List.getLast?_reverse] at hx
    exact hx
theorem stripL_pad {p : Nat → Bool} {u v : List Nat} (l : List Nat) (hu : ∀ x ∈ u, p x = true) (hv : ∀ x ∈ v, p x = true) : stripL p (u ++ (stripL p l ++ v)) = stripL p l := by
  obtain ⟨_, _, _, _, _, hh, hl⟩ := strip_form p l
  by_cases hne : stripL p l = []
  · rw [hne]
    exact stripL_all fun x hx => by
      simp only [List.nil_append, List.mem_append] at hx
      rcases hx with hx | hx
      · exact hu x hx
      · exact hv x hx
  · exact stripL_mid hu hv hne hh hl
theorem stripL_idem (p : Nat → Bool) (l : List Nat) : stripL p (stripL p l) = stripL p l := by
  have := stripL_pad (p := p) (u := []) (v := []) l (by simp) (by simp)
  simpa using this
theorem stripL_sub {p : Nat → Bool} {l : List Nat} {x : Nat} (h : x ∈ stripL p l) : x ∈ l := by
  obtain ⟨u, v, e, _⟩ := strip_form p l
  rw [e]; simp [h]
theorem stripL_len (p : Nat → Bool) (l : List Nat) : (stripL p l).length ≤ l.length := by
  obtain ⟨u, v, e, _⟩ := strip_form p l
  have := congrArg List.length e
  simp only [List.length_append] at this
  omega
theorem stripL_congr {p q : Nat → Bool} {l : List Nat} (h : ∀ c ∈ l, p c = q c) : stripL p l = stripL q l := by
  obtain ⟨u, v, e, hu, hv, hh, hl⟩ := strip_form p l
  have hm : ∀ x ∈ stripL p l, x ∈ l := fun x hx => stripL_sub hx
  by_cases hne : stripL p l = []
  · rw [hne]
    rw [hne, List.nil_append] at e
    exact (stripL_all fun x hx => by
      rw [← h x hx]
      rw [e] at hx
      rcases List.mem_append.mp hx with hx | hx
      · exact hu x hx
      · exact hv x hx).symm
  · have z := stripL_mid (p := q) (u := u) (m := stripL p l) (v := v) (fun x hx => by rw [← h x (by rw [e]; simp [hx])]; exact hu x hx) (fun x hx => by rw [← h x (by rw [e]; simp [hx])]; exact hv x hx) hne
      (fun x hx => by rw [← h x (hm x (List.mem_of_mem_head? hx))]; exact hh x hx) (fun x hx => by rw [← h x (hm x (List.mem_of_getLast? hx))]; exact hl x hx)
    rw [← e] at z
    exact z.symm
/-- the places of "=" -/
theorem cuts_first {a b : List Nat} (ha : 61 ∉ a) : ∃ jr, ((List.range (a ++ 61 :: b).length).filter fun j => (a ++ 61 :: b).getD j 0 == 61) = a.length :: jr := by
  have hn : (a ++ 61 :: b).length = a.length + (b.length + 1) := by simp
  rw [hn, List.range_add, List.filter_append]
  have e1 : (List.range a.length).filter (fun j => (a ++ 61 :: b).getD j 0 == 61) = [] := by
    rw [List.filter_eq_nil_iff]
    intro j hj
    rw [List.mem_range] at hj
    rw [List.getD_eq_getElem?_getD, List.getElem?_append_left hj, List.getElem?_eq_getElem hj, Option.getD_some, beq_iff_eq]
    intro q
    exact ha (q ▸ List.getElem_mem hj)
  rw [e1, List.nil_append, List.range_succ_eq_map, List.map_cons, List.filter_cons_of_pos]
  · exact ⟨_, rfl⟩
  · simp
theorem cuts_none {cs : List Nat} (h : 61 ∉ cs) : ((List.range cs.length).filter fun j => cs.getD j 0 == 61) = [] := by
  rw [List.filter_eq_nil_iff]
  intro j hj
  rw [List.mem_range] at hj
  rw [List.getD_eq_getElem?_getD, List.getElem?_eq_getElem hj, Option.getD_some, beq_iff_eq]
  intro q
  exact h (q ▸ List.getElem_mem hj)
end Mine
end

section
open PySem PySem.Calls PyProof.Rows PySem.Builtin PySem.Builtin.Str
set_option maxRecDepth 100000
set_option linter.unusedSimpArgs false
namespace Mine
theorem slice_sub (B : Str) (l u : Option Int) {x : Nat} (h : x ∈ (Txt.slice B l u).cps.toList) : x ∈ B.cps.toList := by
  unfold Txt.slice at h
  split at h
  · exact h
  · simp only [List.mem_filterMap] at h
    obtain ⟨i, _, e⟩ := h
    rw [← Array.getElem?_toList] at e
    exact List.mem_of_getElem? e
theorem slice_S (B : Str) (l u : Option Int) : Txt.slice B l u = S (Txt.slice B l u).cps.toList := rfl
theorem S_append (x y : List Nat) : S x ++ S y = S (x ++ y) := by
  refine Str.ext' (Array.toList_inj.mp ?_)
  simp [Str.cps_append]
theorem S_eq : Str.ofString "=" = S [61] := by decide +kernel
theorem sum_eq (n v : List Nat) : S n ++ Str.ofString "=" ++ S v = S (n ++ 61 :: v) := by
  rw [S_eq, S_append, S_append]; simp
theorem sum_pad (u n v : List Nat) : S u ++ S n ++ S u ++ Str.ofString "=" ++ S u ++ S v ++ S u = S ((u ++ (n ++ u)) ++ 61 :: (u ++ (v ++ u))) := by
  rw [S_eq]; simp only [S_append]; simp
end Mine
end

section
open PySem PySem.W PySem.Calls PyProof.Rows PySem.Builtin PySem.Builtin.SmallTypes
set_option maxRecDepth 100000
set_option maxHeartbeats 8000000
namespace Mine
theorem slot_map_init : Slot "map" "__init__" "object.__init__" :=
  .of (owner := "object") (n := "__init__") (by rw [typeLookup_type, builtinLookup_eq_fast]; kernel_rfl) (by decide +kernel) (by decide +kernel) (by decide +kernel)
    (by first | exact .inl (by decide +kernel) | exact .inr (by decide +kernel)) (by rw [isSubtype_type]; kernel_rfl)
theorem mro_map : mroOf (.type "map") = pure [.type "map", .type "object"] := by rw [mroOf_type]; kernel_rfl
theorem lookup_map_new : typeLookup (.type "map") "__new__" = pure (some (.builtin "map.__new__")) := by rw [typeLookup_type, builtinLookup_eq_fast]; kernel_rfl
theorem called_map : TypeCalled "map" "map.__new__" "object.__init__" :=
  ⟨by decide +kernel, by decide +kernel, ⟨_, _, mro_map⟩, madeBy_type mro_map lookup_map_new (by decide +kernel), by decide +kernel, by rw [isSubtype_type]; kernel_rfl, slot_map_init⟩
theorem typeCall_map (a b : Value) : checkTypeCall "map" ⟨[a, b], []⟩ = pure () := by kernel_rfl
theorem newCall_map (a b : Value) : checkBuiltinCall "map.__new__" ⟨[.type "map", a, b], []⟩ = pure () := by kernel_rfl
theorem entry_map_new : entryFor table "map.__new__" = some Builtin.«map.__new__» := entryFor_of_tree (by kernel_rfl)
theorem args_init_3 (a b c : Value) : argsOk "object.__init__" ⟨[a, b, c], []⟩ := by unfold argsOk; kernel_rfl
theorem sub_map : isSubtype (.type "map") (.type "map") = pure true := by rw [isSubtype_type]; kernel_rfl
def liObj (l : Addr) : Obj := { cls := .type "list_iterator", data := .fields #[.ref l, .int 0 0] }
theorem meets_map_new (f : Value) (l : Addr) (items : Array Value) :
    Meets (Builtin.«map.__new__» ⟨[.type "map", f, .ref l], []⟩) (fun _ R s => s.heap.IsList l items ∧
      R (.ok (.ret (.ref ((s.heap.push (liObj l)).push { cls := .type "tuple", data := .seq #[.ref s.heap.objs.size] }).objs.size)))
        { s with heap := ((s.heap.push (liObj l)).push { cls := .type "tuple", data := .seq #[.ref s.heap.objs.size] }).push { cls := .type "map", data := .fields #[.ref (s.heap.push (liObj l)).objs.size, f] } }) :=
  .of_wp fun prog w A R s h => by
    obtain ⟨hp, g, d, tk, os⟩ := s; obtain ⟨hL, h⟩ := h
    have hsub := sub_map
    have e1 : isType (.type "map") = pure true := by first | rfl | kernel_rfl
    unfold Builtin.«map.__new__»
    have e2 : newClass "map" ⟨[.type "map", f, .ref l], []⟩ = pure (.type "map", [f, .ref l]) := by
      unfold newClass
      simp only [e1, hsub, pure_bind, Bool.not_true, Bool.false_eq_true, if_false]
    refine wpAny_bind (wpAny_of_eq e2 ?_)
    dsimp only
    have e3 : refuseKeywords "map" (.type "map") ⟨[.type "map", f, .ref l], []⟩ = pure () := by
      unfold refuseKeywords
      simp only [List.isEmpty_nil, if_true]
    refine wpAny_bind (wpAny_of_eq e3 ?_)
    rw [if_neg (by simp)]
    refine wpAny_bind ?_
    show wpAny _ _ (iterAll [.ref l]) _ _ _
    unfold iterAll
    simp only [List.forIn_cons, List.forIn_nil]
    refine wpAny_bind (wpAny_bind (wpAny_bind (wpAny_holding (wpAny_pyIter_list hL ?_))))
    refine wpAny_pure (wpAny_pure (wpAny_pure ?_))
    unfold newTuple newRecord
    refine wpAny_bind (wpAny_newObj_type ?_ (by show (1 : Nat) ≤ sizeLine; decide))
    refine wpAny_bind (wpAny_newObj_type ?_)
    exact wpAny_pure ⟨_, rfl, h⟩
theorem x_map {w : World} {s : Shared} (_KX : (Mine.hd.heap_39 w.params).In s.heap) {l : Addr} {d : Option Addr} {n : Nat} {its : Array Value} {sl : Array (Option Value)} (hl : s.heap.get? l = some ⟨.type "list", d, .seq its n, sl⟩) :
    Yields (model PG w) XA (call (.type "map") [.builtin "str.strip", .ref l]) s (fun x nw => ∃ m tp it r, x = .ref m ∧ nw = (m, ({ cls := .type "map", data := .fields #[.ref tp, .builtin "str.strip"] } : Obj)) :: (tp, ({ cls := .type "tuple", data := .seq #[.ref it] } : Obj)) :: (it, ({ cls := .type "list_iterator", data := .fields #[.ref l, .int 0 0] } : Obj)) :: r) := fun Q E hQ => by
  have hL : s.heap.IsList l its := ⟨_, hl, rfl, n, rfl⟩
  refine callType_new called_map (by decide) (typeCall_map _ _) (newCall_map _ _) (fun obj => args_init_3 obj _ _) entry_map_new (meets_map_new _ l its) ⟨hL, ?_⟩
  have z1 : (s.heap.push (liObj l)).objs.size = s.heap.objs.size + 1 := Heap.size_push ..
  have z2 : ((s.heap.push (liObj l)).push { cls := .type "tuple", data := .seq #[.ref s.heap.objs.size] }).objs.size = s.heap.objs.size + 2 := by rw [Heap.size_push, z1]
  have g1 : (s.heap.push (liObj l)).get? s.heap.objs.size = some (liObj l) := Heap.get?_push_size _ rfl
  have g2 : ((s.heap.push (liObj l)).push { cls := .type "tuple", data := .seq #[.ref s.heap.objs.size] }).get? (s.heap.push (liObj l)).objs.size = some { cls := .type "tuple", data := .seq #[.ref s.heap.objs.size] } := Heap.get?_push_size _ rfl
  have g3 : (((s.heap.push (liObj l)).push { cls := .type "tuple", data := .seq #[.ref s.heap.objs.size] }).push { cls := .type "map", data := .fields #[.ref (s.heap.push (liObj l)).objs.size, .builtin "str.strip"] }).get? ((s.heap.push (liObj l)).push { cls := .type "tuple", data := .seq #[.ref s.heap.objs.size] }).objs.size = some { cls := .type "map", data := .fields #[.ref (s.heap.push (liObj l)).objs.size, .builtin "str.strip"] } := Heap.get?_push_size _ rfl
  show _ ∧ _
  refine ⟨⟨_, g3, rfl⟩, hQ _ _ s.toks [(((s.heap.push (liObj l)).push { cls := .type "tuple", data := .seq #[.ref s.heap.objs.size] }).objs.size, { cls := .type "map", data := .fields #[.ref (s.heap.push (liObj l)).objs.size, .builtin "str.strip"] }), ((s.heap.push (liObj l)).objs.size, { cls := .type "tuple", data := .seq #[.ref s.heap.objs.size] }), (s.heap.objs.size, { cls := .type "list_iterator", data := .fields #[.ref l, .int 0 0] })] ⟨fun b o e => Heap.get?_push_of_some _ (Heap.get?_push_of_some _ (Heap.get?_push_of_some _ e)), fun p hp => ?_⟩ ⟨_, _, _, [], rfl, rfl⟩⟩
  simp only [List.mem_cons, List.not_mem_nil, or_false] at hp
  rcases hp with rfl | rfl | rfl
  · exact ⟨g3, Heap.get?_none_of_le (by rw [z2]; omega)⟩
  · exact ⟨Heap.get?_push_of_some _ g2, Heap.get?_none_of_le (by rw [z1]; omega)⟩
  · exact ⟨Heap.get?_push_of_some _ (Heap.get?_push_of_some _ g1), Heap.get?_none_of_le (Nat.le_refl _)⟩
end Mine
end

section
open PySem PySem.W PySem.W.X PySem.Calls PyProof.Rows
set_option maxRecDepth 100000
set_option maxHeartbeats 8000000
namespace Mine
section
local macro_rules | `(tactic| x_close) => `(tactic| first | (refine xk_use (by assumption) (by assumption) ?_; first | exact rfl | exact ⟨_, rfl⟩) | (refine xk_use (by assumption) (Mem.start _) ?_; first | exact rfl | exact ⟨_, rfl⟩))
theorem x_type {w : World} {s : Shared} (KX : (Mine.hd.heap_39 w.params).In s.heap) {p : Addr} {d : Option Addr} {its : Array Value} {n : Nat} {sl : Array (Option Value)} (hp : s.heap.get? p = some ⟨.ref 155, d, .seq its n, sl⟩) :
    Yields (model PG w) XA (call (.type "type") [.ref p]) s (fun x _ => x = .ref 155) := yields_of_xk fun Q E hQ => by
  x_run
theorem x_issub {w : World} {s : Shared} (KX : (Mine.hd.heap_39 w.params).In s.heap) :
    Yields (model PG w) XA (call (.builtin "issubclass") [.ref 155, .type "tuple"]) s (fun x _ => x = .bool true) := yields_of_xk fun Q E hQ => by
  x_run
end
end Mine
end

section
open PySem PySem.W PySem.W.X PySem.Calls PyProof.Rows PySem.Builtin
set_option maxRecDepth 100000
set_option maxHeartbeats 8000000
namespace Mine
theorem fillX3 : PySem.Challenge.rw_il0025_01 = PySem.Challenge.rw_il0025_01 ∧ Mine.hd.heap_39 = Mine.hd.heap_39 := by
  k_fill
  exact ⟨rfl, rfl⟩
section
local macro_rules | `(tactic| x_close) => `(tactic| (refine xk_use (by assumption) (by assumption) ?_; (first | exact ⟨_, _, _, _, rfl, rfl⟩ | exact ⟨_, _, _, rfl, rfl⟩ | exact rfl)))
theorem x_new {w : World} {s : Shared} (KX : (Mine.hd.heap_39 w.params).In s.heap) {q : Addr} {n v : Str} {t1 t2 : Tok} (hq : s.heap.get? q = some { cls := .type "tuple", data := .seq #[.str n t1, .str v t2] }) :
    Yields (model PG w) XA (call (.builtin "tuple.__new__") [.ref 155, .ref q]) s (fun x nw => ∃ p d r, x = .ref p ∧ nw = (p, ({ cls := .ref 155, dict := some d, data := .seq #[.str n t1, .str v t2] } : Obj)) :: (d, ({ cls := .type "dict", data := .dict #[] } : Obj)) :: r) := yields_of_xk fun Q E hQ => by
  x_run
end
theorem Nw.behind {h h' h'' : Heap} {nw : List (Addr × Obj)} (k : ∀ b o, h.get? b = some o → h'.get? b = some o) (x : Nw h' h'' nw) : Nw h h'' nw := ⟨fun b o e => x.keep b o (k b o e), fun p hp => ⟨(x.new p hp).1, kts_none k (x.new p hp).2⟩⟩
theorem tuple_new_attr {prog : Program} {w : World} {A : Around} {s : Shared} {h₀ : Heap} {L : Addr} {m : Str → Option Value} {E : Value → Shared → Prop} {Q : Value × List Value → Shared → Prop} {pl : Sem Bool} (F : Fr h₀ L s.heap m) (X₀ : (Mine.hd.heap_39 w.params).In h₀)
    (h : Q (.builtin "tuple.__new__", []) { s with toks := s.toks + 1 }) : wpAny (model prog w) A (getMethod (.type "tuple") (Str.ofString "__new__") pl) Q E s := by
  have e : findCls (Mine.hd.heap_39 w.params) (.type "tuple") (.type "type") (Str.ofString "__new__") = some (.val (.builtin "tuple.__new__")) := by k_is
  have e1 : typeOf (.type "tuple") = pure (.type "type") := kitMeta_of (by decide +kernel)
  have e2 : Manifest.isStub "tuple" = false := by decide +kernel
  have e3 : handedIn (.builtin "tuple.__new__") = true := by decide +kernel
  have z := @method_type prog w A E s (Mine.hd.heap_39 w.params) L h₀ m (Str.ofString "__new__") (.builtin "tuple.__new__") "tuple" pl Q F X₀ e1 e2 e e3 h
  exact z
theorem x_pair {w : World} {A : Around} {s : Shared} {mg mb : Str → Option Value} {E : Value → Shared → Prop} {Q : Value → Shared → Prop} (hh : A.handled = none) (hd : A.depth ≤ 510) (hu : A.units ≤ 7010) (KX : (Mine.hd.heap_39 w.params).In s.heap) (T : TR mg mb s.heap) (n v : Str) (t1 t2 : Tok)
    (hQ : ∀ p d r h' tk nw, Nw s.heap h' nw → nw = (p, ({ cls := .ref 155, dict := some d, data := .seq #[.str n t1, .str v t2] } : Obj)) :: (d, ({ cls := .type "dict", data := .dict #[] } : Obj)) :: r → Q (.ref p) { s with heap := h', toks := tk }) :
    wpAny (model PG w) A (call (.ref 155) [.str n t1, .str v t2]) Q E s := by
  obtain ⟨h, g, d, tk, os⟩ := s
  obtain ⟨oc, od, cd, sl, hK, hsl, hmro⟩ : ∃ oc od cd sl, (Mine.hd.heap_39 w.params).lookup 155 = some ⟨oc, od, .cls cd, sl⟩ ∧ (sl.toList[4]?).join = some .none ∧ cd.mro = [.ref 155, .ref 132, .type "tuple", .type "object"] := ⟨_, _, _, _, rfl, rfl, rfl⟩
  have hC := KX _ _ hK
  have typ : Looks (model PG w) h (isInstance (.ref 155) (.type "type")) true := looks_instIn KX (by rfl)
  have hcall : Looks (model PG w) h (specialOf (.ref 155) "__call__") (some (.builtin "type.__call__")) := looks_specialIn KX (by k_is)
  refine wpAny_call (codeAny_of_tree ?_)
  show wpAny _ _ (callAny (.ref 155) _) _ _ _
  refine nd_load hC ?_
  show wpAny _ _ (callAny.viaDunder (.ref 155) _) _ _ _
  unfold callAny.viaDunder
  refine wpAny_bind (hcall.at ?_)
  dsimp only
  rw [tc_bind]
  refine wpAny_bind (wpAny_pure (wpAny_bind (wpAny_pure ?_)))
  refine wpAny_pure (a := Fin.again (.call (.builtin "type.__call__") ⟨.ref 155 :: [.str n t1, .str v t2], []⟩)) (And.intro rfl ?_)
  refine codeAny_call_builtin_at (Code.quiet_builtin _ (by decide +kernel)) entry_typeCall ?_
  refine @check_slot (model PG w) _ _ ⟨h, g, d, tk, os⟩ "type.__call__" "type" "__call__" (.ref 155) [.str n t1, .str v t2] [] _ tc_kind tc_split typ (tc_args _ _ _) ?_
  unfold Builtin.«type.__call__»
  dsimp only
  have e1 : (Value.ref 155 == Value.type "type") = false := by decide
  rw [e1]
  simp only [Bool.false_eq_true, if_false]
  have hm : Looks (model PG w) h (mroOf (.ref 155)) cd.mro := ((Looks.ld (part := none) hC).andThen .now).andThen .now
  have made : Looks (model PG w) h (Bind.madeBy (.ref 155)) none := by
    intro A Q E s k q
    unfold Bind.madeBy
    refine wpAny_bind (hm A _ E s k ?_)
    rw [hmro, List.forIn_cons]
    refine wpAny_bind (wpAny_bind (wpAny_bind (wpAny_bind (wpAny_loadPart (k _ _ hC) (wpAny_pure ?_)))))
    dsimp only
    rw [← Array.getElem?_toList, hsl]
    exact wpAny_pure (wpAny_pure (wpAny_pure q))
  refine wpAny_bind (hm.at ?_)
  rw [hmro]
  simp only [List.isEmpty_cons, Bool.false_eq_true, if_false]
  refine wpAny_bind (made.at ?_)
  dsimp only
  have hr : readsIn (Mine.hd.heap_39 w.params) 155 (.type "type") = true := by k_is
  have hfc : findCls (Mine.hd.heap_39 w.params) (.ref 155) (.type "type") (Str.ofString "__new__") = some (CFound.get (.builtin "staticmethod.__get__") (.ref 133) .none (.ref 155)) := by k_is
  obtain ⟨rest, hrec⟩ : ∃ rest, recIn (Mine.hd.heap_39 w.params) 133 "staticmethod" = some (.ref 82 :: rest) := ⟨_, rfl⟩
  refine wpAny_bind (cls_bind KX hr hfc (wpAny_call (sm_get (s := ⟨h, g, d, tk + 1, os⟩) KX hrec (handed_on (by rfl) ?_))))
  refine wpAny_bind (wpAny_holding (wpAny_call ?_))
  have hA : (A.under (Code.builtin "type.__call__" ⟨[.ref 155, .str n t1, .str v t2], []⟩)).handled = none ∧ (A.under (Code.builtin "type.__call__" ⟨[.ref 155, .str n t1, .str v t2], []⟩)).depth ≤ 520 ∧ (A.under (Code.builtin "type.__call__" ⟨[.ref 155, .str n t1, .str v t2], []⟩)).units ≤ 7020 := by
    refine ⟨hh, ?_, ?_⟩
    · show A.depth + Code.weight _ ≤ 520
      rw [show Code.weight (Code.builtin "type.__call__" ⟨[.ref 155, .str n t1, .str v t2], []⟩) = 1 from rfl]; omega
    · show A.units + Code.cUnits _ ≤ 7020
      rw [show Code.cUnits (Code.builtin "type.__call__" ⟨[.ref 155, .str n t1, .str v t2], []⟩) = 1 from rfl]; omega
  generalize A.under (Code.builtin "type.__call__" ⟨[.ref 155, .str n t1, .str v t2], []⟩) = A' at hA ⊢
  obtain ⟨hh', hd', hu'⟩ := hA
  refine enter KX rfl rfl T.nolimit (Nat.lt_of_le_of_lt hd' (by decide)) (BindsTo.of_eq (binds := [(Str.ofString "_cls", .ref 155), (Str.ofString "name", .str n t1), (Str.ofString "value", .str v t2)]) rfl) rfl (by decide +kernel) fun L h₁ tk1 cells F N Y => ?_
  obtain rfl : cells = [] := cells_nil Y
  clear Y
  k_steps
  rename Fr _ _ _ _ => FA
  refine tuple_new_attr FA KX ?_
  k_steps
  rename Fr _ _ _ _ => FB
  rename News _ _ _ _ => NB
  have hq := (NB _ (.head _)).1
  refine (x_new (s := ⟨_, g, d, _, os⟩) (KX.keeps FB.keep) hq).weaken (A := A'.deeper _) hh' (by show A'.depth + 1 ≤ 600; omega) (by show A'.units + 3 ≤ 8000; omega) _ _ fun x h2 tk2 nw W hx => ?_
  obtain ⟨p, dd, r, rfl, rfl⟩ := hx
  try dsimp only
  have Wh := W.behind FB.keep
  have K2 : (Mine.hd.heap_39 w.params).In h2 := KX.keeps Wh.keep
  have hp : h2.get? p = some { cls := .ref 155, dict := some dd, data := .seq #[.str n t1, .str v t2] } := (W.new _ (.head _)).1
  have hty : Looks (model PG w) h2 (typeOf (.ref p)) (.ref 155) := (Looks.ld hp).andThen .now
  have hins : Looks (model PG w) h2 (isInstance (.ref p) (.ref 155)) true := hty.andThen (looks_subIn K2 (by rfl))
  have hobj : Looks (model PG w) h2 (isInstance (.ref p) (.type "object")) true := hty.andThen (looks_subIn K2 (by rfl))
  have hini : Looks (model PG w) h2 (specialOf (.ref p) (Str.ofString "__init__")) (some (.builtin "object.__init__")) := hty.andThen (looks_findIn K2 (by k_is))
  have hC2 := K2 _ _ hK
  have hm2 : Looks (model PG w) h2 (mroOf (.ref 155)) cd.mro := ((Looks.ld (part := none) hC2).andThen .now).andThen .now
  have made2 : Looks (model PG w) h2 (Bind.madeBy (.ref 155)) none := by
    intro A Q E s k q
    unfold Bind.madeBy
    refine wpAny_bind (hm2 A _ E s k ?_)
    rw [hmro, List.forIn_cons]
    refine wpAny_bind (wpAny_bind (wpAny_bind (wpAny_bind (wpAny_loadPart (k _ _ hC2) (wpAny_pure ?_)))))
    dsimp only
    rw [← Array.getElem?_toList, hsl]
    exact wpAny_pure (wpAny_pure (wpAny_pure q))
  refine wpAny_bind (hins.at ?_)
  simp only [Bool.not_true, Bool.false_eq_true, if_false, callSpecial?]
  refine wpAny_bind (wpAny_holding (wpAny_bind (hini.at ?_)))
  dsimp only
  rw [PySem.F.slot_tuple_init.bind (.ref p)]
  refine wpAny_holding (wpAny_bind (wpAny_pure (wpAny_bind (wpAny_call ?_))))
  refine codeAny_call_builtin PySem.F.slot_tuple_init.plain PySem.F.entry_object_init ?_
  have hk9 : builtinKind "object.__init__" = some .slot := by decide +kernel
  have hs9 : splitId "object.__init__" = some ("object", "__init__") := by decide +kernel
  refine @check_slot (model PG w) _ _ ⟨h2, g, d, tk2, os⟩ "object.__init__" "object" "__init__" (.ref p) [.str n t1, .str v t2] [] _ hk9 hs9 hobj (PySem.F.args_object_init_3 _ _ _) ?_
  unfold Builtin.«object.__init__»
  simp only [List.cons_append, List.nil_append, List.isEmpty_cons, Bool.not_false, Bool.true_or, if_true]
  have hl2 : Looks (model PG w) h2 (typeLookup (.ref 155) (Str.ofString "__init__")) (some (.builtin "object.__init__")) := looks_findIn K2 (by k_is)
  refine wpAny_bind (hty.at (wpAny_bind (hl2.at (wpAny_bind (made2.at ?_)))))
  rw [if_neg (by decide)]
  rw [if_neg (by decide)]
  refine wpAny_pure ?_
  refine wpAny_pure ?_
  dsimp only
  rw [if_neg (by decide)]
  refine wpAny_pure ?_
  dsimp only
  exact hQ p dd r h2 tk2 _ Wh rfl
end Mine
end

section
open PySem PySem.W PySem.W.X PySem.Calls PyProof.Rows
set_option maxRecDepth 100000
set_option maxHeartbeats 8000000
namespace Mine
theorem str_length_S (l : List Nat) : (S l).length = l.length := by simp [Str.length]
theorem fr_of_but {h₀ h h' : Heap} {L : Addr} {m : Str → Option Value} {it : Addr} (F : Fr h₀ L h m) (hk : ∀ b o, b ∉ [it] → h.get? b = some o → h'.get? b = some o) (hL : L ≠ it) (hI : h₀.get? it = none) : Fr h₀ L h' m :=
  ⟨F.ns.at' fun o e => hk L o (by simpa using hL) e, fun b o e => hk b o (fun hm => by rw [List.mem_singleton.mp hm, hI] at e; cases e) (F.keep b o e), F.above⟩
theorem split_map_star {w : World} {A : Around} {s : Shared} {h₀ : Heap} {L : Addr} {m : Str → Option Value} {E : Value → Shared → Prop} {Qx : List Value → Shared → Prop} {env : Env} {pos : Pos}
    (hh : A.handled = none) (hd : A.depth ≤ 600) (hu : A.units ≤ 8000) (KX : (Mine.hd.heap_39 w.params).In h₀) (F : Fr h₀ L s.heap m) (N : News h₀ L s.heap []) (X : Str) (t t1 t2 : Tok) (hsz : X.length + 2 ≤ sizeLine)
    (hQ : ∀ vs h' tk, StrsAre vs ((Txt.splitMax X EQ 1).map Txt.strip) → Fr h₀ L h' m → Qx vs { s with heap := h', toks := tk }) :
    wpAny (model PG w) A (call (.builtin "str.split") [.str X t, .str EQ t1, .int 1 t2]) (fun v s₁ => wpAny (model PG w) A (spliced (backTo pos (starEach [] env))) (fun vs s₂ =>
      wpAny (model PG w) A (call (.type "map") (.builtin "str.strip" :: v :: vs)) (fun v s₁ => StarOf (model PG w) A E v Qx s₁) E s₂) E s₁) E s := by
  refine splitN2A F N (by decide) (by decide) (fun l h' tk e1 e2 e3 hl F' N' => ?_) hsz
  refine Calls.spliced_nil ?_
  have KX' := KX.keeps F'.keep
  have hD : h'.get? s.heap.objs.size = some { cls := .type "list", data := .seq (strValues l).toArray } := (N' _ List.mem_cons_self).1
  refine (x_map (s := ⟨h', s.gens, s.drawn, tk, s.os⟩) KX' hD).weaken hh hd hu _ _ fun v h'' tk' nw W hp => ?_
  obtain ⟨Mp, tp, it, r, rfl, rfl⟩ := hp
  obtain ⟨hM, fM⟩ := W.new _ List.mem_cons_self
  obtain ⟨htp, ftp⟩ := W.new _ (List.mem_cons_of_mem _ List.mem_cons_self)
  obtain ⟨hit, fit⟩ := W.new _ (List.mem_cons_of_mem _ (List.mem_cons_of_mem _ List.mem_cons_self))
  dsimp only at hM htp hit fM ftp fit
  have hD' := W.keep _ _ hD
  have F'' := W.fr F'
  have n1 : Mp ≠ it := fun e => by rw [e, hit] at hM; simp at hM
  have n2 : tp ≠ it := fun e => by rw [e, hit] at htp; simp at htp
  have n3 : s.heap.objs.size ≠ it := fun e => by rw [e, hit] at hD'; simp at hD'
  have hall : ∀ (i : Nat) v, (strValues l).toArray[i]? = some v → ∃ X t, v = .str X t ∧ X.length ≤ sizeLine := fun i v e => by
    rw [List.getElem?_toArray] at e
    unfold strValues at e
    rw [List.getElem?_map] at e
    cases q : l[i]? with
    | none => rw [q] at e; cases e
    | some a =>
      rw [q] at e; cases e
      exact ⟨a.1, a.2, rfl, Nat.le_trans (e3 a.1 (List.mem_map_of_mem (List.mem_of_getElem? q))) (by omega)⟩
  have hlen : (strValues l).toArray.size = (Txt.splitMax X EQ 1).length := by rw [← e1]; simp [strValues]
  have hsz' : (strValues l).toArray.size ≤ sizeLine := by
    have := StrLaws.occ_length_le X EQ 0 X.length (limitOf X 1)
    rw [limit_one] at this
    have h2 : (Txt.splitMax X EQ 1).length ≤ 2 := by
      unfold Txt.splitMax
      split
      · simp
      · split
        · simp
        · rw [limit_one, length_partsBetween]; omega
    rw [hlen]; omega
  unfold StarOf
  refine mapIterable hM ⟨rfl, ?_⟩
  refine collect_map hh n1 n2 n3 hall ⟨hM, htp, ⟨_, hit, rfl, rfl⟩, ⟨_, hD', rfl, _, rfl⟩⟩ hsz' fun s' acc mv io => ?_
  obtain ⟨h3, g3, d3, t3, o3⟩ := s'
  obtain ⟨k1, k2, k3, k4, _⟩ := mv
  dsimp only at k1 k2 k3 k4
  subst k2 k3 k4
  have hL : L ≠ it := fun e => by
    obtain ⟨oL, _, _, hL, _⟩ := F'.ns
    rw [e, fit] at hL; cases hL
  have h0 : h₀.get? it = none := by
    cases q : h₀.get? it with
    | none => rfl
    | some o => have := F'.keep _ _ q; rw [fit] at this; cases this
  refine hQ _ _ _ ?_ (fr_of_but F'' k1 hL h0)
  rw [← e1]
  obtain ⟨ha, hb⟩ := io
  have hc : ∀ (l : List (Str × Tok)) (acc : List Value), acc.length = l.length → (∀ (j : Nat) v, acc[j]? = some v → ∃ X t t', (strValues l)[j]? = some (Value.str X t) ∧ v = .str (Txt.strip X) t') → StrsAre acc ((l.map (·.1)).map Txt.strip) := by
    intro l
    induction l with
    | nil => intro acc hl _; cases acc with
      | nil => exact .nil
      | cons _ _ => cases hl
    | cons a l ih => intro acc hl hv; cases acc with
      | nil => cases hl
      | cons b acc =>
        obtain ⟨X, t, t', e, rfl⟩ := hv 0 b rfl
        have e' : Value.str a.1 a.2 = .str X t := Option.some.inj e
        cases e'
        exact .cons _ _ (ih acc (Nat.succ.inj hl) fun j v ej => hv (j + 1) v ej)
  refine hc l acc.toList (by rw [Array.length_toList, ha]; simp [strValues]) fun j v e => ?_
  have := hb j v (by rw [← Array.getElem?_toList]; exact e)
  simpa using this
end Mine
end

section
open PySem PySem.W PySem.W.X PySem.Calls PyProof.Rows Builtin
set_option maxRecDepth 100000
set_option maxHeartbeats 8000000
namespace Mine
section
variable {prog : Program} {w : World} {A : Around} {R : Result → Shared → Prop} {E : Value → Shared → Prop} {s : Shared} {env : Env}
theorem codeC_builtin {id : String} {args : Args} {b : Builtin} (hb : entryFor table id = some b)
    (h : wpC (model prog w) (A.under (.builtin id args)) (b args)
      (fun fin s' => match fin with | .done f => R (.ok f) s' | .again c' => c'.quiet = true ∧ codeC (model prog w) A c' R s') (fun e s' => R (.error e) s') s) :
    codeC (model prog w) A (.builtin id args) R s := by
  refine codeC_of_tree ?_
  show wpC _ _ (match entryFor table id with | some b => b args | none => unsupported ((withoutEnding? id "#data").getD id)) _ _ s
  rw [hb]; exact h
theorem codeC_call_builtin_at {id : String} {args : Args} {b : Builtin} (hq : (Code.builtin id args).quiet = true) (hb : entryFor table id = some b)
    (h : wpAny (model prog w) A.in1 (checkBuiltinCall id args) (fun _ s₁ => wpC (model prog w) (A.under (.builtin id args)) (b args)
      (fun fin s' => match fin with | .done f => R (.ok f) s' | .again c' => c'.quiet = true ∧ codeC (model prog w) A c' R s') (fun e s' => R (.error e) s') s₁)
      (fun e s' => R (.error e) s') s) : codeC (model prog w) A (.call (.builtin id) args) R s := by
  refine codeC_of_tree (wpC_of ?_)
  show wpAny _ A.in1 (do checkBuiltinCall id args; again (.builtin id args)) _ _ s
  exact wpAny_bind (wpAny_mono h (fun _ s₁ h₁ => wpAny_pure (And.intro hq (codeC_builtin hb h₁))) fun _ _ h' => h')
end
theorem not_python (Γ : Ctx) (p : Pos) (hc : HasC Γ) : pythonCodeMadeTheCall [] (((Γ.code, p) :: Γ.below).map (·.1)) = false := by
  unfold pythonCodeMadeTheCall
  have : (((Γ.code, p) :: Γ.below).map (·.1)).any (fun c => match c with | .builtin "claim.caller" _ => true | _ => false) = true := by
    rw [List.map_cons, List.any_cons, Bool.or_eq_true]
    right
    rw [List.any_map]
    exact hc
  refine Bool.and_eq_false_iff.mpr (.inl (Bool.and_eq_false_iff.mpr (.inl ?_)))
  rw [Bool.not_eq_false']
  exact this
theorem wpC_mark {M : Model} {A : Around} {s : Shared} {E : Value → Shared → Prop} {Q : Unit → Shared → Prop} {e : Value} (h : Q () s) : wpC M A (markTheRefusal [] e) Q E s := fun Γ p hi hc => by
  unfold markTheRefusal
  rw [Sem.wp_bind']
  show Sem.wp M Γ (.stack .pure) _ _ p s
  rw [Sem.wp_stack]
  show Sem.wp M Γ (if pythonCodeMadeTheCall [] (((Γ.code, p) :: Γ.below).map (·.1)) = true then _ else _) _ _ p s
  rw [not_python Γ p hc]
  exact h
theorem wpC_binderRefuses {α : Type} {M : Model} {A : Around} {s : Shared} {E : Value → Shared → Prop} {Q : α → Shared → Prop} {msg : String} (hh : A.handled = none) (hm : (Str.ofString msg).length ≤ sizeLine)
    (h : ∀ h' tk e, Heap.NewExc s.heap h' e "TypeError" → E (.ref e) { s with heap := h', toks := tk }) : wpC M A (theBinderRefuses msg : Sem α) Q E s := by
  unfold theBinderRefuses
  refine wpC_then (wpAny_mkStr ?_ hm)
  refine wpC_then ?_
  unfold newExc newTuple
  refine wpAny_bind (wpAny_newObj_type ?_)
  refine wpAny_bind (m := firstArgMember _ _) (wpAny_of_eq (a := Value.none) (by simp only [firstArgMember, typeError_no_first]; rfl) ?_)
  rw [ownMembersOf_TypeError]
  refine wpAny_newObj_type ?_
  refine wpC_bind (wpC_mark ?_)
  refine wpC_of ?_
  unfold raiseNew
  refine wpAny_bind (wpAny_handled ?_)
  rw [hh]
  first
    | refine wpAny_throw ?_
    | refine wpAny_bind (wpAny_pure (wpAny_throw ?_))
  exact h _ _ _ ⟨fun b o hb => Heap.get?_push_of_some _ (Heap.get?_push_of_some _ hb), Heap.get?_none_of_le (by simp), _, .ref s.heap.objs.size, Heap.get?_push_size _ rfl, rfl, by simp⟩
theorem refuse {w : World} {A : Around} {s : Shared} {E : Value → Shared → Prop} {Q : Value → Shared → Prop} (hh : A.handled = none) (KX : (Mine.hd.heap_39 w.params).In s.heap) (n : Str) (t : Tok)
    (hE : ∀ h' tk e, Heap.NewExc s.heap h' e "TypeError" → E (.ref e) { s with heap := h', toks := tk }) : wpC (model PG w) A (call (.ref 155) [.str n t]) Q E s := by
  obtain ⟨h, g, d, tk, os⟩ := s
  obtain ⟨oc, od, cd, sl, hK, hsl, hmro⟩ : ∃ oc od cd sl, (Mine.hd.heap_39 w.params).lookup 155 = some ⟨oc, od, .cls cd, sl⟩ ∧ (sl.toList[4]?).join = some .none ∧ cd.mro = [.ref 155, .ref 132, .type "tuple", .type "object"] := ⟨_, _, _, _, rfl, rfl, rfl⟩
  have hC := KX _ _ hK
  have typ : Looks (model PG w) h (isInstance (.ref 155) (.type "type")) true := looks_instIn KX (by rfl)
  have hcall : Looks (model PG w) h (specialOf (.ref 155) "__call__") (some (.builtin "type.__call__")) := looks_specialIn KX (by k_is)
  refine wpC_call (codeC_of_tree (wpC_of ?_))
  show wpAny _ _ (callAny (.ref 155) _) _ _ _
  refine nd_load hC ?_
  show wpAny _ _ (callAny.viaDunder (.ref 155) _) _ _ _
  unfold callAny.viaDunder
  refine wpAny_bind (hcall.at ?_)
  dsimp only
  rw [tc_bind]
  refine wpAny_bind (wpAny_pure (wpAny_bind (wpAny_pure ?_)))
  refine wpAny_pure (a := Fin.again (.call (.builtin "type.__call__") ⟨.ref 155 :: [.str n t], []⟩)) (And.intro rfl ?_)
  refine codeC_call_builtin_at (Code.quiet_builtin _ (by decide +kernel)) entry_typeCall ?_
  refine @check_slot (model PG w) _ _ ⟨h, g, d, tk, os⟩ "type.__call__" "type" "__call__" (.ref 155) [.str n t] [] _ tc_kind tc_split typ (tc_args _ _ _) ?_
  unfold Builtin.«type.__call__»
  dsimp only
  have e1 : (Value.ref 155 == Value.type "type") = false := by decide
  rw [e1]
  simp only [Bool.false_eq_true, if_false]
  have hm : Looks (model PG w) h (mroOf (.ref 155)) cd.mro := ((Looks.ld (part := none) hC).andThen .now).andThen .now
  have made : Looks (model PG w) h (Bind.madeBy (.ref 155)) none := by
    intro A Q E s k q
    unfold Bind.madeBy
    refine wpAny_bind (hm A _ E s k ?_)
    rw [hmro, List.forIn_cons]
    refine wpAny_bind (wpAny_bind (wpAny_bind (wpAny_bind (wpAny_loadPart (k _ _ hC) (wpAny_pure ?_)))))
    dsimp only
    rw [← Array.getElem?_toList, hsl]
    exact wpAny_pure (wpAny_pure (wpAny_pure q))
  refine wpC_then (hm.at ?_)
  rw [hmro]
  simp only [List.isEmpty_cons, Bool.false_eq_true, if_false]
  refine wpC_then (made.at ?_)
  dsimp only
  have hr : readsIn (Mine.hd.heap_39 w.params) 155 (.type "type") = true := by k_is
  have hfc : findCls (Mine.hd.heap_39 w.params) (.ref 155) (.type "type") (Str.ofString "__new__") = some (CFound.get (.builtin "staticmethod.__get__") (.ref 133) .none (.ref 155)) := by k_is
  obtain ⟨rest, hrec⟩ : ∃ rest, recIn (Mine.hd.heap_39 w.params) 133 "staticmethod" = some (.ref 82 :: rest) := ⟨_, rfl⟩
  refine wpC_then (cls_bind KX hr hfc (wpAny_call (sm_get (s := ⟨h, g, d, tk + 1, os⟩) KX hrec (handed_on (by rfl) ?_))))
  refine wpC_bind (wpC_holding (wpC_call (codeC_of_tree ?_)))
  show wpC _ _ (callAny (.ref 82) _) _ _ _
  obtain ⟨of, odf, slf, fd, hKf, hco, hgen, hbody, hcode, hdef, hcdi, hqn, hpar⟩ : ∃ oc od sl fd, (Mine.hd.heap_39 w.params).lookup 82 = some ⟨oc, od, .func fd, sl⟩ ∧ fd.scope.isCoroutine = false ∧ fd.scope.isGenerator = false ∧ (∃ b, fd.body = .stmts b) ∧ (∃ c, fd.code = .ref c) ∧ fd.defaults = .none ∧ codeIn (Mine.hd.heap_39 w.params) fd.code fd.qualname = true ∧ fd.qualname = Str.ofString "Pair.__new__" ∧
     (∃ p1 p2 p3, fd.params = { posonlyargs := [], args := [⟨Str.ofString "_cls", none, p1⟩, ⟨Str.ofString "name", none, p2⟩, ⟨Str.ofString "value", none, p3⟩], vararg := none, kwonlyargs := [], kw_defaults := [], kwarg := none, defaults := [] }) := ⟨_, _, _, _, rfl, rfl, rfl, ⟨_, rfl⟩, ⟨_, rfl⟩, rfl, rfl, rfl, ⟨_, _, _, rfl⟩⟩
  obtain ⟨p1, p2, p3, hpar⟩ := hpar
  have hcr : h.CodeRec fd.code fd.qualname := codeRec_of KX hcdi
  have hF := KX _ _ hKf
  simp only [callAny]
  refine wpC_then (wpAny_load hF ?_)
  dsimp only
  obtain ⟨c, oc', vs', tq, hc, hoc, hdc, hq⟩ := hcr
  unfold callFunction
  rw [hc]
  dsimp only
  refine wpC_then (wpAny_field (o := oc') hoc hdc hq ?_)
  dsimp only
  refine wpC_then (wpAny_pure ?_)
  refine wpC_bind ?_
  unfold bindArgs
  rw [hpar, hdef]
  simp only [List.map_nil, List.map_cons, List.nil_append, List.length_cons, List.length_nil, List.zip_cons_cons, List.zip_nil_right, List.zip_nil_left]
  rw [List.forIn_nil]
  with_reducible refine wpC_then (wpAny_pure ?_)
  refine wpC_then (wpAny_of_eq (a := none) (by rfl) ?_)
  rw [if_neg (by decide)]
  dsimp only
  rw [if_pos (by rfl)]
  with_reducible refine wpC_then (wpAny_rule ?_)
  refine wpC_bind (wpC_binderRefuses hh (Nat.le_of_ble_eq_true (by rw [hqn]; first | rfl | kernel_rfl)) fun h' tk' e hx => ?_)
  exact hE h' tk' e hx
end Mine
end

section
open PySem PySem.W PySem.W.X PySem.Calls PyProof.Rows
set_option maxRecDepth 100000
set_option maxHeartbeats 8000000
namespace Mine
theorem str_strip_attr {prog : Program} {w : World} {A : Around} {s : Shared} {h₀ : Heap} {L : Addr} {m : Str → Option Value} {E : Value → Shared → Prop} {Q : Value → Shared → Prop} (F : Fr h₀ L s.heap m) (X₀ : (Mine.hd.heap_39 w.params).In h₀)
    (h : Q (.builtin "str.strip") { s with toks := s.toks + 1 }) : wpAny (model prog w) A (getAttr (.type "str") (Str.ofString "strip") true) Q E s := by
  have X := X₀.keeps F.keep
  have hstub : opaqueClassAbove (.type "str") = pure none := by unfold opaqueClassAbove; dsimp only; rw [show Manifest.isStub "str" = false by decide +kernel]; rfl
  have ht : typeOf (.type "str") = pure (.type "type") := by first | rfl | kernel_rfl
  have e : findCls (Mine.hd.heap_39 w.params) (.type "str") (.type "type") (Str.ofString "strip") = some (.val (.builtin "str.strip")) := by k_is
  have L0 : Looks (model prog w) s.heap (typeOf (.type "str")) (.type "type") := Looks.of_pure ht
  have LO : Looks (model prog w) s.heap (opaqueClassAbove (.type "str")) none := Looks.of_pure hstub
  have hg : findIn (Mine.hd.heap_39 w.params) (.type "type") "__getattribute__" = some (some (.builtin "type.__getattribute__")) := type_tga
  exact cls_open X LO L0 hg (looks_hook X (r := none) (by rfl)) (by show subIn _ _ _ = _; rfl) e (wpAny_pure (by show wpAny _ _ (handedOut _) _ _ _; rw [handedOut_of (by rfl)]; exact wpAny_pure h))
theorem eq_str : Str.ofString "=" = EQ := by rfl
/-- Pair.parse of a text with no "=" is refused -/
theorem parse_none {w : World} {A : Around} {s : Shared} {mg mb : Str → Option Value} {base : Heap} {outer : List Env} (hh : A.handled = none) (hd : A.depth ≤ 500) (hu : A.units ≤ 7000) (B : Below A base outer s.heap) (KX : (Mine.hd.heap_39 w.params).In s.heap) (T : TR mg mb s.heap) (X : Str) (t : Tok) (hsz : decide (X.length + 2 ≤ sizeLine) = true) (hX : 61 ∉ X.cps.toList) {R : Result → Shared → Prop}
    (hR : ∀ e h' tk, RaisedSN base s.heap outer e (.type "TypeError") [] h' → s.heap.UpToSlots h' → R (.error (.ref e)) { s with heap := h', toks := tk }) : codeC (model PG w) A (.call (.ref 149) ⟨[.ref 155, .str X t], []⟩) R s := by
  refine enterR KX rfl rfl T.nolimit (Nat.lt_of_le_of_lt hd (by decide)) (BindsTo.of_eq (binds := [(Str.ofString "cls", .ref 155), (Str.ofString "text", .str X t)]) rfl) rfl (by decide +kernel) fun L h₁ tk cells F N Y => ?_
  obtain rfl : cells = [] := cells_nil Y
  refine wpC_execs_cons (wpC_Return (wpC_CallName ?_))
  k_steps
  refine wpC_callWith (P := (Mine.hd.heap_39 w.params).In) (keeps_K (by k_is)) ?_
  refine ks_lone ?_
  k_steps
  refine str_strip_attr F KX ?_
  k_steps
  refine split_map_star (A := A.deeper _) hh (by show A.depth + 1 ≤ 600; omega) (by show A.units + 3 ≤ 8000; omega) KX F N X t _ _ (of_decide_eq_true hsz) fun vs h' tk' hvs F' => ?_
  rw [show X = S X.cps.toList from rfl, split_none hX] at hvs
  cases hvs with
  | cons y t' r =>
  cases r
  refine ⟨KX.keeps F'.keep, refuse (A := A.deeper _) hh (KX.keeps F'.keep) _ _ fun h3 tk3 e hx => ?_⟩
  dsimp only
  refine leave_newS B hx F' .nil fun h4 R4 _ u => hR _ _ _ R4 u
end Mine
end

section
open PySem PySem.W PySem.W.X PySem.Calls PyProof.Rows
set_option maxRecDepth 100000
set_option maxHeartbeats 8000000
namespace Mine
/-- what a caught refusal leaves: all but the slots of the frames beneath -/
def Slip (fs : List Addr) (h h' : Heap) : Prop := ∃ g', KtsTurn fs h g' ∧ g'.StaysIn h'
theorem law_parsed_none {w : World} {A : Around} {s : Shared} {mean : ExcName → Option Value} {mg mb : Str → Option Value} {base : Heap} {outer : List Env} (hh : A.handled = none) (hd : A.depth ≤ 490) (hu : A.units ≤ 6900) (B : Below A base outer s.heap) (KB : (Mine.hd.heap_39 w.params).In base) (TB : TopF mean mg mb base)
    (D : KtsDicts (outer.filterMap (·.frame)) s.heap) (X : Str) (t : Tok) (hsz : decide (X.length + 2 ≤ sizeLine) = true) (hX : 61 ∉ X.cps.toList) {R : Result → Shared → Prop}
    (hR : ∀ h' tk, Slip (outer.filterMap (·.frame)) s.heap h' → R (.ok (.ret .none)) { s with heap := h', toks := tk }) : codeC (model PG w) A (.call (.ref 180) ⟨[.str X t], []⟩) R s := by
  have KX := KB.keeps B.stays
  have T := topRead_of (TB.keeps B.stays)
  refine enterR KX rfl rfl T.nolimit (Nat.lt_of_le_of_lt hd (by decide)) (BindsTo.of_eq (binds := [(Str.ofString "text", .str X t)]) rfl) rfl (by decide +kernel) fun L h₁ tk cells F N Y => ?_
  obtain rfl : cells = [] := cells_nil Y
  refine wpC_execs_cons (wpC_Try (wpC_execs_cons (wpC_Return (wpC_methodCall ?_))))
  k_steps
  rename_i q h₂ F₂ N₂ l₂
  refine wpC_callWith (P := MethP (Mine.hd.heap_39 w.params) q 149 (.ref 155)) (keeps_M (by k_is)) ?_
  refine evalArgs_plain (Calls.spliced_cons ?_)
  show wpAny _ _ (eval (Expr.Name (Str.ofString "text") _) _) _ _ _
  k_steps
  have hq := (N₂ _ List.mem_cons_self).1
  refine wpC_call (codeC_of_tree (wpC_of ?_))
  show wpAny _ _ (callAny (.ref q) _) _ _ _
  simp only [callAny]
  refine wpAny_bind (wpAny_load hq ?_)
  dsimp only [methodObj]
  rw [if_pos (by decide)]
  try dsimp only
  refine wpAny_pure ⟨rfl, ?_⟩
  refine parse_none (A := A.deeper _) (base := base) hh (by show A.depth + 1 ≤ 500; omega) (by show A.units + 3 ≤ 7000; omega) (B.push F₂) (KX.keeps F₂.keep) (T.keeps F₂.keep) X t hsz hX fun e h₃ tk₃ R₃ u₃ => ?_
  try dsimp only
  refine caught_SN0 (T' := "TypeError") (mean := mean) R₃ F₂ B u₃ KB TB D KtsTurn.refl (by k_is) PyProof.Rows.Boot.«TypeError» (by decide) PySem.F.isExc_TypeError PySem.F.notTuple_TypeError (by kts_sub) fun h₄ g₄ t₄ F₄ N₄ B₄ _ _ D₄ => ?_
  k_steps
  exact hR _ _ ⟨g₄, t₄, F₄.keep⟩
end Mine
end

section
open PySem PySem.W PySem.W.X PySem.Calls PyProof.Rows
set_option maxRecDepth 100000
set_option maxHeartbeats 8000000
namespace Mine
abbrev sp := Unicode.isSpace
def PairAt (h h' : Heap) (p d : Addr) (n v : Str) (t1 t2 : Tok) : Prop := Nw h h' [(p, ({ cls := .ref 155, dict := some d, data := .seq #[.str n t1, .str v t2] } : Obj)), (d, ({ cls := .type "dict", data := .dict #[] } : Obj))]
theorem parse_some {w : World} {A : Around} {s : Shared} {mg mb : Str → Option Value} (hh : A.handled = none) (hd : A.depth ≤ 500) (hu : A.units ≤ 7000) (KX : (Mine.hd.heap_39 w.params).In s.heap) (T : TR mg mb s.heap) (a b : List Nat) (ha : 61 ∉ a) (t : Tok) (hsz : decide ((S (a ++ 61 :: b)).length + 2 ≤ sizeLine) = true) {R : Result → Shared → Prop}
    (hR : ∀ p d t1 t2 h' tk, PairAt s.heap h' p d (S (stripL sp a)) (S (stripL sp b)) t1 t2 → R (.ok (.ret (.ref p))) { s with heap := h', toks := tk }) : codeAny (model PG w) A (.call (.ref 149) ⟨[.ref 155, .str (S (a ++ 61 :: b)) t], []⟩) R s := by
  generalize hX : S (a ++ 61 :: b) = X at hsz
  refine enter KX rfl rfl T.nolimit (Nat.lt_of_le_of_lt hd (by decide)) (BindsTo.of_eq (binds := [(Str.ofString "cls", .ref 155), (Str.ofString "text", .str X t)]) rfl) rfl (by decide +kernel) fun L h₁ tk cells F N Y => ?_
  obtain rfl : cells = [] := cells_nil Y
  k_steps
  refine str_strip_attr F KX ?_
  k_steps
  refine split_map_star (A := A.deeper _) hh (by show A.depth + 1 ≤ 600; omega) (by show A.units + 3 ≤ 8000; omega) KX F N X t _ _ (of_decide_eq_true hsz) fun vs h' tk' hvs F' => ?_
  rw [← hX, split_some ha] at hvs
  cases hvs with
  | cons y1 t1 r =>
  cases r with
  | cons y2 t2 r =>
  cases r
  refine ⟨KX.keeps F'.keep, x_pair (A := A.deeper _) (s := ⟨h', s.gens, s.drawn, tk', s.os⟩) hh (by show A.depth + 1 ≤ 510; omega) (by show A.units + 3 ≤ 7010; omega) (KX.keeps F'.keep) (T.keeps F'.keep) _ _ _ _ fun p d r h'' tk'' nw W hp => ?_⟩
  subst hp
  refine hR p d t1 t2 _ _ ?_
  rw [strip_eq, strip_eq] at W
  exact (W.behind F'.keep).sub fun q hq => by
    rcases List.mem_cons.mp hq with rfl | hq
    · exact List.mem_cons_self
    · rcases List.mem_cons.mp hq with rfl | hq
      · exact List.mem_cons_of_mem _ List.mem_cons_self
      · cases hq
theorem law_parsed_some {w : World} {A : Around} {s : Shared} {mg mb : Str → Option Value} (hh : A.handled = none) (hd : A.depth ≤ 490) (hu : A.units ≤ 6900) (KX : (Mine.hd.heap_39 w.params).In s.heap) (T : TR mg mb s.heap) (a b : List Nat) (ha : 61 ∉ a) (t : Tok) (hsz : decide ((S (a ++ 61 :: b)).length + 2 ≤ sizeLine) = true) {R : Result → Shared → Prop}
    (hR : ∀ p d t1 t2 h' tk, PairAt s.heap h' p d (S (stripL sp a)) (S (stripL sp b)) t1 t2 → R (.ok (.ret (.ref p))) { s with heap := h', toks := tk }) : codeAny (model PG w) A (.call (.ref 180) ⟨[.str (S (a ++ 61 :: b)) t], []⟩) R s := by
  generalize hX : S (a ++ 61 :: b) = X at hsz
  refine enter KX rfl rfl T.nolimit (Nat.lt_of_le_of_lt hd (by decide)) (BindsTo.of_eq (binds := [(Str.ofString "text", .str X t)]) rfl) rfl (by decide +kernel) fun L h₁ tk cells F N Y => ?_
  obtain rfl : cells = [] := cells_nil Y
  refine wpAny_execs_cons (wpAny_Try_except ?_)
  k_steps
  rename_i q h₂ F₂ N₂ l₂
  have hq := (N₂ _ List.mem_cons_self).1
  refine wpAny_call (codeAny_of_tree ?_)
  show wpAny _ _ (callAny (.ref q) _) _ _ _
  simp only [callAny]
  refine wpAny_bind (wpAny_load hq ?_)
  dsimp only [methodObj]
  rw [if_pos (by decide)]
  try dsimp only
  refine wpAny_pure ⟨rfl, ?_⟩
  rw [← hX]
  refine parse_some (A := A.deeper _) hh (by show A.depth + 1 ≤ 500; omega) (by show A.units + 3 ≤ 7000; omega) (KX.keeps F₂.keep) (T.keeps F₂.keep) a b ha t (by rw [hX]; exact hsz) fun p d t1 t2 h₃ tk₃ W => ?_
  exact hR p d t1 t2 _ _ (W.behind F₂.keep)
end Mine
end

section
open PySem PySem.W PySem.W.X PySem.Calls PyProof.Rows
set_option maxRecDepth 100000
set_option maxHeartbeats 8000000
namespace Mine
theorem comp_ind {C : Nat → Nat → List Value → List (Addr × Obj) → Prop} (I : Nat → List Value → List (Addr × Obj) → Prop) (n : Nat) (zero : ∀ ys news, I n ys news → C 0 n ys news)
    (succ : ∀ k i ys news, k + 1 + i = n → I i ys news → (∀ ys' news', I (i + 1) ys' news' → C k (i + 1) ys' news') → C (k + 1) i ys news) {news : List (Addr × Obj)} (h : I 0 [] news) : C n 0 [] news := by
  have H : ∀ k i ys news, k + i = n → I i ys news → C k i ys news := by
    intro k
    induction k with
    | zero => intro i ys news e x; obtain rfl : i = n := by omega
              exact zero _ _ x
    | succ k ih => intro i ys news e x; exact succ k i ys news e x fun ys' news' x' => ih (i + 1) ys' news' (by omega) x'
  exact H n 0 [] news (by omega) h
theorem item_listNeg {prog : Program} {w : World} {A : Around} {E : Value → Shared → Prop} {s : Shared} {value slice : Expr} {l : Addr} {items : Array Value} {k : Int} {u : Tok} {x : Value} {Q : Value → Shared → Prop} (hl : s.heap.IsList l items)
    (h0 : k < 0) (h1 : -(items.size : Int) ≤ k) (hfit : -(2 ^ 63) ≤ k) (hx : items[(k + items.size).toNat]? = some x) (h : Q x s)
    (hs : subscripted slice false (.ref l) (.int k u) = operate [.ref l, .int k u] (getItem (.ref l) (.int k u)) := by with_unfolding_all rfl) (hg : ∀ r, letTemporaryGo value (.ref l) r = pure () := by intro _; with_unfolding_all rfl) :
    wpAny (model prog w) A (subscriptTail value slice (.ref l) (.int k u)) Q E s :=
  subscriptTail_builtin hl.typeIs slot_list_getitem.lookup (wpAny_getItem_list_neg hl h0 h1 hfit hx h) hs hg
local macro_rules | `(tactic| walk_at "subscriptTail Name Name ref int") => `(tactic| refine Hold.h ?_)
local macro_rules | `(tactic| walk_at "CompRestT") => `(tactic| refine Hold.h ?_)
theorem bare_test {w : World} {A : Around} {s : Shared} {mg mb : Str → Option Value} (hh : A.handled = none) (hd : A.depth ≤ 490) (hu : A.units ≤ 6900) (KX : (Mine.hd.heap_39 w.params).In s.heap) (T : TR mg mb s.heap) (l : Addr) (its : Array Value) (hl : s.heap.IsList l its) (cs : List Nat) (hrow : RowOf its cs) (hz : its.size ≤ sizeLine) (hz' : decide (cs.length ≤ 1000) = true) (B : Str) (tb : Tok) {R : Result → Shared → Prop}
    (hR : ∀ t h' tk, s.heap.StaysIn h' → R (.ok (.ret (.str (S (stripL B.cps.toList.contains cs)) t))) { s with heap := h', toks := tk }) : codeAny (model PG w) A (.call (.ref 173) ⟨[.ref l, .str B tb], []⟩) R s := by
  refine enter KX rfl rfl T.nolimit (Nat.lt_of_le_of_lt hd (by decide)) (BindsTo.of_eq (binds := [(Str.ofString "signs", .ref l), (Str.ofString "blanks", .str B tb)]) rfl) rfl (by decide +kernel) fun L h₁ tk cells F N Y => ?_
  obtain ⟨o1, o2, hcs, d1, d2⟩ := CellsAre.two Y
  subst hcs
  replace d1 : o1.data = .cell (some (.str B tb)) := d1
  replace d2 : o2.data = .cell (some (.ref l)) := d2
  clear Y
  refine wpAny_execs_cons ?_
  refine LCt.Assign_ListComp_T (F₀ := F) (by rfl) (by with_unfolding_all rfl) (by with_unfolding_all rfl) (by decide) (by rfl) (by decide) (by rfl) (by rfl) (by rfl) ?_
  k_steps
  have hl₁ : h₁.IsList l its := by obtain ⟨o, e, r⟩ := hl; exact ⟨o, F.keep _ _ e, r⟩
  refine len_list (s := ⟨h₁, s.gens, s.drawn, tk, s.os⟩) hl₁ (by have : sizeLine < 2 ^ 63 := by decide
                                                                 omega) ?_
  k_steps
  rename_i h₂ tk₂ t₂ u₂ v₂ hr F₂ N₂ k₂
  refine LCt.CompSrcT.range (n := its.size) hh F₂ N₂ hr ?_ ?_ hz fun g => ?_
  · exact small_n _ hz
  · rw [rangeSize_nat]; omega
  refine comp_ind (fun i ys news => news = [(L + 1 + 1, o1), (L + 1, o2)] ∧ IntsAre ys (((List.range i).filter fun j => !(B.cps.toList.contains (cs.getD j 0))).map fun (j : Nat) => (j : Int))) its.size (fun ys news x => ?_) (fun k i ys news e x ih => ?_) ⟨rfl, .nil⟩
  · obtain ⟨rfl, hi⟩ := x
    refine LCt.CompRestT.zero ?_
    intro D h tk F N off
    try dsimp only
    k_steps
    · rename_i l' h' F' N' l1 hemp
      have hp : places B.cps.toList.contains cs = [] := by
        unfold places
        rw [← hrow.size]
        simpa using hemp
      have := hR tk h' (tk + 1) F'.keep
      rw [bare_none hp] at this
      exact this
    · rename_i l' h' F' N' l1 hne t0
      have hne' : ((List.range its.size).filter fun j => !(B.cps.toList.contains (cs.getD j 0))) ≠ [] := fun q => by rw [q] at hne; simp at hne
      generalize hjs : ((List.range its.size).filter fun j => !(B.cps.toList.contains (cs.getD j 0))) = js at *
      have hlen : ys.length = js.length := by rw [hi.length, List.length_map]
      have hpos : 0 < js.length := List.length_pos_iff.mpr hne'
      have hj := hi.get (js.length - 1) ((js.getLast hne' : Nat) : Int) (by rw [List.getElem?_map, ← List.getLast?_eq_getElem?, List.getLast?_eq_some_getLast hne']; rfl)
      obtain ⟨tl, hj⟩ := hj
      have hjle : js.length ≤ its.size := by rw [← hjs]; exact Nat.le_trans (List.length_filter_le _ _) (by simp)
      refine item_listNeg (s := ⟨h', s.gens, s.drawn, _, s.os⟩) (x := .int ((js.getLast hne' : Nat) : Int) tl) (News.isList N' (.tail _ (.head _))) (by decide) (by simp; omega) (by decide) (by simp [hlen]; rw [← hj]; congr 1; omega) ?_
      k_steps
      · rename_i hS _ _ _
        exact absurd hS (by
          cases js with
          | nil => exact absurd rfl hne'
          | cons j r => simp)
      · rename_i hS h₃ F₃ N₃
        dsimp only at N₃ F₃
        have hp : places B.cps.toList.contains cs = js := by
          unfold places
          rw [← hrow.size]
          exact hjs
        have hp' : places B.cps.toList.contains cs ≠ [] := by rw [hp]; exact hne'
        obtain ⟨b1, b2, b3⟩ := bare_some hp'
        have e0 : (js.map fun (j : Nat) => (j : Int)).getD (Int.toNat 0) 0 = ((js.head hne' : Nat) : Int) := by
          cases js with
          | nil => exact absurd rfl hne'
          | cons j r => rfl
        have hh0 : (places B.cps.toList.contains cs).head hp' = js.head hne' := by simp only [hp]
        have hl0 : (places B.cps.toList.contains cs).getLast hp' = js.getLast hne' := by simp only [hp]
        rw [hh0, hl0] at b1 b2
        rw [hl0] at b3
        rw [e0, show ((js.getLast hne' : Nat) : Int) + 1 = ((js.getLast hne' + 1 : Nat) : Int) by omega, slicePick_run its _ _ (by rw [hrow.size]; omega) (by omega)] at N₃
        have hcut := RowOf.cut hrow (js.head hne') (js.getLast hne' + 1 - js.head hne')
        rw [b1] at hcut
        refine join_list (s := ⟨h₃, s.gens, s.drawn, _, s.os⟩) (News.isList N₃ (.head _)) hcut (row_fits _ ?_) fun t k => ?_
        · rw [← b1]
          have := of_decide_eq_true hz'
          simp only [List.length_take, List.length_drop]
          omega
        · rw [join_row]
          exact hR t _ _ F₃.keep
  · obtain ⟨rfl, hi⟩ := x
    refine LCt.CompRestT.succ ?_
    intro v I oI C oC D m₂ h tk E' hP hC hx F N off ne
    obtain ⟨tv, rfl⟩ := hP
    simp only [LCg.Off3, and_true] at off
    obtain ⟨⟨_, _, _⟩, _, _, _⟩ := off
    k_steps
    have hlh : h.IsList l its := by obtain ⟨o, e, r⟩ := hl; exact ⟨o, F.keep _ _ e, r⟩
    have hi' : i < cs.length := by rw [← hrow.size]; omega
    obtain ⟨t, ht⟩ := hrow.get (i := i) (c := cs[i]) (by simp [hi'])
    refine Hold.mk ?_
    refine item_list hlh (by omega) (by have : sizeLine < 2 ^ 63 := by decide
                                        omega) (x := .str ⟨#[cs[i]]⟩ t) (by rw [← ht]; congr 1; omega) ?_
    k_steps
    · rename_i hno
      refine Hold.mk (ih _ _ ⟨rfl, ?_⟩)
      have hq : (!(B.cps.toList.contains (cs.getD i 0))) = true := by
        have hd' : cs.getD i 0 = cs[i] := by simp [List.getD, hi']
        have := StrLaws.found_one B cs[i]
        rw [hno] at this
        rw [hd', Bool.not_eq_true']
        simpa using this
      rw [List.range_succ, List.filter_append, List.map_append, List.filter_cons_of_pos (by exact hq)]
      rw [show (0 : Int) + (i : Int) = (i : Int) by omega]
      exact hi.append (.cons _ _ .nil)
    · rename_i hyes
      refine Hold.mk (ih _ _ ⟨rfl, ?_⟩)
      have hq : ¬ ((!(B.cps.toList.contains (cs.getD i 0))) = true) := by
        have hd' : cs.getD i 0 = cs[i] := by simp [List.getD, hi']
        have := StrLaws.found_one B cs[i]
        rw [hyes] at this
        rw [hd']
        simpa using this
      rw [List.range_succ, List.filter_append, List.map_append, List.filter_cons_of_neg (by exact hq)]
      simpa using hi
end Mine
end

section
open PySem PySem.W PySem.W.X PySem.Calls PyProof.Rows
set_option maxRecDepth 100000
set_option maxHeartbeats 8000000
namespace Mine
theorem pair_item {w : World} {A : Around} {s : Shared} {E : Value → Shared → Prop} {Q : Value → Shared → Prop} (KX : (Mine.hd.heap_39 w.params).In s.heap) {p d : Addr} {n v : Str} {t1 t2 t : Tok} (hp : s.heap.get? p = some { cls := .ref 155, dict := some d, data := .seq #[.str n t1, .str v t2] })
    (i : Nat) {x : Value} (hi : #[Value.str n t1, Value.str v t2][i]? = some x) (h : Q x s) : wpAny (model PG w) A (call (.builtin "tuple.__getitem__") [.ref p, .int (i : Int) t]) Q E s := by
  have hi2 : i < 2 := by
    rcases Nat.lt_or_ge i 2 with h | h
    · exact h
    · rw [Array.getElem?_eq_none (by simpa using h)] at hi; cases hi
  have hinst : Looks (model PG w) s.heap (isInstance (.ref p) (.type "tuple")) true := by
    have ht : Looks (model PG w) s.heap (typeOf (.ref p)) (.ref 155) := (Looks.ld hp).andThen .now
    exact ht.andThen (looks_subIn KX (by rfl))
  refine wpAny_call (codeAny_call_builtin slot_tuple_getitem.plain entry_tuple_getitem ?_)
  have hk : builtinKind "tuple.__getitem__" = some .slot := by decide +kernel
  have hs : splitId "tuple.__getitem__" = some ("tuple", "__getitem__") := by decide +kernel
  refine @check_slot (model PG w) _ _ s "tuple.__getitem__" "tuple" "__getitem__" (.ref p) [.int (i : Int) t] [] _ hk hs hinst (args_tuple_getitem _ _) ?_
  show wpAny _ _ (Builtin.Tuple.tupleItemsOf (.ref p) >>= _) _ _ s
  unfold Builtin.Tuple.tupleItemsOf
  refine wpAny_bind (wpAny_bind (wpAny_seqItems hp rfl (wpAny_pure ?_)))
  refine wpAny_bind (wpAny_typeOf (typeIs_int s (i : Int) t) ?_)
  rw [if_neg (by decide)]
  refine wpAny_bind (wpAny_specialOf (T := "int") (typeIs_int s (i : Int) t) int_index ?_)
  rw [if_neg (by simp)]
  refine wpAny_bind (wpAny_of_eq (a := (i : Int)) rfl ?_)
  rw [if_neg (by simp only [Bool.or_eq_true, decide_eq_true_eq]; omega)]
  have hj : seqIndex? (i : Int) #[Value.str n t1, Value.str v t2].size = some i := by
    unfold seqIndex?
    have e2 : #[Value.str n t1, Value.str v t2].size = 2 := rfl
    rw [e2]
    simp
    omega
  simp only [hj, Option.bind_some, hi]
  exact wpAny_pure h
end Mine
end

section
open PySem PySem.W PySem.W.X PySem.Calls PyProof.Rows
set_option maxRecDepth 100000
set_option maxHeartbeats 8000000
namespace Mine
theorem tuple_item_attr {prog : Program} {w : World} {A : Around} {s : Shared} {h₀ : Heap} {L : Addr} {m : Str → Option Value} {E : Value → Shared → Prop} {Q : Value × List Value → Shared → Prop} {pl : Sem Bool} (F : Fr h₀ L s.heap m) (X₀ : (Mine.hd.heap_39 w.params).In h₀)
    (h : Q (.builtin "tuple.__getitem__", []) { s with toks := s.toks + 1 }) : wpAny (model prog w) A (getMethod (.type "tuple") (Str.ofString "__getitem__") pl) Q E s := by
  have e : findCls (Mine.hd.heap_39 w.params) (.type "tuple") (.type "type") (Str.ofString "__getitem__") = some (.val (.builtin "tuple.__getitem__")) := by k_is
  have e1 : typeOf (.type "tuple") = pure (.type "type") := kitMeta_of (by decide +kernel)
  have e2 : Manifest.isStub "tuple" = false := by decide +kernel
  have e3 : handedIn (.builtin "tuple.__getitem__") = true := by decide +kernel
  have z := @method_type prog w A E s (Mine.hd.heap_39 w.params) L h₀ m (Str.ofString "__getitem__") (.builtin "tuple.__getitem__") "tuple" pl Q F X₀ e1 e2 e e3 h
  exact z
theorem get0 {w : World} {A : Around} {s : Shared} {mg mb : Str → Option Value} (hh : A.handled = none) (hdep : A.depth ≤ 500) (hu : A.units ≤ 7000) (KX : (Mine.hd.heap_39 w.params).In s.heap) (T : TR mg mb s.heap) {p d : Addr} {n v : Str} {t1 t2 : Tok} (hp : s.heap.get? p = some { cls := .ref 155, dict := some d, data := .seq #[.str n t1, .str v t2] }) {R : Result → Shared → Prop}
    (hR : ∀ h' tk, s.heap.StaysIn h' → R (.ok (.ret (.str n t1))) { s with heap := h', toks := tk }) : codeAny (model PG w) A (.call (.ref 43) ⟨[.ref 124, .ref p, .ref 155], []⟩) R s := by
  refine enter KX rfl rfl T.nolimit (Nat.lt_of_le_of_lt hdep (by decide)) (binds_K (binds := [(Str.ofString "self", .ref 124), (Str.ofString "obj", .ref p), (Str.ofString "objtype", .ref 155)]) KX rfl (by k_is) rfl rfl (by kernel_rfl)) rfl (by decide +kernel) fun L h₁ tk cells F N Y => ?_
  obtain rfl : cells = [] := cells_nil Y
  clear Y
  k_steps
  rename Fr _ _ _ _ => FA
  refine (x_type (s := ⟨h₁, s.gens, s.drawn, tk, s.os⟩) (KX.keeps FA.keep) (FA.keep _ _ hp)).weaken (A := A.deeper _) hh (by show A.depth + 1 ≤ 600; omega) (by show A.units + 3 ≤ 8000; omega) _ _ fun x h₂ tk₂ nw W hx => ?_
  subst hx
  have F₂ := W.fr FA
  have N₂ : News s.heap L h₂ [] := .nil
  clear FA N
  k_steps
  rename Fr _ _ _ _ => FB
  refine (x_issub (s := ⟨h₂, s.gens, s.drawn, _, s.os⟩) (KX.keeps FB.keep)).weaken (A := A.deeper _) hh (by show A.depth + 1 ≤ 600; omega) (by show A.units + 3 ≤ 8000; omega) _ _ fun x h₃ tk₃ nw W₃ hx => ?_
  subst hx
  have F₃ := W₃.fr FB
  have N₃ : News s.heap L h₃ [] := .nil
  clear FB N₂
  k_steps
  rename Fr _ _ _ _ => FC
  refine tuple_item_attr FC KX ?_
  k_steps
  refine pair_item (s := ⟨h₃, s.gens, s.drawn, _, s.os⟩) (KX.keeps FC.keep) (FC.keep _ _ hp) 0 (x := .str n t1) (by rfl) ?_
  exact hR _ _ FC.keep
theorem get1 {w : World} {A : Around} {s : Shared} {mg mb : Str → Option Value} (hh : A.handled = none) (hdep : A.depth ≤ 500) (hu : A.units ≤ 7000) (KX : (Mine.hd.heap_39 w.params).In s.heap) (T : TR mg mb s.heap) {p d : Addr} {n v : Str} {t1 t2 : Tok} (hp : s.heap.get? p = some { cls := .ref 155, dict := some d, data := .seq #[.str n t1, .str v t2] }) {R : Result → Shared → Prop}
    (hR : ∀ h' tk, s.heap.StaysIn h' → R (.ok (.ret (.str v t2))) { s with heap := h', toks := tk }) : codeAny (model PG w) A (.call (.ref 43) ⟨[.ref 127, .ref p, .ref 155], []⟩) R s := by
  refine enter KX rfl rfl T.nolimit (Nat.lt_of_le_of_lt hdep (by decide)) (binds_K (binds := [(Str.ofString "self", .ref 127), (Str.ofString "obj", .ref p), (Str.ofString "objtype", .ref 155)]) KX rfl (by k_is) rfl rfl (by kernel_rfl)) rfl (by decide +kernel) fun L h₁ tk cells F N Y => ?_
  obtain rfl : cells = [] := cells_nil Y
  clear Y
  k_steps
  rename Fr _ _ _ _ => FA
  refine (x_type (s := ⟨h₁, s.gens, s.drawn, tk, s.os⟩) (KX.keeps FA.keep) (FA.keep _ _ hp)).weaken (A := A.deeper _) hh (by show A.depth + 1 ≤ 600; omega) (by show A.units + 3 ≤ 8000; omega) _ _ fun x h₂ tk₂ nw W hx => ?_
  subst hx
  have F₂ := W.fr FA
  have N₂ : News s.heap L h₂ [] := .nil
  clear FA N
  k_steps
  rename Fr _ _ _ _ => FB
  refine (x_issub (s := ⟨h₂, s.gens, s.drawn, _, s.os⟩) (KX.keeps FB.keep)).weaken (A := A.deeper _) hh (by show A.depth + 1 ≤ 600; omega) (by show A.units + 3 ≤ 8000; omega) _ _ fun x h₃ tk₃ nw W₃ hx => ?_
  subst hx
  have F₃ := W₃.fr FB
  have N₃ : News s.heap L h₃ [] := .nil
  clear FB N₂
  k_steps
  rename Fr _ _ _ _ => FC
  refine tuple_item_attr FC KX ?_
  k_steps
  refine pair_item (s := ⟨h₃, s.gens, s.drawn, _, s.os⟩) (KX.keeps FC.keep) (FC.keep _ _ hp) 1 (x := .str v t2) (by rfl) ?_
  exact hR _ _ FC.keep
end Mine
end

section
open PySem PySem.W PySem.W.X PySem.Calls PyProof.Rows
set_option maxRecDepth 100000
set_option maxHeartbeats 8000000
namespace Mine
theorem lbeq : ∀ l : List Nat, List.beq l l = true
  | [] => rfl
  | a :: l => by
    show ((a == a) && List.beq l l) = true
    rw [lbeq l]; simp
theorem ne_pair {w : World} {A : Around} {s : Shared} {E : Value → Shared → Prop} {Q : Value → Shared → Prop} (hh : A.handled = none) (hd : A.depth ≤ 500) (hu : A.units ≤ 7000) (KX : (Mine.hd.heap_39 w.params).In s.heap) {p d q : Addr} {n v : Str} {t1 t2 t3 t4 : Tok} (hp : s.heap.get? p = some { cls := .ref 155, dict := some d, data := .seq #[.str n t1, .str v t2] }) (hq : s.heap.get? q = some { cls := .type "tuple", data := .seq #[.str n t3, .str v t4] })
    (h : ∀ h' tk, s.heap.StaysIn h' → Q (.bool false) { s with heap := h', toks := tk }) : wpAny (model PG w) A (compareOp .NotEq (.ref p) (.ref q)) Q E s := by
  have ht : Looks (model PG w) s.heap (typeOf (.ref p)) (.ref 155) := (Looks.ld hp).andThen .now
  have htq : Looks (model PG w) s.heap (typeOf (.ref q)) (.type "tuple") := (Looks.ld hq).andThen .now
  have hsub : Looks (model PG w) s.heap (isSubtype (.type "tuple") (.ref 155)) false := looks_subIn KX (by rfl)
  show wpAny _ _ (richCompare .NotEq (.ref p) (.ref q)) _ _ _
  unfold richCompare
  refine wpAny_holding ?_
  have hlim : A.units < cLine := by rw [cLine_is]; omega
  refine wpAny_bind (wpAny_cRoomFor hlim ?_)
  rw [show oneThing? .NotEq (.ref p) (.ref q) = none from rfl]
  dsimp only [cmpInfo]
  refine wpAny_bind (ht.here ?_)
  refine wpAny_bind (htq.here ?_)
  rw [if_pos (by decide)]
  refine wpAny_bind (hsub.here ?_)
  simp only [Bool.false_eq_true, if_false, Bool.not_false, if_true]
  have hip : Looks (model PG w) s.heap (isInstance (.ref p) (.type "tuple")) true := ht.andThen (looks_subIn KX (by rfl))
  have hiq : Looks (model PG w) s.heap (isInstance (.ref q) (.type "tuple")) true := htq.andThen (looks_subIn KX (by rfl))
  have hsp : Looks (model PG w) s.heap (specialOf (.ref p) (Str.ofString "__ne__")) (some (.builtin "tuple.__ne__")) := ht.andThen (looks_findIn KX (by rfl))
  have hne : wpAny (model PG w) A (callSpecialIfBound? (.ref p) (Str.ofString "__ne__") [.ref q]) (fun v s' => v = some (.bool false) ∧ Q (.bool false) s') E s := by
    simp only [callSpecialIfBound?, bindSpecialIfBound?]
    refine wpAny_holding (wpAny_bind (wpAny_bind (hsp.here ?_)))
    have hb := PySem.F.slot_tuple_ne.bind (.ref p)
    simp only [hb]
    refine wpAny_bind (wpAny_askSetting (wpAny_ite ?_))
    have fin : wpAny (model PG w) A (call (.builtin "tuple.__ne__") ([.ref p] ++ [.ref q]) >>= fun v => pure (some v)) (fun v s' => v = some (.bool false) ∧ Q (.bool false) s') E s := by
      refine wpAny_bind (wpAny_call (codeAny_call_builtin PySem.F.slot_tuple_ne.plain PySem.F.entry_tuple_ne (check_slot (owner := "tuple") (n := "__ne__") (by decide +kernel) (by decide +kernel) hip (PySem.F.args_tuple_ne_2 _ _) ?_)))
      show wpAny _ _ (isInstance (.ref q) (.type "tuple") >>= _) _ _ s
      refine wpAny_bind (hiq.here ?_)
      simp only [Bool.not_true, Bool.false_eq_true, if_false]
      unfold Builtin.Tuple.tupleItemsOf
      refine wpAny_bind (wpAny_bind (wpAny_seqItems hp rfl (wpAny_pure (wpAny_bind (wpAny_bind (wpAny_seqItems hq rfl (wpAny_pure ?_)))))))
      simp only [List.zip_cons_cons, List.zip_nil_right, List.forIn_cons, List.forIn_nil]
      refine wpAny_bind (wpAny_bind (wpAny_bind (eqBool_str ?_)))
      simp only [beq_self_eq_true, Bool.not_true, Bool.false_eq_true, if_false]
      refine wpAny_pure ?_
      dsimp only
      refine wpAny_bind (wpAny_bind (eqBool_str ?_))
      simp only [beq_self_eq_true, Bool.not_true, Bool.false_eq_true, if_false]
      refine wpAny_pure ?_
      dsimp only
      refine wpAny_pure ?_
      dsimp only
      exact wpAny_pure (wpAny_pure ⟨rfl, h s.heap s.toks fun _ _ e => e⟩)
    split
    · exact wpAny_bind (wpAny_pure (wpAny_pure fin))
    · exact wpAny_tryCatch (wpAny_bind (wpAny_pure (wpAny_pure fin)))
  unfold tryCompare
  refine wpAny_bind (wpAny_bind (wpAny_mono hne (fun v s' hv => ?_) fun _ _ e => e))
  obtain ⟨rfl, hQ⟩ := hv
  exact wpAny_pure (wpAny_pure hQ)
end Mine
end

section
open PySem PySem.W PySem.W.X PySem.Calls PyProof.Rows Builtin Builtin.ObjectAttr
set_option maxRecDepth 100000
set_option maxHeartbeats 8000000
namespace Mine
theorem entry_tga : entryFor table "tuple.__getattribute__" = some Builtin.«object.__getattribute__» :=
  entryFor_alias (id' := "object.__getattribute__") (by kernel_rfl) rfl (by decide +kernel) (by kernel_rfl)
theorem pair_attr {w : World} {A : Around} {s : Shared} {E : Value → Shared → Prop} {Q : Value → Shared → Prop} (name : Str) (a : Addr) {x : Value} (KX : (Mine.hd.heap_39 w.params).In s.heap) {p d : Addr} {its : Array Value} {k : Nat} (hp : s.heap.get? p = some { cls := .ref 155, dict := some d, data := .seq its k }) (hd : s.heap.get? d = some { cls := .type "dict", data := .dict #[] })
    (ha : findIn (Mine.hd.heap_39 w.params) (.ref 155) name = some (some (.ref a))) (hn : specialIn (Mine.hd.heap_39 w.params) (.ref a) "__get__" = some (some (.ref 43))) (ht : takesIn (Mine.hd.heap_39 w.params) (.ref a) = some true) (hx : handedIn x = true)
    (h : codeAny (model PG w) A.in1 (.call (.ref 43) ⟨[.ref a, .ref p, .ref 155], []⟩) (fun r s' => match r with | .ok (.ret v) => v = x ∧ Q x s' | _ => False) { s with toks := s.toks + 1 }) : wpAny (model PG w) A (getAttr (.ref p) name true) Q E s := by
  have I : InstAt s.heap p { cls := .ref 155, dict := some d, data := .seq its k } 155 (some { cls := .type "dict", data := .dict #[] }) := ⟨hp, rfl, by rfl, hd⟩
  have hc : isClsIn (Mine.hd.heap_39 w.params) 155 = true := by k_is
  have hga : findIn (Mine.hd.heap_39 w.params) (.ref 155) "__getattribute__" = some (some (.builtin "tuple.__getattribute__")) := by k_is
  have hgn : findIn (Mine.hd.heap_39 w.params) (.ref 155) "__getattr__" = some none := by k_is
  have hinst : Looks (model PG w) s.heap (isInstance (.ref p) (.type "tuple")) true := I.type.andThen (looks_subIn KX (by rfl))
  have hf : findObj (Mine.hd.heap_39 w.params) 155 (some { cls := .type "dict", data := .dict #[] }) name = some (.bind (.ref 43) (.ref a)) := findObj_data hc ha hn ht
  obtain ⟨hh, g, dr, t, os⟩ := s
  have L0 := I.type (M := model PG w)
  have L1 := looks_findIn (M := model PG w) KX hga
  have L2 := looks_findIn (M := model PG w) KX hgn
  have L3 := looks_find (M := model PG w) KX I hf
  unfold getAttr getAttrBy
  refine wpAny_bind (wpAny_mkText (wpAny_holding (wpAny_bind (L0.at (wpAny_bind (L1.at ?_))))))
  dsimp only
  rw [show (onTheHeap (.ref 155) && Value.builtin "tuple.__getattribute__" == Value.builtin "object.__getattribute__") = false from by rw [show (Value.builtin "tuple.__getattribute__" == Value.builtin "object.__getattribute__") = false from by decide +kernel, Bool.and_false], if_neg (by decide)]
  unfold getAttrByItsOwn
  have hb : Looks (model PG w) hh (hookBefore (.ref 155)) none := by
    unfold hookBefore
    rw [if_pos (by rfl)]
    exact L2
  refine wpAny_bind (hb.at (wpAny_bind (wpAny_attempt (wpAny_holding ?_))))
  unfold callGetattribute
  rw [show (true && onTheHeap (Value.builtin "tuple.__getattribute__")) = false from rfl, if_neg (by decide)]
  unfold boundAndCalled
  rw [PySem.F.slot_tuple_getattribute.bind]
  refine wpAny_bind (wpAny_pure ?_)
  show wpAny _ _ (call (.builtin "tuple.__getattribute__") [.ref p, .str name t]) _ _ _
  refine wpAny_call (codeAny_call_builtin PySem.F.slot_tuple_getattribute.plain entry_tga (@check_slot (model PG w) _ _ ⟨hh, g, dr, t + 1, os⟩ "tuple.__getattribute__" "tuple" "__getattribute__" (.ref p) [.str name t] [] _ (by decide +kernel) (by decide +kernel) hinst (PySem.F.args_tuple_getattribute_2 _ _) ?_))
  unfold Builtin.«object.__getattribute__»
  refine wpAny_bind (wpAny_of_eq (a := (.ref p, [.str name t])) (by rfl) ?_)
  dsimp only
  refine wpAny_bind (wpAny_of_eq (a := name) (by rfl) ?_)
  refine wpAny_bind (L0.at (wpAny_bind (L3.at ?_)))
  show wpAny _ _ (holding [.ref a] (call (.ref 43) [.ref a, .ref p, .ref 155]) >>= ret) _ _ _
  refine wpAny_bind (wpAny_holding (wpAny_call (codeAny_mono h fun r s' z => ?_)))
  rcases r with e | (v | _ | _ | _) <;> first | exact z.elim | skip
  obtain ⟨rfl, z⟩ := z
  refine wpAny_pure ?_
  show wpAny _ _ (handedOut _) _ _ _
  rw [handedOut_of hx]
  exact wpAny_pure z
theorem pair_name {w : World} {A : Around} {s : Shared} {mg mb : Str → Option Value} {E : Value → Shared → Prop} {Q : Value → Shared → Prop} (hh : A.handled = none) (hdep : A.depth ≤ 490) (hu : A.units ≤ 6900) (KX : (Mine.hd.heap_39 w.params).In s.heap) (T : TR mg mb s.heap) {p d : Addr} {n v : Str} {t1 t2 : Tok} (hp : s.heap.get? p = some { cls := .ref 155, dict := some d, data := .seq #[.str n t1, .str v t2] }) (hd : s.heap.get? d = some { cls := .type "dict", data := .dict #[] })
    (h : ∀ h' tk, s.heap.StaysIn h' → Q (.str n t1) { s with heap := h', toks := tk }) : wpAny (model PG w) A (getAttr (.ref p) (Str.ofString "name") true) Q E s :=
  pair_attr (Str.ofString "name") 124 (x := .str n t1) KX hp hd (by k_is) (by k_is) (by k_is) (by rfl)
    (get0 (A := A.in1) (s := ⟨s.heap, s.gens, s.drawn, s.toks + 1, s.os⟩) hh (by show A.depth ≤ 500; omega) (by show A.units + 1 ≤ 7000; omega) KX T hp fun h' tk st => ⟨rfl, h _ _ st⟩)
theorem pair_value {w : World} {A : Around} {s : Shared} {mg mb : Str → Option Value} {E : Value → Shared → Prop} {Q : Value → Shared → Prop} (hh : A.handled = none) (hdep : A.depth ≤ 490) (hu : A.units ≤ 6900) (KX : (Mine.hd.heap_39 w.params).In s.heap) (T : TR mg mb s.heap) {p d : Addr} {n v : Str} {t1 t2 : Tok} (hp : s.heap.get? p = some { cls := .ref 155, dict := some d, data := .seq #[.str n t1, .str v t2] }) (hd : s.heap.get? d = some { cls := .type "dict", data := .dict #[] })
    (h : ∀ h' tk, s.heap.StaysIn h' → Q (.str v t2) { s with heap := h', toks := tk }) : wpAny (model PG w) A (getAttr (.ref p) (Str.ofString "value") true) Q E s :=
  pair_attr (Str.ofString "value") 127 (x := .str v t2) KX hp hd (by k_is) (by k_is) (by k_is) (by rfl)
    (get1 (A := A.in1) (s := ⟨s.heap, s.gens, s.drawn, s.toks + 1, s.os⟩) hh (by show A.depth ≤ 500; omega) (by show A.units + 1 ≤ 7000; omega) KX T hp fun h' tk st => ⟨rfl, h _ _ st⟩)
end Mine
end

section
open PySem PySem.W PySem.W.X PySem.Calls PyProof.Rows PySem.SeqAt
set_option maxRecDepth 100000
set_option maxHeartbeats 8000000
namespace Mine
theorem rc_pairs {A : Around} {s : Shared} {P : Params} (hu : A.units < cLine) (KX : (Mine.hd.heap_39 P).In s.heap) {p d q d' : Addr} {n v : Str} {t1 t2 t3 t4 : Tok} (hp : s.heap.get? p = some { cls := .ref 155, dict := some d, data := .seq #[.str n t1, .str v t2] }) (hq : s.heap.get? q = some { cls := .ref 155, dict := some d', data := .seq #[.str n t3, .str v t4] }) :
    RcAt A s (.ref p) (.ref q) true := fun prog w E Q h => by
  have ht : Looks (model prog w) s.heap (typeOf (.ref p)) (.ref 155) := (Looks.ld hp).andThen .now
  have htq : Looks (model prog w) s.heap (typeOf (.ref q)) (.ref 155) := (Looks.ld hq).andThen .now
  have hsp : Looks (model prog w) s.heap (specialOf (.ref p) (Str.ofString "__eq__")) (some (.builtin "tuple.__eq__")) := ht.andThen (looks_findIn KX (by rfl))
  have hip : Looks (model prog w) s.heap (isInstance (.ref p) (.type "tuple")) true := ht.andThen (looks_subIn KX (by rfl))
  have hiq : Looks (model prog w) s.heap (isInstance (.ref q) (.type "tuple")) true := htq.andThen (looks_subIn KX (by rfl))
  unfold richCompare
  refine wpAny_holding (wpAny_bind (wpAny_cRoomFor hu ?_))
  rw [show oneThing? .Eq (.ref p) (.ref q) = none from rfl]
  dsimp only [cmpInfo]
  refine wpAny_bind (ht.here (wpAny_bind (htq.here ?_)))
  rw [if_neg (by decide)]
  refine wpAny_bind (wpAny_pure ?_)
  simp only [Bool.false_eq_true, if_false, Bool.not_false, if_true]
  have hne : wpAny (model prog w) A (callSpecialIfBound? (.ref p) (Str.ofString "__eq__") [.ref q]) (fun v s' => v = some (.bool true) ∧ Q (.bool true) s') E s := by
    simp only [callSpecialIfBound?, bindSpecialIfBound?]
    refine wpAny_holding (wpAny_bind (wpAny_bind (hsp.here ?_)))
    have hb := PySem.F.slot_tuple_eq.bind (.ref p)
    simp only [hb]
    refine wpAny_bind (wpAny_askSetting (wpAny_ite ?_))
    have fin : wpAny (model prog w) A (call (.builtin "tuple.__eq__") ([.ref p] ++ [.ref q]) >>= fun v => pure (some v)) (fun v s' => v = some (.bool true) ∧ Q (.bool true) s') E s := by
      refine wpAny_bind (wpAny_call (codeAny_call_builtin PySem.F.slot_tuple_eq.plain PySem.F.entry_tuple_eq (check_slot (owner := "tuple") (n := "__eq__") (by decide +kernel) (by decide +kernel) hip (PySem.F.args_tuple_eq_2 _ _) ?_)))
      show wpAny _ _ (isInstance (.ref q) (.type "tuple") >>= _) _ _ s
      refine wpAny_bind (hiq.here ?_)
      simp only [Bool.not_true, Bool.false_eq_true, if_false]
      unfold Builtin.Tuple.tupleItemsOf
      refine wpAny_bind (wpAny_bind (wpAny_seqItems hp rfl (wpAny_pure (wpAny_bind (wpAny_bind (wpAny_seqItems hq rfl (wpAny_pure ?_)))))))
      simp only [List.zip_cons_cons, List.zip_nil_right, List.zip_nil_left, List.forIn_cons, List.forIn_nil]
      refine wpAny_bind (wpAny_bind (wpAny_bind (eqBool_str ?_)))
      simp only [beq_self_eq_true, Bool.not_true, Bool.false_eq_true, if_false]
      refine wpAny_pure ?_
      dsimp only
      refine wpAny_bind (wpAny_bind (eqBool_str ?_))
      simp only [beq_self_eq_true, Bool.not_true, Bool.false_eq_true, if_false]
      refine wpAny_pure ?_
      dsimp only
      refine wpAny_pure ?_
      dsimp only
      exact wpAny_pure (wpAny_pure ⟨rfl, h⟩)
    split
    · exact wpAny_bind (wpAny_pure (wpAny_pure fin))
    · exact wpAny_tryCatch (wpAny_bind (wpAny_pure (wpAny_pure fin)))
  unfold tryCompare
  refine wpAny_bind (wpAny_bind (wpAny_mono hne (fun v s' hv => ?_) fun _ _ e => e))
  obtain ⟨rfl, hQ⟩ := hv
  exact wpAny_pure (wpAny_pure hQ)
theorem eqAt_pairs {A : Around} {s : Shared} {P : Params} (hu : A.units < cLine) (KX : (Mine.hd.heap_39 P).In s.heap) {p d q d' : Addr} {n v : Str} {t1 t2 t3 t4 : Tok} (hp : s.heap.get? p = some { cls := .ref 155, dict := some d, data := .seq #[.str n t1, .str v t2] }) (hq : s.heap.get? q = some { cls := .ref 155, dict := some d', data := .seq #[.str n t3, .str v t4] }) :
    EqAt A s (.ref p) (.ref q) true := by
  by_cases e : p = q
  · subst e; exact EqAt.same _
  · exact EqAt.of_refs e (rc_pairs hu KX hp hq)
/-- [[Pair, p1], [Pair, p2]] == [[Pair, p], [Pair, p]] -/
theorem eq_again {w : World} {A : Around} {s : Shared} {E : Value → Shared → Prop} {Q : Value → Shared → Prop} {P : Params} (hu : A.units ≤ 7000) (KX : (Mine.hd.heap_39 P).In s.heap) {D D' a1 a2 b1 b2 p1 p2 p d1 d2 d : Addr} {n v : Str} {t1 t2 t3 t4 t5 t6 : Tok}
    (hD : s.heap.IsList D #[.ref a1, .ref a2]) (hE : s.heap.IsList D' #[.ref b1, .ref b2]) (ha1 : s.heap.IsList a1 #[.ref 155, .ref p1]) (ha2 : s.heap.IsList a2 #[.ref 155, .ref p2]) (hb1 : s.heap.IsList b1 #[.ref 155, .ref p]) (hb2 : s.heap.IsList b2 #[.ref 155, .ref p])
    (hp1 : s.heap.get? p1 = some { cls := .ref 155, dict := some d1, data := .seq #[.str n t1, .str v t2] }) (hp2 : s.heap.get? p2 = some { cls := .ref 155, dict := some d2, data := .seq #[.str n t3, .str v t4] })
    (hp : s.heap.get? p = some { cls := .ref 155, dict := some d, data := .seq #[.str n t5, .str v t6] }) (h : Q (.bool true) s) : wpAny (model PG w) A (compareOp .Eq (.ref D) (.ref D')) Q E s := by
  have hc : ∀ k : Nat, A.units + k ≤ 8000 → A.units + k < cLine := fun k hk => by rw [cLine_is]; omega
  have inner : ∀ {B : Around} {a b x : Addr} {dx : Addr} {u1 u2 : Tok}, B.units ≤ 7500 → s.heap.IsList a #[.ref 155, .ref x] → s.heap.IsList b #[.ref 155, .ref p] →
      s.heap.get? x = some { cls := .ref 155, dict := some dx, data := .seq #[.str n u1, .str v u2] } → EqAt B s (.ref a) (.ref b) true := by
    intro B a b x dx u1 u2 hB ha hb hx
    by_cases e : a = b
    · subst e; exact EqAt.same _
    · refine EqAt.of_refs e ?_
      have z := RcAt.lists (A := B) (e := fun _ => true) ha hb rfl (by rw [cLine_is]; omega) fun j h1 h2 => by
        match j, h1, h2 with
        | 0, _, _ => exact EqAt.same _
        | 1, _, _ => exact eqAt_pairs (by show B.units + 1 < cLine; rw [cLine_is]; omega) KX hx hp
        | j + 2, h1, _ => exact absurd h1 (by simp)
      exact z
  have z := eq_listAt (prog := PG) (w := w) (A := A) (E := E) (Q := Q) (e := fun _ => true) hD hE rfl (by rw [cLine_is]; omega) (fun j h1 h2 => by
    match j, h1, h2 with
    | 0, _, _ => exact inner (by show A.units + 1 ≤ 7500; omega) ha1 hb1 hp1
    | 1, _, _ => exact inner (by show A.units + 1 ≤ 7500; omega) ha2 hb2 hp2
    | j + 2, h1, _ => exact absurd h1 (by simp)) h
  exact z
end Mine
end

section
open PySem PySem.W PySem.W.X PySem.Calls PyProof.Rows
set_option maxRecDepth 100000
set_option maxHeartbeats 8000000
namespace Mine
theorem add_txt {prog : Program} {w : World} {A : Around} {E : Value → Shared → Prop} {s : Shared} {x y : Str} {t u : Tok} {a b : List Nat} {Q : Value → Shared → Prop} (hx : x = S a) (hy : y = S b) (hsz : a.length + b.length ≤ 16777216)
    (h : ∀ t' tk, Q (.str (S (a ++ b)) t') { s with toks := tk }) : wpAny (model prog w) A (binaryOp .Add (.str x t) (.str y u)) Q E s := by
  subst hx hy
  refine PyProof.Rows.add_str (fun t' tk => ?_) (by rw [str_length_S, str_length_S]; exact hsz)
  rw [S_append]
  exact h t' tk
local macro_rules | `(tactic| walk_at "binaryOp Add str str") => `(tactic| (k_here; (refine add_txt (by first | with_reducible exact S_eq | exact rfl) (by first | with_reducible exact S_eq | exact rfl) (by (try simp only [List.length_append, List.length_cons, List.length_nil]); omega) ?_); intro _ _))
local macro_rules | `(tactic| walk_at "eval ListComp") => `(tactic| (k_here; (refine LCg.ListComp_U (F₀ := by k_asm) (by rfl) (by decide) (by rfl) (by decide) (by rfl) ?_); lcg_toSrc))
local macro_rules | `(tactic| walk_at "CompSrc") => `(tactic| (k_here; (refine LCg.CompSrc.ledger (by first | rfl | assumption) (by k_asm) (by k_asm) (by k_mem) (by first | size_fits | exact Nat.le_of_ble_eq_true rfl) ?_); intro g'; lcg_lit))
local macro_rules | `(tactic| walk_at "eval Name") => `(tactic| (k_here; (with_reducible show wpAny _ _ (eval (Expr.Name _ _) (compEnvC _ _ _ _)) _ _ _); k_dflt (first
  | (refine LCgL.ld_own (by k_asm) (by k_mem) (by assumption) (by assumption) ?_)
  | (refine ldC_built (by k_asm) (by k_asm) (by k_asm) (by k_is) (by boot_by_name) (by decide) ?_))))
/-- a mark: the walk is at the last comparison -/
structure EqMark : Prop where
local macro_rules | `(tactic| walk_at "exec Assign cons ListComp") => `(tactic| refine Hold.h ?_)
local macro_rules | `(tactic| walk_at "subscriptTail Name Slice str ref") => `(tactic| refine Hold.h ?_)
local macro_rules | `(tactic| walk_at "subscriptTail Name Name ref int") => `(tactic| refine Hold.h ?_)
local macro_rules | `(tactic| walk_at "CompRestT") => `(tactic| refine Hold.h ?_)
local macro_rules | `(tactic| walk_at "compareOp Eq ref ref") => `(tactic| (k_here; (rename EqMark => tmk9); refine Hold.h ?_))
local macro_rules | `(tactic| walk_at "CompEnd") => `(tactic| (refine comp_end1 (by assumption) (by assumption) ?a1 ?a2 ?a3 ?a4 ?a5 ?_; (case a1 => (refine ltN ?_; (try dsimp only); omega)); (case a2 => (refine ltN ?_; (try dsimp only); omega)); (case a3 => (refine ltN ?_; (try dsimp only); omega)); (case a4 => (simp only [LCg.Off3, and_true]; assumption)); (case a5 => k_dflt lcg_src)))
theorem right_some {w : World} {A : Around} {s : Shared} {mg mb : Str → Option Value} (hh : A.handled = none) (hd : A.depth ≤ 480) (hu : A.units ≤ 6800) (KX : (Mine.hd.heap_39 w.params).In s.heap) (T : TR mg mb s.heap) (l : Addr) (its : Array Value) (hl : s.heap.IsList l its) (a b : List Nat) (ha : 61 ∉ a) (cs : List Nat) (hcs : a ++ 61 :: b = cs) (hrow : RowOf its cs) (hz' : decide (cs.length ≤ 100) = true) (B : Str) (tb : Tok) (hB : ∀ x ∈ B.cps.toList, sp x = true) (hBl : decide (B.length ≤ 100) = true) (hsa : stripL B.cps.toList.contains a = stripL sp a) (hsb : stripL B.cps.toList.contains b = stripL sp b) {R : Result → Shared → Prop}
    (hR : ∀ h' tk, s.heap.StaysIn h' → R (.ok (.ret (.bool true))) { s with heap := h', toks := tk }) : codeAny (model PG w) A (.call (.ref 185) ⟨[.ref l, .str B tb], []⟩) R s := by
  refine enter KX rfl rfl T.nolimit (Nat.lt_of_le_of_lt hd (by decide)) (BindsTo.of_eq (binds := [(Str.ofString "signs", .ref l), (Str.ofString "blanks", .str B tb)]) rfl) rfl (by decide +kernel) fun L h₁ tk cells F N Y => ?_
  obtain ⟨o1, hcs1, d1⟩ := CellsAre.one Y
  subst hcs1
  replace d1 : o1.data = .cell (some (.ref l)) := d1
  clear Y
  k_steps
  have hl₁ : h₁.IsList l its := by obtain ⟨o, e, r⟩ := hl; exact ⟨o, F.keep _ _ e, r⟩
  refine join_list (s := ⟨h₁, s.gens, s.drawn, _, s.os⟩) hl₁ hrow (row_fits _ (by have := of_decide_eq_true hz'; omega)) fun tj kj => ?_
  rw [join_row, ← hcs]
  k_steps
  have hlen : (S (a ++ 61 :: b)).length + 2 ≤ sizeLine := by
    have h1 := of_decide_eq_true hz'
    have h2 : (S (a ++ 61 :: b)).length = cs.length := by rw [hcs]; exact str_length_S cs
    rw [h2]
    have : sizeLine = 16777216 := rfl
    omega
  refine wpAny_call (law_parsed_some (A := A.deeper _) (s := ⟨h₁, s.gens, s.drawn, _, s.os⟩) hh (by show A.depth + 1 ≤ 490; omega) (by show A.units + 3 ≤ 6900; omega) (KX.keeps F.keep) (T.keeps F.keep) a b ha tj (decide_eq_true hlen) fun p d t1 t2 h₂ tk₂ W => ?_)
  have F₂ := Nw.fr W F
  have N₂ := Nw.news W F N
  simp only [List.cons_append, List.nil_append] at N₂
  clear F N
  try dsimp only
  k_steps
  rename_i h₃ F₃ N₃
  try refine wpAny_execs_cons ?_
  refine Hold.mk ?_
  refine LCt.Assign_ListComp_T (F₀ := F₃) (by rfl) (by with_unfolding_all rfl) (by with_unfolding_all rfl) (by decide) (by rfl) (by decide) (by rfl) (by rfl) (by rfl) ?_
  k_steps
  have hl₃ : h₃.IsList l its := by obtain ⟨o, e, r⟩ := hl; exact ⟨o, F₃.keep _ _ e, r⟩
  have hz : its.size ≤ 100 := by rw [hrow.size]; exact of_decide_eq_true hz'
  refine len_list (s := ⟨h₃, s.gens, s.drawn, _, s.os⟩) hl₃ (by omega) ?_
  k_steps
  rename_i h₄ tk₄ t₄ u₄ v₄ hr F₄ N₄ k₄
  refine LCt.CompSrcT.range (n := its.size) hh F₄ N₄ hr ?_ ?_ (Nat.le_trans hz (by decide)) fun g => ?_
  · exact small_n _ (Nat.le_trans hz (by decide))
  · rw [rangeSize_nat]; omega
  refine comp_ind (fun i ys news => news = [(p, ({ cls := .ref 155, dict := some d, data := .seq #[.str (S (stripL sp a)) t1, .str (S (stripL sp b)) t2] } : Obj)), (d, ({ cls := .type "dict", data := .dict #[] } : Obj)), (L + 1, o1)] ∧ IntsAre ys (((List.range i).filter fun j => cs.getD j 0 == 61).map fun (j : Nat) => (j : Int))) its.size (fun ys news x => ?_) (fun k i ys news e x ih => ?_) ⟨rfl, .nil⟩
  · obtain ⟨rfl, hi⟩ := x
    obtain ⟨jr, hjr⟩ := cuts_first (b := b) ha
    rw [hrow.size, ← hcs, hjr, List.map_cons] at hi
    refine LCt.CompRestT.zero ?_
    intro D h tk F N off
    try dsimp only
    k_steps
    · rename_i hE
      exact absurd hE (by simp)
    · rename_i hS _ _ _
      exact absurd hS (by simp)
    · rename_i l' h5 F5o N5o l1 hne t0 hsg h6 F6 N6
      dsimp only at N6
      rw [show ((a.length : Int) :: List.map (fun (j : Nat) => (j : Int)) jr).getD (Int.toNat 0) 0 = ((a.length : Nat) : Int) from rfl, slicePick_upto' its a.length] at N6
      have hca : RowOf (its.toList.take a.length).toArray a := by
        have := RowOf.cut hrow 0 a.length
        rw [← hcs] at this
        simpa using this
      have hcl : a.length ≤ 100 := by
        have := of_decide_eq_true hz'
        rw [← hcs] at this
        simp at this; omega
      refine wpAny_call (bare_test (A := A.deeper _) (s := ⟨h6, s.gens, s.drawn, _, s.os⟩) hh (by show A.depth + 1 ≤ 490; omega) (by show A.units + 3 ≤ 6900; omega) (KX.keeps F6.keep) (T.keeps F6.keep) _ _ (News.isList N6 (.head _)) a hca (by rw [hca.size]; exact Nat.le_trans hcl (by decide)) (decide_eq_true (by omega)) B tb fun t7 h7 tk7 st7 => ?_)
      try dsimp only
      have F7 := F6.keeps st7
      have N7 := N6.grown st7
      clear F6 N6 F5o N5o
      k_steps
      rename_i t8 h8 F8 N8
      try dsimp only at N8
      rw [show ((a.length : Int) :: List.map (fun (j : Nat) => (j : Int)) jr).getD (Int.toNat 0) 0 + 1 = ((a.length + 1 : Nat) : Int) from by simp, slicePick_from' its (a.length + 1)] at N8
      have hcb : RowOf (its.toList.drop (a.length + 1)).toArray b := by
        have h1 := RowOf.cut hrow (a.length + 1) (its.size)
        have e1 : (its.toList.drop (a.length + 1)).take its.size = its.toList.drop (a.length + 1) := List.take_of_length_le (by simp)
        have e2 : (cs.drop (a.length + 1)).take its.size = b := by
          rw [hrow.size, ← hcs]
          rw [show (a ++ 61 :: b).drop (a.length + 1) = b from by rw [← List.drop_drop, List.drop_left' rfl]; rfl]
          exact List.take_of_length_le (by simp; omega)
        rw [e1, e2] at h1
        exact h1
      have hcl2 : b.length ≤ 100 := by
        have := of_decide_eq_true hz'
        rw [← hcs] at this
        simp at this; omega
      refine wpAny_call (bare_test (A := A.deeper _) (s := ⟨h8, s.gens, s.drawn, _, s.os⟩) hh (by show A.depth + 1 ≤ 490; omega) (by show A.units + 3 ≤ 6900; omega) (KX.keeps F8.keep) (T.keeps F8.keep) _ _ (News.isList N8 (.head _)) b hcb (by rw [hcb.size]; exact Nat.le_trans hcl2 (by decide)) (decide_eq_true (by omega)) B tb fun t9 h9 tk9 st9 => ?_)
      try dsimp only
      have F9 := F8.keeps st9
      have N9 := N8.grown st9
      clear F8 N8 F7 N7
      rw [hsa, hsb]
      k_steps
      rename_i D10 h10 F10 N10 l10
      refine unpackItemsN_ F10 N10 (News.isTup N10 (.head _)) hh (by rfl) ?_
      intro h11 F11 N11
      clear F10 N10
      k_steps
      rename Fr _ _ _ _ => F12
      rename News _ _ _ _ => N12
      have hp12 := (N12 (p, ({ cls := .ref 155, dict := some d, data := .seq #[.str (S (stripL sp a)) t1, .str (S (stripL sp b)) t2] } : Obj)) (by simp)).1
      refine (x_type (s := ⟨_, s.gens, s.drawn, _, s.os⟩) (KX.keeps F12.keep) hp12).weaken (A := A.deeper _) hh (by show A.depth + 1 ≤ 600; omega) (by show A.units + 3 ≤ 8000; omega) _ _ fun x h13 tk13 nw13 W13 hx => ?_
      subst hx
      have F13 := F12.keeps W13.keep
      have N13 := N12.grown W13.keep
      clear F12 N12 hp12
      k_steps
      rename Fr _ _ _ _ => F14
      rename News _ _ _ _ => N14
      have hp14 := (N14 (p, ({ cls := .ref 155, dict := some d, data := .seq #[.str (S (stripL sp a)) t1, .str (S (stripL sp b)) t2] } : Obj)) (by simp)).1
      have hd14 := (N14 (d, ({ cls := .type "dict", data := .dict #[] } : Obj)) (by simp)).1
      have hq14 := (N14 _ (.head _)).1
      refine ne_pair (A := A.deeper _) (s := ⟨_, s.gens, s.drawn, _, s.os⟩) hh (by show A.depth + 1 ≤ 500; omega) (by show A.units + 3 ≤ 7000; omega) (KX.keeps F14.keep) hp14 hq14 fun h15 tk15 st15 => ?_
      have F15 := F14.keeps st15
      have N15 := N14.grown st15
      clear F14 N14 hp14 hd14 hq14
      k_steps
      rename Fr _ _ _ _ => F16
      rename News _ _ _ _ => N16
      have hp16 := (N16 (p, ({ cls := .ref 155, dict := some d, data := .seq #[.str (S (stripL sp a)) t1, .str (S (stripL sp b)) t2] } : Obj)) (by simp)).1
      have hd16 := (N16 (d, ({ cls := .type "dict", data := .dict #[] } : Obj)) (by simp)).1
      refine pair_name (A := A.deeper _) (s := ⟨_, s.gens, s.drawn, _, s.os⟩) hh (by show A.depth + 1 ≤ 490; omega) (by show A.units + 3 ≤ 6900; omega) (KX.keeps F16.keep) (T.keeps F16.keep) hp16 hd16 fun h17 tk17 st17 => ?_
      have F17 := F16.keeps st17
      have N17 := N16.grown st17
      clear F16 N16 hp16 hd16
      k_steps
      · rename_i hx9
        exact absurd hx9 (by simp)
      rename Fr _ _ _ _ => F18
      rename News _ _ _ _ => N18
      have hp18 := (N18 (p, ({ cls := .ref 155, dict := some d, data := .seq #[.str (S (stripL sp a)) t1, .str (S (stripL sp b)) t2] } : Obj)) (by simp)).1
      have hd18 := (N18 (d, ({ cls := .type "dict", data := .dict #[] } : Obj)) (by simp)).1
      refine pair_value (A := A.deeper _) (s := ⟨_, s.gens, s.drawn, _, s.os⟩) hh (by show A.depth + 1 ≤ 490; omega) (by show A.units + 3 ≤ 6900; omega) (KX.keeps F18.keep) (T.keeps F18.keep) hp18 hd18 fun h19 tk19 st19 => ?_
      have F19 := F18.keeps st19
      have N19 := N18.grown st19
      clear F18 N18 hp18 hd18
      k_steps
      · rename_i hx9
        exact absurd hx9 (by simp)
      have hBz : B.length ≤ sizeLine := Nat.le_trans (of_decide_eq_true hBl) (by decide)
      refine Hold.mk ?_
      refine slice_strN_sn (s := ⟨_, s.gens, s.drawn, _, s.os⟩) F19 N19 (fun h20 t20 k20 F20 N20 => ?_) (hsz := hBz)
      clear F19 N19
      rw [slice_S]
      generalize hX : (Txt.slice B (some _) none).cps.toList = u
      have hu : ∀ x ∈ u, sp x = true := fun x hx => hB x (slice_sub B _ _ (hX ▸ hx))
      have hul : u.length ≤ 100 := by
        have h2 := of_decide_eq_true hBl
        rw [← hX]
        exact Nat.le_trans (Txt.slice_le B _ _) h2
      have hnl : (stripL sp a).length ≤ 100 := Nat.le_trans (stripL_len sp a) hcl
      have hvl : (stripL sp b).length ≤ 100 := Nat.le_trans (stripL_len sp b) hcl2
      k_steps
      rename Fr _ _ _ _ => F21
      rename News _ _ _ _ => N21
      have hna : 61 ∉ stripL sp a := fun q => ha (stripL_sub q)
      rw [show stripL sp a ++ [61] ++ stripL sp b = stripL sp a ++ 61 :: stripL sp b from by simp]
      refine wpAny_call (law_parsed_some (A := A.deeper _) (s := ⟨_, s.gens, s.drawn, _, s.os⟩) hh (by show A.depth + 1 ≤ 490; omega) (by show A.units + 3 ≤ 6900; omega) (KX.keeps F21.keep) (T.keeps F21.keep) (stripL sp a) (stripL sp b) hna _ (by rw [decide_eq_true_eq, str_length_S, sizeLine_eq, List.length_append, List.length_cons]; omega) fun p1 d1' t3 t4 h22 tk22 W22 => ?_)
      rw [stripL_idem, stripL_idem] at W22
      have F22 := Nw.fr W22 F21
      have N22 := Nw.news W22 F21 N21
      simp only [List.cons_append, List.nil_append] at N22
      clear F21 N21
      try dsimp only
      k_steps
      rename Fr _ _ _ _ => F23
      rename News _ _ _ _ => N23
      rw [show u ++ stripL sp a ++ u ++ [61] ++ u ++ stripL sp b ++ u = (u ++ (stripL sp a ++ u)) ++ 61 :: (u ++ (stripL sp b ++ u)) from by simp]
      have hnu : 61 ∉ u ++ (stripL sp a ++ u) := fun q => by
        rcases List.mem_append.mp q with q | q
        · exact absurd (hu _ q) (by decide)
        · rcases List.mem_append.mp q with q | q
          · exact hna q
          · exact absurd (hu _ q) (by decide)
      refine wpAny_call (law_parsed_some (A := A.deeper _) (s := ⟨_, s.gens, s.drawn, _, s.os⟩) hh (by show A.depth + 1 ≤ 490; omega) (by show A.units + 3 ≤ 6900; omega) (KX.keeps F23.keep) (T.keeps F23.keep) _ _ hnu _ (by rw [decide_eq_true_eq, str_length_S, sizeLine_eq]; simp only [List.length_append, List.length_cons]; omega) fun p2 d2' t5 t6 h24 tk24 W24 => ?_)
      rw [stripL_pad _ hu hu, stripL_pad _ hu hu] at W24
      have F24 := Nw.fr W24 F23
      have N24 := Nw.news W24 F23 N23
      simp only [List.cons_append, List.nil_append] at N24
      clear F23 N23
      try dsimp only
      k_steps
      rename Fr _ _ _ _ => F25
      rename News _ _ _ _ => N25
      have hp25 := (N25 (p1, ({ cls := .ref 155, dict := some d1', data := .seq #[.str (S (stripL sp a)) t3, .str (S (stripL sp b)) t4] } : Obj)) (by simp)).1
      refine (x_type (s := ⟨_, s.gens, s.drawn, _, s.os⟩) (KX.keeps F25.keep) hp25).weaken (A := A.deeper _) hh (by show A.depth + 1 ≤ 600; omega) (by show A.units + 3 ≤ 8000; omega) _ _ fun x h26 tk26 nw26 W26 hx => ?_
      subst hx
      have F26 := F25.keeps W26.keep
      have N26 := N25.grown W26.keep
      clear F25 N25 hp25
      k_steps
      rename Fr _ _ _ _ => F27
      rename News _ _ _ _ => N27
      have hp27 := (N27 (p2, ({ cls := .ref 155, dict := some d2', data := .seq #[.str (S (stripL sp a)) t5, .str (S (stripL sp b)) t6] } : Obj)) (by simp)).1
      refine (x_type (s := ⟨_, s.gens, s.drawn, _, s.os⟩) (KX.keeps F27.keep) hp27).weaken (A := A.deeper _) hh (by show A.depth + 1 ≤ 600; omega) (by show A.units + 3 ≤ 8000; omega) _ _ fun x h28 tk28 nw28 W28 hx => ?_
      subst hx
      have F28 := F27.keeps W28.keep
      have N28 := N27.grown W28.keep
      clear F27 N27 hp27
      have emark : EqMark := ⟨⟩
      k_steps
      rename Fr _ _ _ _ => F29
      rename News _ _ _ _ => N29
      have hp29 := (N29 (p, ({ cls := .ref 155, dict := some d, data := .seq #[.str (S (stripL sp a)) t1, .str (S (stripL sp b)) t2] } : Obj)) (by simp)).1
      have hp29a := (N29 (p1, ({ cls := .ref 155, dict := some d1', data := .seq #[.str (S (stripL sp a)) t3, .str (S (stripL sp b)) t4] } : Obj)) (by simp)).1
      have hp29b := (N29 (p2, ({ cls := .ref 155, dict := some d2', data := .seq #[.str (S (stripL sp a)) t5, .str (S (stripL sp b)) t6] } : Obj)) (by simp)).1
      refine Hold.mk ?_
      refine eq_again (A := A.deeper _) (s := ⟨_, s.gens, s.drawn, _, s.os⟩) (by show A.units + 3 ≤ 7000; omega) (KX.keeps F29.keep)
        (News.isList N29 (.tail _ (.tail _ (.tail _ (.head _))))) (News.isList N29 (.head _)) (News.isList N29 (.tail _ (.tail _ (.tail _ (.tail _ (.tail _ (.head _)))))))
        (News.isList N29 (.tail _ (.tail _ (.tail _ (.tail _ (.head _)))))) (News.isList N29 (.tail _ (.tail _ (.head _)))) (News.isList N29 (.tail _ (.head _))) hp29a hp29b hp29 ?_
      exact hR _ _ F29.keep
  · obtain ⟨rfl, hi⟩ := x
    refine LCt.CompRestT.succ ?_
    intro v I oI C oC D m₂ h tk E' hP hC hx F N off ne
    obtain ⟨tv, rfl⟩ := hP
    simp only [LCg.Off3, and_true] at off
    obtain ⟨⟨_, _, _⟩, ⟨_, _, _⟩, _, _, _⟩ := off
    k_steps
    have hlh : h.IsList l its := by obtain ⟨o, e, r⟩ := hl; exact ⟨o, F.keep _ _ e, r⟩
    have hi' : i < cs.length := by rw [← hrow.size]; omega
    obtain ⟨t, ht⟩ := hrow.get (i := i) (c := cs[i]) (by simp [hi'])
    refine Hold.mk ?_
    refine item_list hlh (by omega) (by omega) (x := .str ⟨#[cs[i]]⟩ t) (by rw [← ht]; congr 1; omega) ?_
    k_steps
    · rename_i hyes
      refine Hold.mk (ih _ _ ⟨rfl, ?_⟩)
      have hq : (cs.getD i 0 == 61) = true := by
        have hd' : cs.getD i 0 = cs[i] := by simp [List.getD, hi']
        have h1 : (⟨#[cs[i]]⟩ : Str) = ⟨#[61]⟩ := eq_of_beq hyes
        injection h1 with h1
        rw [hd', beq_iff_eq]
        simpa using h1
      rw [List.range_succ, List.filter_append, List.map_append, List.filter_cons_of_pos (by exact hq)]
      rw [show (0 : Int) + (i : Int) = (i : Int) by omega]
      exact hi.append (.cons _ _ .nil)
    · rename_i hno
      refine Hold.mk (ih _ _ ⟨rfl, ?_⟩)
      have hq : ¬ ((cs.getD i 0 == 61) = true) := by
        have hd' : cs.getD i 0 = cs[i] := by simp [List.getD, hi']
        intro q
        rw [hd', beq_iff_eq] at q
        rw [q] at hno
        exact absurd hno (by decide)
      rw [List.range_succ, List.filter_append, List.map_append, List.filter_cons_of_neg (by exact hq)]
      simpa using hi
end Mine
end

section
open PySem PySem.W PySem.W.X PySem.Calls PyProof.Rows
set_option maxRecDepth 100000
set_option maxHeartbeats 8000000
namespace Mine
theorem push_env {A : Around} {base h₀ h : Heap} {outer : List Env} {L : Addr} {m : Str → Option Value} (env : Env)
    (K : Below A base outer h₀) (F : Fr h₀ L h m) (hf : env.frame = some L) (hk : env.scope.kind = .function) : Below (A.deeper env) base (env :: outer) h := by
  have hnew : base.get? L = none := by
    cases hq : base.get? L with
    | none => rfl
    | some o => exact absurd (Nat.lt_of_lt_of_le (Heap.lt_size (K.stays L o hq)) F.above) (Nat.lt_irrefl _)
  refine ⟨Around.frames_deeper K.stack, fun b o e => F.keep b o (K.stays b o e), ?_⟩
  exact .cons (by rw [hk]; decide) hf F.ns hnew (K.frames.of_keeps fun b o e _ => ⟨o, F.keep b o e, rfl⟩)
theorem dicts_push {h₀ h : Heap} {outer : List Env} {L : Addr} {m : Str → Option Value} (env : Env) (F : Fr h₀ L h m) (hf : env.frame = some L) (D : KtsDicts (outer.filterMap (·.frame)) h₀) : KtsDicts ((env :: outer).filterMap (·.frame)) h := by
  intro b hb
  rw [List.filterMap_cons, hf] at hb
  rcases List.mem_cons.mp hb with rfl | hb
  · obtain ⟨o, es, ep, ho, hd, _⟩ := F.ns
    exact ⟨o, es, ep, ho, hd⟩
  · obtain ⟨o, es, n, ho, hd⟩ := D b hb
    exact ⟨o, es, n, F.keep _ _ ho, hd⟩
/-- a frame and its ledger again behind a caught refusal beneath -/
theorem reground {A : Around} {base g h h' : Heap} {outer : List Env} {L : Addr} {m : Str → Option Value} {news : List (Addr × Obj)} (env : Env) (hf : env.frame = some L)
    (K : Below A base outer g) (D : KtsDicts (outer.filterMap (·.frame)) g) (F : Fr g L h m) (N : News g L h news) (Sl : Slip ((env :: outer).filterMap (·.frame)) h h') :
    ∃ g', KtsTurn (outer.filterMap (·.frame)) g g' ∧ Fr g' L h' m ∧ News g' L h' news ∧ Below A base outer g' := by
  obtain ⟨k, T, st⟩ := Sl
  rw [List.filterMap_cons, hf] at T
  have hup : h.UpToSlots h' := fun b o e _ => by
    obtain ⟨sl, hs⟩ := T.up e
    exact ⟨sl, st _ _ hs⟩
  obtain ⟨T', S'⟩ := kts_turn_at (h := h') (fs := outer.filterMap (·.frame)) (g := g)
    (fun b hb => by obtain ⟨_, o, ho, _⟩ := K.frames.mem hb; exact ⟨o, ho⟩)
    (fun b o e nm => st b o (T.other b o (F.keep b o e) (fun hm => by
      rcases List.mem_cons.mp hm with z | z
      · rw [z, kts_self F] at e; cases e
      · exact nm z)))
    (fun b o e hm => by
      obtain ⟨_, o', ho', hd⟩ := K.frames.mem hm
      rw [e] at ho'; cases ho'
      exact hup b o (F.keep b o e) hd)
  refine ⟨_, T', ⟨hup.ns F.ns, S', by rw [T'.size]; exact F.above⟩, fun p hp => ?_, ⟨K.stack, fun b o e => T'.other b o (K.stays b o e) (fun hm => by
    rw [(K.frames.mem hm).1] at e; cases e), K.frames.of_keeps fun b o e _ => ?_⟩⟩
  · obtain ⟨n1, n2, n3⟩ := N p hp
    refine ⟨st _ _ (T.other _ _ n1 fun hm => ?_), n2, T'.none_ _ n3⟩
    rcases List.mem_cons.mp hm with z | z
    · exact n2 z
    · obtain ⟨o, es, n, ho, _⟩ := D _ z
      rw [n3] at ho; cases ho
  · obtain ⟨sl, hs⟩ := T'.up e
    exact ⟨_, hs, rfl⟩
theorem slip_list {fs : List Addr} {g g' : Heap} (D : KtsDicts fs g) (T : KtsTurn fs g g') {l : Addr} {its : Array Value} (hl : g.IsList l its) : g'.IsList l its := by
  obtain ⟨o, ho, hc, n, hd⟩ := hl
  refine ⟨o, T.other _ _ ho fun hm => ?_, hc, n, hd⟩
  obtain ⟨o', es, n', ho', hd'⟩ := D _ hm
  rw [ho] at ho'
  cases ho'
  rw [hd] at hd'
  cases hd'
end Mine
end

section
open PySem PySem.W PySem.W.X PySem.Calls PyProof.Rows
set_option maxRecDepth 100000
set_option maxHeartbeats 8000000
namespace Mine
local macro_rules | `(tactic| walk_at "exec Assign cons ListComp") => `(tactic| refine Hold.h ?_)
local macro_rules | `(tactic| walk_at "subscriptTail Name Name ref int") => `(tactic| refine Hold.h ?_)
local macro_rules | `(tactic| walk_at "CompRestT") => `(tactic| refine Hold.h ?_)
theorem right_none {w : World} {A : Around} {s : Shared} {mean : ExcName → Option Value} {mg mb : Str → Option Value} {base : Heap} {outer : List Env} (hh : A.handled = none) (hd : A.depth ≤ 480) (hu : A.units ≤ 6800) (B₀ : Below A base outer s.heap) (KB : (Mine.hd.heap_39 w.params).In base) (TB : TopF mean mg mb base)
    (D₀ : KtsDicts (outer.filterMap (·.frame)) s.heap) (l : Addr) (its : Array Value) (hl : s.heap.IsList l its) (cs : List Nat) (hcs : 61 ∉ cs) (hrow : RowOf its cs) (hz' : decide (cs.length ≤ 100) = true) (B : Str) (tb : Tok) {R : Result → Shared → Prop}
    (hR : ∀ h' tk, Slip (outer.filterMap (·.frame)) s.heap h' → R (.ok (.ret (.bool true))) { s with heap := h', toks := tk }) : codeC (model PG w) A (.call (.ref 185) ⟨[.ref l, .str B tb], []⟩) R s := by
  have KX := KB.keeps B₀.stays
  have T := topRead_of (TB.keeps B₀.stays)
  refine enterR KX rfl rfl T.nolimit (Nat.lt_of_le_of_lt hd (by decide)) (BindsTo.of_eq (binds := [(Str.ofString "signs", .ref l), (Str.ofString "blanks", .str B tb)]) rfl) rfl (by decide +kernel) fun L h₁ tk cells F N Y => ?_
  obtain ⟨o1, hcs1, d1⟩ := CellsAre.one Y
  subst hcs1
  replace d1 : o1.data = .cell (some (.ref l)) := d1
  clear Y
  refine wpC_execs_cons (wpC_Assign_Name (wpC_CallName ?_))
  k_steps
  refine wpC_callWith (P := (Mine.hd.heap_39 w.params).In) (keeps_K (by k_is)) ?_
  refine evalArgs_plain (Calls.spliced_cons ?_)
  show wpAny _ _ (eval (Expr.Call _ _ _ _) _) _ _ _
  k_steps
  have hl₁ : h₁.IsList l its := by obtain ⟨o, e, r⟩ := hl; exact ⟨o, F.keep _ _ e, r⟩
  refine join_list (s := ⟨h₁, s.gens, s.drawn, _, s.os⟩) hl₁ hrow (row_fits _ (by have := of_decide_eq_true hz'; omega)) fun tj kj => ?_
  rw [join_row]
  k_steps
  have hlen : (S cs).length + 2 ≤ sizeLine := by
    have h1 := of_decide_eq_true hz'
    rw [str_length_S, sizeLine_eq]; omega
  refine wpC_call (law_parsed_none (A := A.deeper _) (base := base) (outer := _ :: outer) hh (by show A.depth + 1 ≤ 490; omega) (by show A.units + 3 ≤ 6900; omega) (push_env _ B₀ F rfl rfl) KB TB (dicts_push _ F rfl D₀) (S cs) tj (decide_eq_true hlen) hcs fun h₂ tk₂ Sl => ?_)
  obtain ⟨g', T', F', N', B'⟩ := reground _ rfl B₀ D₀ F N Sl
  have hl' : g'.IsList l its := slip_list D₀ T' hl
  clear F N KX T hl hl₁
  have KX : (Mine.hd.heap_39 w.params).In g' := KB.keeps B'.stays
  have T := topRead_of (TB.keeps B'.stays)
  try dsimp only
  refine wpC_of ?_
  k_steps
  refine wpC_of ?_
  k_steps
  rename Fr _ _ _ _ => F₃
  rename News _ _ _ _ => N₃
  try refine wpAny_execs_cons ?_
  refine Hold.mk ?_
  refine LCt.Assign_ListComp_T (F₀ := F₃) (by rfl) (by with_unfolding_all rfl) (by with_unfolding_all rfl) (by decide) (by rfl) (by decide) (by rfl) (by rfl) (by rfl) ?_
  k_steps
  have isl : ∀ h : Heap, (∀ b o, g'.get? b = some o → h.get? b = some o) → h.IsList l its := fun h k => by obtain ⟨o, e, r⟩ := hl'; exact ⟨o, k _ _ e, r⟩
  have hz : its.size ≤ 100 := by rw [hrow.size]; exact of_decide_eq_true hz'
  refine len_list (s := ⟨_, s.gens, s.drawn, _, s.os⟩) (isl _ F₃.keep) (by omega) ?_
  k_steps
  rename_i h₄ tk₄ t₄ u₄ v₄ hr F₄ N₄ k₄
  refine LCt.CompSrcT.range (n := its.size) hh F₄ N₄ hr ?_ ?_ (Nat.le_trans hz (by decide)) fun g => ?_
  · exact small_n _ (Nat.le_trans hz (by decide))
  · rw [rangeSize_nat]; omega
  refine comp_ind (fun i ys news => news = [(L + 1, o1)] ∧ IntsAre ys (((List.range i).filter fun j => cs.getD j 0 == 61).map fun (j : Nat) => (j : Int))) its.size (fun ys news x => ?_) (fun k i ys news e x ih => ?_) ⟨rfl, .nil⟩
  · obtain ⟨rfl, hi⟩ := x
    rw [hrow.size, cuts_none hcs, List.map_nil] at hi
    refine LCt.CompRestT.zero ?_
    intro D h tk F N off
    try dsimp only
    k_steps
    rename Fr _ _ _ _ => F9
    exact hR _ _ ⟨g', T', F9.keep⟩
  · obtain ⟨rfl, hi⟩ := x
    refine LCt.CompRestT.succ ?_
    intro v I oI C oC D m₂ h tk E' hP hC hx F N off ne
    obtain ⟨tv, rfl⟩ := hP
    simp only [LCg.Off3, and_true] at off
    obtain ⟨_, _, _⟩ := off
    k_steps
    have hlh : h.IsList l its := by obtain ⟨o, e, r⟩ := hl'; exact ⟨o, F.keep _ _ e, r⟩
    have hi' : i < cs.length := by rw [← hrow.size]; omega
    obtain ⟨t, ht⟩ := hrow.get (i := i) (c := cs[i]) (by simp [hi'])
    refine Hold.mk ?_
    refine item_list hlh (by omega) (by omega) (x := .str ⟨#[cs[i]]⟩ t) (by rw [← ht]; congr 1; omega) ?_
    k_steps
    · rename_i hyes
      refine Hold.mk (ih _ _ ⟨rfl, ?_⟩)
      have hq : (cs.getD i 0 == 61) = true := by
        have hd' : cs.getD i 0 = cs[i] := by simp [List.getD, hi']
        have h1 : (⟨#[cs[i]]⟩ : Str) = ⟨#[61]⟩ := eq_of_beq hyes
        injection h1 with h1
        rw [hd', beq_iff_eq]
        simpa using h1
      rw [List.range_succ, List.filter_append, List.map_append, List.filter_cons_of_pos (by exact hq)]
      rw [show (0 : Int) + (i : Int) = (i : Int) by omega]
      exact hi.append (.cons _ _ .nil)
    · rename_i hno
      refine Hold.mk (ih _ _ ⟨rfl, ?_⟩)
      have hq : ¬ ((cs.getD i 0 == 61) = true) := by
        have hd' : cs.getD i 0 = cs[i] := by simp [List.getD, hi']
        intro q
        rw [hd', beq_iff_eq] at q
        rw [q] at hno
        exact absurd hno (by decide)
      rw [List.range_succ, List.filter_append, List.map_append, List.filter_cons_of_neg (by exact hq)]
      simpa using hi
end Mine
end

section
open PySem PySem.W PySem.W.X PySem.Calls PyProof.Rows
set_option maxRecDepth 100000
set_option maxHeartbeats 8000000
namespace Mine
theorem comp_indK {C : Nat → Nat → List Value → List (Addr × Obj) → Prop} {news : List (Addr × Obj)} (I : Nat → List Value → Prop) (n : Nat) (h : I 0 []) (zero : ∀ ys, I n ys → C 0 n ys news)
    (succ : ∀ k i ys, k + 1 + i = n → I i ys → (∀ ys', I (i + 1) ys' → C k (i + 1) ys' news) → C (k + 1) i ys news) : C n 0 [] news :=
  comp_ind (fun i ys nw => nw = news ∧ I i ys) n (fun ys nw x => by obtain ⟨rfl, x⟩ := x; exact zero ys x) (fun k i ys nw e x ih => by obtain ⟨rfl, x⟩ := x; exact succ k i ys e x fun ys' x' => ih ys' _ ⟨rfl, x'⟩) ⟨rfl, h⟩
local macro_rules | `(tactic| walk_at "eval Name") => `(tactic| (k_here; (with_reducible show wpAny _ _ (eval (Expr.Name _ _) (compEnvC _ _ _ _)) _ _ _); first
  | (refine ldC_global (by k_asm) (by k_asm) (by k_asm) (by k_is) ?_)
  | (refine ldC_built (by k_asm) (by k_asm) (by k_asm) (by k_is) (by boot_by_name) (by decide) ?_)))
local macro_rules | `(tactic| walk_at "eval ListComp") => `(tactic| (k_here; k_dflt (refine LCg.ListComp_U (F₀ := by k_asm) (by rfl) (by decide) (by rfl) (by decide) (by rfl) ?_)))
local macro_rules | `(tactic| walk_at "no place (the walk keeps its lines by their number alone: this text must have another number than the one ahead of it)") => `(tactic| fail)
local macro_rules | `(tactic| walk_at "no place, again") => `(tactic| fail)
local macro_rules | `(tactic| walk_at "call builtin:chr") => `(tactic| (k_here; refine chr_of_range (by omega) (by omega) ?_))
theorem blanks_call {w : World} {A : Around} {s : Shared} {mg mb : Str → Option Value} (hh : A.handled = none) (hd : A.depth ≤ 480) (hu : A.units ≤ 6800) (KX : (Mine.hd.heap_39 w.params).In s.heap) (T : TR mg mb s.heap) {R : Result → Shared → Prop}
    (hR : ∀ t h' tk, s.heap.StaysIn h' → R (.ok (.ret (.str ⟨#[9, 10, 11, 12, 13, 28, 29, 30, 31, 32, 133, 160, 5760, 8192, 8193, 8194, 8195, 8196, 8197, 8198, 8199, 8200, 8201, 8202, 8232, 8233, 8239, 8287, 12288]⟩ t))) { s with heap := h', toks := tk }) : codeAny (model PG w) A (.call (.ref 163) ⟨[], []⟩) R s := by
  refine enter KX rfl rfl T.nolimit (Nat.lt_of_le_of_lt hd (by decide)) (BindsTo.of_eq (binds := []) rfl) rfl (by decide +kernel) fun L h₁ tk cells F N Y => ?_
  obtain rfl : cells = [] := cells_nil Y
  clear Y
  k_steps
  rename_i hr F₁ N₁ k₁
  refine LCg.CompSrc.range (n := 11) hh F₁ N₁ hr (by decide) (by decide) (by decide) fun g => ?_
  refine comp_indK (fun i ys => IntsAre ys ((List.range i).map fun (j : Nat) => (8192 + (j : Int)))) 11 .nil (fun ys hi => ?_) (fun k i ys e hi ih => ?_)
  · refine LCg.CompRest.zero ?_
    intro D h tk F N off
    clear F₁ N₁ k₁ hr
    try dsimp only
    k_steps
    rename IntsAre _ _ => hI
    rename Fr _ _ _ _ => F2
    rename News _ _ _ _ => N2
    generalize hcodes : ((_ ++ List.map (fun (j : Nat) => (8192 + (j : Int))) (List.range 11)) ++ _ : List Int) = codes at hI
    have hcl : codes.length = 29 := by rw [← hcodes]; rfl
    have hcb : ∀ c ∈ codes, 0 ≤ c ∧ c ≤ 65535 := by rw [← hcodes]; decide
    have hcj : codes.map (fun c => c.toNat) = [9, 10, 11, 12, 13, 28, 29, 30, 31, 32, 133, 160, 5760, 8192, 8193, 8194, 8195, 8196, 8197, 8198, 8199, 8200, 8201, 8202, 8232, 8233, 8239, 8287, 12288] := by rw [← hcodes]; decide
    refine LCg.CompSrc.ledger (A := A.deeper _) hh F2 N2 (.head _) (by rw [List.size_toArray, hI.length, hcl]; decide) fun g => ?_
    rw [List.size_toArray, hI.length, hcl]
    refine comp_indK (fun i ys => StrsAre ys (((codes.take i).map (fun c => c.toNat)).map ch)) 29 .nil (fun ys hi => ?_) (fun k i ys e hi ih => ?_)
    · refine LCg.CompRest.zero ?_
      intro D2 h3 tk3 F3 N3 off3
      rw [List.take_of_length_le (Nat.le_of_eq hcl), hcj] at hi
      try dsimp only
      k_steps
      refine join_list (s := ⟨h3, s.gens, s.drawn, _, s.os⟩) (News.isList N3 (.head _)) hi (row_fits _ (by decide)) fun t k => ?_
      rw [join_row]
      exact hR t _ _ F3.keep
    · refine LCg.CompRest.succ ?_
      intro v I oI C oC D2 m₂ h3 tk3 E' hP hC hx F3 N3 off3 ne3
      have hi2 : i < codes.length := by omega
      obtain ⟨tv, hv⟩ := hI.get i codes[i] (by simp [hi2])
      have hb := hcb codes[i] (List.getElem_mem hi2)
      generalize hc : codes[i] = c at hv hb
      obtain ⟨hb0, hb1⟩ := hb
      obtain rfl : v = .int c tv := by
        rw [List.getElem?_toArray, hv] at hP
        exact (Option.some.inj hP).symm
      simp only [LCg.Off3, and_true] at off3
      obtain ⟨⟨_, _, _⟩, ⟨_, _, _⟩, ⟨_, _, _⟩, _, _, _⟩ := off3
      k_steps
      refine ih _ ?_
      rw [List.take_add_one, List.getElem?_eq_getElem hi2, hc]
      simp only [Option.toList_some, List.map_append, List.map_cons, List.map_nil]
      exact strsAre_append hi (.cons _ _ .nil)
  · refine LCg.CompRest.succ ?_
    intro v I oI C oC D m₂ h tk E' hP hC hx F N off ne
    obtain ⟨tv, rfl⟩ := hP
    simp only [LCg.Off3, and_true] at off
    clear F₁ N₁ k₁ hr
    k_steps
    refine ih _ ?_
    rw [List.range_succ, List.map_append]
    rw [show (0 : Int) + (i : Int) = (i : Int) by omega]
    exact hi.append (.cons _ _ .nil)
end Mine
end

section
open PySem PySem.W PySem.W.X PySem.Calls PyProof.Rows
set_option maxRecDepth 100000
set_option maxHeartbeats 8000000
namespace Mine
/-- the blank signs, and all signs -/
def blL : List Nat := [9, 10, 11, 12, 13, 28, 29, 30, 31, 32, 133, 160, 5760, 8192, 8193, 8194, 8195, 8196, 8197, 8198, 8199, 8200, 8201, 8202, 8232, 8233, 8239, 8287, 12288]
def sgL : List Nat := [9, 10, 11, 12, 13, 28, 29, 30, 31, 32, 133, 160, 5760, 8192, 8193, 8194, 8195, 8196, 8197, 8198, 8199, 8200, 8201, 8202, 8232, 8233, 8239, 8287, 12288, 0, 8, 27, 127, 132, 134, 8203, 8288, 65279, 61, 61, 61, 61, 61, 97, 90, 34, 39, 46]
theorem add_S {prog : Program} {w : World} {A : Around} {E : Value → Shared → Prop} {s : Shared} {x y : Str} {t u : Tok} {a b : List Nat} {Q : Value → Shared → Prop} (hx : x = S a) (hy : y = S b) (hsz : a.length + b.length ≤ 16777216)
    (h : ∀ t' tk, Q (.str (S (a ++ b)) t') { s with toks := tk }) : wpAny (model prog w) A (binaryOp .Add (.str x t) (.str y u)) Q E s := by
  subst hx hy
  refine PyProof.Rows.add_str (fun t' tk => ?_) (by rw [sizeLine_eq]; simpa [Str.length] using hsz)
  rw [S_append]
  exact h t' tk
local macro_rules | `(tactic| walk_at "eval Name") => `(tactic| (k_here; (with_reducible show wpAny _ _ (eval (Expr.Name _ _) (compEnvC _ _ _ _)) _ _ _); first
  | (refine ldC_global (by k_asm) (by k_asm) (by k_asm) (by k_is) ?_)
  | (refine ldC_built (by k_asm) (by k_asm) (by k_asm) (by k_is) (by boot_by_name) (by decide) ?_)))
local macro_rules | `(tactic| walk_at "callWith") => `(tactic| ((try dsimp only); (with_reducible show wpAny _ _ (callWith _ (Value.builtin _) (_ :: _) _ _) _ _ _); k_dflt (refine PyProof.Rows.callWith_method1 ?_)))
local macro_rules | `(tactic| walk_at "eval ListComp") => `(tactic| (k_here; k_dflt (refine LCg.ListComp_U (F₀ := by k_asm) (by rfl) (by decide) (by rfl) (by decide) (by rfl) ?_)))
local macro_rules | `(tactic| walk_at "call builtin:chr") => `(tactic| (k_here; refine chr_of_range (by omega) (by omega) ?_))
/-- a text and its code points -/
structure IsB (B : Str) (l : List Nat) : Prop where
  eq : B = S l
theorem tail_S : Str.ofString "=====aZ\"'." = S [61, 61, 61, 61, 61, 97, 90, 34, 39, 46] := by decide +kernel
theorem signs_call {w : World} {A : Around} {s : Shared} {mg mb : Str → Option Value} (hh : A.handled = none) (hd : A.depth ≤ 480) (KX : (Mine.hd.heap_39 w.params).In s.heap) (T : TR mg mb s.heap) (B : Str) (hB : IsB B blL) (tb : Tok) {R : Result → Shared → Prop}
    (hR : ∀ t h' tk, s.heap.StaysIn h' → R (.ok (.ret (.str (S sgL) t))) { s with heap := h', toks := tk }) : codeAny (model PG w) A (.call (.ref 168) ⟨[.str B tb], []⟩) R s := by
  refine enter KX rfl rfl T.nolimit (Nat.lt_of_le_of_lt hd (by decide)) (BindsTo.of_eq (binds := [(Str.ofString "blanks", .str B tb)]) rfl) rfl (by decide +kernel) fun L h₁ tk cells F N Y => ?_
  obtain rfl : cells = [] := cells_nil Y
  clear Y
  k_steps
  rename Fr _ _ _ _ => F2
  rename News _ _ _ _ => N2
  generalize hits : (List.toArray (Value.int 0 _ :: _) : Array Value) = its at N2
  obtain ⟨codes, hcodes⟩ : ∃ codes : List Int, codes = [0, 8, 27, 127, 132, 134, 8203, 8288, 65279] := ⟨_, rfl⟩
  have hI : IntsAre its.toList codes := by rw [← hits, hcodes]; repeat constructor
  have hcl : codes.length = 9 := by rw [hcodes]; rfl
  have hcb : ∀ c ∈ codes, 0 ≤ c ∧ c ≤ 65535 := by rw [hcodes]; decide
  have hcj : codes.map (fun c => c.toNat) = [0, 8, 27, 127, 132, 134, 8203, 8288, 65279] := by rw [hcodes]; decide
  clear hits hcodes
  have hsz : its.size = 9 := by rw [← Array.length_toList, hI.length, hcl]
  refine LCg.CompSrc.ledger (A := A.deeper _) hh F2 N2 (.head _) (by rw [hsz]; decide) fun g => ?_
  rw [hsz]
  refine comp_indK (fun i ys => StrsAre ys (((codes.take i).map (fun c => c.toNat)).map ch)) 9 .nil (fun ys hi => ?_) (fun k i ys e hi ih => ?_)
  · refine LCg.CompRest.zero ?_
    intro D2 h3 tk3 F3 N3 off3
    rw [List.take_of_length_le (Nat.le_of_eq hcl), hcj] at hi
    try dsimp only
    clear F2 N2
    k_steps
    refine join_list (s := ⟨h3, s.gens, s.drawn, _, s.os⟩) (News.isList N3 (.head _)) hi (row_fits _ (by decide)) fun t k => ?_
    rw [join_row]
    k_steps
    rename Fr _ _ _ _ => F4
    refine add_S hB.eq rfl (by decide) fun t5 tk5 => ?_
    k_steps
    rw [tail_S, S_append, show blL ++ [0, 8, 27, 127, 132, 134, 8203, 8288, 65279] ++ [61, 61, 61, 61, 61, 97, 90, 34, 39, 46] = sgL from by decide]
    exact hR _ _ _ F4.keep
  · refine LCg.CompRest.succ ?_
    intro v I oI C oC D2 m₂ h3 tk3 E' hP hC hx F3 N3 off3 ne3
    have hi2 : i < codes.length := by omega
    obtain ⟨tv, hv⟩ := hI.get i codes[i] (by simp [hi2])
    have hb := hcb codes[i] (List.getElem_mem hi2)
    generalize hc : codes[i] = c at hv hb
    obtain ⟨hb0, hb1⟩ := hb
    obtain rfl : v = .int c tv := by
      rw [← Array.getElem?_toList, hv] at hP
      exact (Option.some.inj hP).symm
    simp only [LCg.Off3, and_true] at off3
    obtain ⟨_, _, _⟩ := off3
    clear F2 N2
    k_steps
    refine ih _ ?_
    rw [List.take_add_one, List.getElem?_eq_getElem hi2, hc]
    simp only [Option.toList_some, List.map_append, List.map_cons, List.map_nil]
    exact strsAre_append hi (.cons _ _ .nil)
end Mine
end

section
open PySem PySem.W PySem.Calls PyProof.Rows
set_option maxRecDepth 100000
namespace Mine
theorem sg_len : sgL.length = 48 := by decide
theorem sg_item (c : Int) : Txt.item (S sgL) (c.fmod 48) = ch (sgL.getD (c % 48).toNat 0) := by
  have e : c.fmod 48 = c % 48 := Int.fmod_eq_emod_of_nonneg c (by decide)
  have h0 : 0 ≤ c % 48 := Int.emod_nonneg _ (by decide)
  have h1 : c % 48 < 48 := Int.emod_lt_of_pos _ (by decide)
  rw [e]
  have hl : (S sgL).length = 48 := by simp [Str.length, sg_len]
  have z := item_meets (x := S sgL) (i := c % 48) ⟨h0, by rw [hl]; exact h1⟩
  rw [z]
  unfold ch
  congr 2
  simp only [S, List.cons.injEq, and_true]
  rw [List.getD_eq_getElem?_getD, ← List.getElem?_toArray, Array.getD_eq_getD_getElem?]
theorem ch_ne (c : Nat) : (ch c != Str.ofString "=") = (c != 61) := by
  by_cases h : c = 61
  · subst h; decide
  · rw [bne_iff_ne.mpr h, bne_iff_ne]
    intro e
    have e1 : ch c = ch 61 := e.trans (by decide)
    unfold ch at e1
    injection e1 with e1
    exact h (by simpa using e1)
end Mine
end

section
open PySem PySem.W PySem.W.X PySem.Calls PyProof.Rows
set_option maxRecDepth 100000
set_option maxHeartbeats 8000000
namespace Mine
/-- a mark: the walk is in the loop's turn -/
structure TurnMark : Prop where
/-- every item is a row: a list of one-sign texts -/
def RowsIn (nx : List (Addr × Obj)) (vals : Array Value) : Prop := ∀ v ∈ vals.toList, ∃ a its cap cs, v = .ref a ∧ (a, ({ cls := .type "list", data := .seq its cap } : Obj)) ∈ nx ∧ RowOf its cs ∧ cs.length ≤ 28 ∧ (∀ c ∈ cs, c ∈ sgL)
theorem RowsIn.push {nx nx' : List (Addr × Obj)} {vals : Array Value} {a : Addr} {its : Array Value} {cap : Nat} {cs : List Nat} (h : RowsIn nx vals) (hs : ∀ p ∈ nx, p ∈ nx') (hm : (a, ({ cls := .type "list", data := .seq its cap } : Obj)) ∈ nx') (hr : RowOf its cs) (hl : cs.length ≤ 28) (hc : ∀ c ∈ cs, c ∈ sgL) : RowsIn nx' (vals.push (.ref a)) := fun v hv => by
  rw [Array.toList_push] at hv
  rcases List.mem_append.mp hv with hv | hv
  · obtain ⟨b, its, cap, cs, e, hm, r⟩ := h v hv
    exact ⟨b, its, cap, cs, e, hs _ hm, r⟩
  · rw [List.mem_singleton.mp hv]
    exact ⟨a, its, cap, cs, rfl, hm, hr, hl, hc⟩
theorem RowsIn.mono {nx nx' : List (Addr × Obj)} {vals : Array Value} (h : RowsIn nx vals) (hs : ∀ p ∈ nx, p ∈ nx') : RowsIn nx' vals := fun v hv => by
  obtain ⟨b, its, cap, cs, e, hm, r⟩ := h v hv
  exact ⟨b, its, cap, cs, e, hs _ hm, r⟩
theorem sl_upto (vs : List Value) (i : Nat) : (slicePick vs.toArray none (some (i : Int)) none).toList = vs.take i := by rw [slicePick_upto']
theorem sl_from (vs : List Value) (i : Nat) : (slicePick vs.toArray (some (i : Int)) none none).toList = vs.drop i := by rw [slicePick_from']
theorem strsAre_reverse {vs : List Value} {ys : List Str} (h : StrsAre vs ys) : StrsAre vs.reverse ys.reverse := by
  induction h with
  | nil => exact .nil
  | cons y t _ ih => rw [List.reverse_cons, List.reverse_cons]; exact strsAre_append ih (.cons y t .nil)
theorem eq_ch : Str.ofString "=" = ch 61 := by decide
theorem mid_row {ys : List Value} {sig : List Nat} (hi : StrsAre ys (sig.map ch)) (i : Nat) (t : Tok) : RowOf (ys.take i ++ [Value.str (Str.ofString "=") t] ++ ys.drop i).toArray (sig.take i ++ [61] ++ sig.drop i) := by
  show StrsAre (ys.take i ++ [Value.str (Str.ofString "=") t] ++ ys.drop i) _
  rw [List.map_append, List.map_append, List.map_take, List.map_drop, eq_ch]
  exact strsAre_append (strsAre_append (strsAre_take hi i) (.cons _ _ .nil)) (strsAre_drop hi i)
theorem rev_row {ys : List Value} {sig : List Nat} (hi : StrsAre ys (sig.map ch)) (i : Nat) (t : Tok) : RowOf (ys.take i ++ [Value.str (Str.ofString "=") t] ++ ys.drop i).reverse.toArray (sig.take i ++ [61] ++ sig.drop i).reverse := by
  show StrsAre (ys.take i ++ [Value.str (Str.ofString "=") t] ++ ys.drop i).reverse _
  rw [List.map_reverse]
  exact strsAre_reverse (mid_row hi i t)
theorem mid_len {sig : List Nat} {i : Nat} (h : i ≤ sig.length) (hl : sig.length ≤ 27) : (sig.take i ++ [61] ++ sig.drop i).length ≤ 28 := by
  simp only [List.length_append, List.length_take, List.length_drop, List.length_cons, List.length_nil]; omega
theorem mid_sg {sig : List Nat} {i : Nat} (hs : ∀ c ∈ sig, c ∈ sgL) : ∀ c ∈ sig.take i ++ [61] ++ sig.drop i, c ∈ sgL := fun c hc => by
  rcases List.mem_append.mp hc with h | h
  · rcases List.mem_append.mp h with h | h
    · exact hs c (List.mem_of_mem_take h)
    · rw [List.mem_singleton.mp h]; decide
  · exact hs c (List.mem_of_mem_drop h)
theorem pick1 {h₀ h : Heap} {L : Addr} {x t1 t2 t3 t4 r d o : Addr × Obj} {Z : List (Addr × Obj)} (N : News h₀ L h (x :: t1 :: t2 :: t3 :: t4 :: r :: d :: o :: Z)) : News h₀ L h (r :: d :: o :: x :: Z) := fun p hp => N p (by
  simp only [List.mem_cons] at hp ⊢
  rcases hp with h | h | h | h | h <;> simp [h])
theorem pick2 {h₀ h : Heap} {L : Addr} {x t1 t2 t3 t4 t5 r d o c : Addr × Obj} {Z : List (Addr × Obj)} (N : News h₀ L h (x :: t1 :: t2 :: t3 :: t4 :: t5 :: r :: d :: o :: c :: Z)) : News h₀ L h (r :: d :: o :: x :: c :: Z) := fun p hp => N p (by
  simp only [List.mem_cons] at hp ⊢
  rcases hp with h | h | h | h | h | h <;> simp [h])
theorem append_row {prog : Program} {w : World} {A : Around} {E : Value → Shared → Prop} {s : Shared} {h₀ : Heap} {L R : Addr} {m : Str → Option Value} {vals : Array Value} {cap : Nat} {x : Value} {Z : List (Addr × Obj)} {Q : Value → Shared → Prop}
    (F : Fr h₀ L s.heap m) (N : News h₀ L s.heap ((R, ({ cls := .type "list", data := .seq vals cap } : Obj)) :: Z)) (hne : ∀ p ∈ Z, (@Ne Nat p.1 R)) (hsz : vals.size ≤ sizeLine)
    (h : ∀ h', Fr h₀ L h' m → News h₀ L h' ((R, ({ cls := .type "list", data := .seq (vals.push x) (cap + 1) } : Obj)) :: Z) → Q .none { s with heap := h' }) :
    wpAny (model prog w) A (call (.builtin "list.append") [.ref R, x]) Q E s := by
  have hR := N _ (.head _)
  refine append_at (hsz := hsz) hR.1 fun h' hs hD => h h' (F.change hs hR.2.1 hR.2.2) fun p hp => ?_
  rcases List.mem_cons.mp hp with rfl | hp
  · exact ⟨hD, hR.2⟩
  · have z := N p (List.mem_cons_of_mem _ hp)
    exact ⟨hs.extBut _ _ (hne p hp) z.1, z.2⟩
theorem bl_sp : ∀ x ∈ blL, sp x = true := by decide +kernel
theorem sg_sp : ∀ x ∈ sgL, blL.contains x = sp x := by decide +kernel
/-- the claim's own frame again behind a caught refusal beneath -/
theorem reground0 {g h h' : Heap} {L : Addr} {m : Str → Option Value} {news : List (Addr × Obj)} (env : Env) (hf : env.frame = some L)
    (F : Fr g L h m) (N : News g L h news) (Sl : Slip ([env].filterMap (·.frame)) h h') : Fr g L h' m ∧ News g L h' news := by
  obtain ⟨g', T, F', N', _⟩ := reground env hf (below_caller g) ktsDicts_nil F N Sl
  refine ⟨⟨F'.ns, fun b o e => F'.keep b o (T.other b o e (by intro q; cases q)), F.above⟩, fun p hp => ⟨(N' p hp).1, (N p hp).2⟩⟩
local macro_rules | `(tactic| walk_at "eval Name") => `(tactic| (k_here; (with_reducible show wpAny _ _ (eval (Expr.Name _ _) (compEnvC _ _ _ _)) _ _ _); first
  | (refine ldC_global (by k_asm) (by k_asm) (by k_asm) (by k_is) ?_)
  | (refine ldC_built (by k_asm) (by k_asm) (by k_asm) (by k_is) (by boot_by_name) (by decide) ?_)))
local macro_rules | `(tactic| walk_at "CompSrc") => `(tactic| refine Hold.h ?_)
local macro_rules | `(tactic| walk_at "CompSrcT") => `(tactic| refine Hold.h ?_)
local macro_rules | `(tactic| walk_at "pyIter ref") => `(tactic| refine Hold.h ?_)
local macro_rules | `(tactic| walk_at "subscriptTail Name Slice ref ref") => `(tactic| (rename TurnMark => tmk9; k_dflt (refine kmk_slice_lit (by k_asm) (by k_asm) (by kmk_list) (by kmk_part) (by kmk_part) (by first | exact sl_upto _ _ | exact sl_from _ _) ?_ (by with_unfolding_all rfl) (by kmk_pure) (by with_reducible assumption)); intro D' h' F' N' l1; k_lt l1))
local macro_rules | `(tactic| walk_at "binaryOp Add ref ref") => `(tactic| (rename TurnMark => tmk9; k_dflt (refine kmk_add_lit (by k_asm) (by k_asm) (by kmk_list) (by kmk_list) (by simp only []; exact rfl) ?_ (by simp only [sizeLine_eq, List.length_append, List.length_take, List.length_drop, List.length_cons, List.length_nil]; omega)); intro D' h' F' N' l1; k_lt l1))
local macro_rules | `(tactic| walk_at "subscriptTail Name Slice ref ref") => `(tactic| (rename TurnMark => tmk9; k_dflt (refine krv_lit (by k_asm) (by k_asm) (by kmk_list) (IsPart.int _ _) (by simp only []; exact rfl) ?_ (by with_unfolding_all rfl) (by kmk_pure) (by simp only [List.size_toArray, sizeLine_eq, List.length_append, List.length_take, List.length_drop, List.length_cons, List.length_nil]; omega)); intro D' h' F' N' l1; k_lt l1))
local macro_rules | `(tactic| walk_at "callWith") => `(tactic| ((try dsimp only); (with_reducible show wpAny _ _ (callWith _ (Value.builtin _) (_ :: _) _ _) _ _ _); k_dflt (refine PyProof.Rows.callWith_method1 ?_)))
theorem law_walk {w : World} {s : Shared} {mean : ExcName → Option Value} {mg mb : Str → Option Value} (KX : (Mine.hd.heap_39 w.params).In s.heap) (TT : TopF mean mg mb s.heap) (l : Addr) (vs : List Value) (ns : List Int) (hl : s.heap.IsList l vs.toArray) (hI : IntsAre vs ns) (hlen : ns.length ≤ 63) {R : Result → Shared → Prop}
    (hR : ∀ h' tk, s.heap.StaysIn h' → R (.ok (.ret (.bool true))) { s with heap := h', toks := tk }) : codeC (model PG w) callerA (.call (.ref 190) ⟨[.ref l], []⟩) R s := by
  have T := topRead_of TT
  refine enterR KX rfl rfl T.nolimit (by decide) (BindsTo.of_eq (binds := [(Str.ofString "script", .ref l)]) rfl) rfl (by decide +kernel) fun L h₁ tk cells F N Y => ?_
  obtain ⟨o1, hcs1, d1⟩ := CellsAre.one Y
  subst hcs1
  clear Y
  refine wpC_execs_cons (wpC_of ?_)
  k_steps
  refine wpC_execs_cons (wpC_of ?_)
  k_steps
  rename IntsAre _ _ => hI2
  rename_i D2 ws2 h2 hC2 hL2 h2' _ _
  rename Fr _ _ _ _ => F2
  rename News _ _ _ _ => N2
  clear hI hl hL2 hC2
  refine wpAny_call (blanks_call (A := callerA.deeper _) (s := ⟨_, s.gens, s.drawn, _, s.os⟩) rfl (by show callerA.depth + 1 ≤ 480; decide) (by show callerA.units + 3 ≤ 6800; decide) (KX.keeps F2.keep) (T.keeps F2.keep) fun tb h3 tk3 st3 => ?_)
  have F3 := F2.keeps st3
  have N3 := N2.grown st3
  clear F2 N2
  try dsimp only
  generalize hB : (⟨#[9, 10, 11, 12, 13, 28, 29, 30, 31, 32, 133, 160, 5760, 8192, 8193, 8194, 8195, 8196, 8197, 8198, 8199, 8200, 8201, 8202, 8232, 8233, 8239, 8287, 12288]⟩ : Str) = BB
  have hBB : IsB BB blL := ⟨hB.symm⟩
  clear hB
  k_steps
  rename_i h4 oB F4 N4 dB
  simp only [List.cons_append, List.nil_append] at N4
  clear st3
  obtain ⟨n20, hn20⟩ : ∃ n20, n20 = List.take 20 ns := ⟨_, rfl⟩
  have h20 : n20.length ≤ 20 := by rw [hn20, List.length_take]; exact Nat.min_le_left _ _
  rw [← hn20] at hI2
  clear hn20
  refine wpC_execs_cons (wpC_of ?_)
  refine LCg.Assign_ListComp_U (F₀ := F4) (by rfl) (by with_unfolding_all rfl) (by with_unfolding_all rfl) (by decide) (by rfl) (by decide) (by rfl) (by rfl) (by rfl) ?_
  k_steps
  refine Hold.mk ?_
  rename IntsAre _ _ => hI3
  rename Fr _ _ _ _ => F5
  rename News _ _ _ _ => N5
  obtain ⟨xs, hxs⟩ : ∃ xs, xs = n20 ++ [44, 20, 46, 0, 47, 45, 30] := ⟨_, rfl⟩
  have hxl : xs.length ≤ 27 := by rw [hxs, List.length_append]; simp; omega
  rw [← hxs] at hI3
  clear hxs
  refine LCg.CompSrc.ledger (A := callerA.deeper _) rfl F5 N5 (.head _) (by rw [List.size_toArray, hI3.length, sizeLine_eq]; omega) fun g => ?_
  rw [List.size_toArray, hI3.length]
  refine comp_indK (fun i ys => StrsAre ys (((xs.take i).map (fun x => sgL.getD (x % 48).toNat 0)).map ch)) xs.length .nil (fun ys hi => ?_) (fun k i ys e hi ih => ?_)
  · refine LCg.CompRest.zero ?_
    intro D5 h6 tk6 F6 N6 off6
    rw [List.take_of_length_le (Nat.le_refl _)] at hi
    try dsimp only
    clear F5 N5
    refine wpC_execs_cons (wpC_of ?_)
    k_steps
    refine Hold.mk ?_
    obtain ⟨sig, hsig⟩ : ∃ sig, sig = xs.map (fun x => sgL.getD (x % 48).toNat 0) := ⟨_, rfl⟩
    rw [← hsig] at hi
    have hsl : sig.length ≤ 27 := by rw [hsig, List.length_map]; exact hxl
    have hsg : ∀ c ∈ sig, c ∈ sgL := by
      intro c hc
      rw [hsig] at hc
      obtain ⟨x, _, rfl⟩ := List.mem_map.mp hc
      have h0 : 0 ≤ x % 48 := Int.emod_nonneg _ (by decide)
      have h1 : x % 48 < 48 := Int.emod_lt_of_pos _ (by decide)
      have h2 : (x % 48).toNat < sgL.length := by rw [sg_len]; omega
      rw [List.getD_eq_getElem?_getD, List.getElem?_eq_getElem h2, Option.getD_some]
      exact List.getElem_mem h2
    have hys : ys.length = sig.length := by rw [strsAre_len hi, List.length_map]
    clear hsig hI3 hxl hI2 h20
    have N6' : News s.heap L h6 [(D5, LCg.lst ys), (L + 1, oB)] := fun p hp => N6 p (by
      rcases List.mem_cons.mp hp with rfl | hp
      · exact .head _
      · rw [List.mem_singleton.mp hp]; simp)
    clear N6 off6
    refine LCt.CompSrcT.ledger (A := callerA.deeper _) rfl F6 N6' (.head _) (by rw [List.size_toArray, hys, sizeLine_eq]; omega) fun g => ?_
    rw [List.size_toArray, hys]
    refine comp_indK (fun i zs => StrsAre zs (((sig.take i).filter (fun c => c != 61)).map ch)) sig.length .nil (fun zs hj => ?_) (fun k i zs e hj ih => ?_)
    · refine LCt.CompRestT.zero ?_
      intro D7 h7 tk7 F7 N7 off7
      rw [List.take_of_length_le (Nat.le_refl _)] at hj
      clear F6 N6'
      try dsimp only
      k_steps
      rename Fr _ _ _ _ => F8
      rename News _ _ _ _ => N8
      refine wpC_execs_cons (wpC_of ?_)
      refine For_invV s.heap (by rfl) (by rfl) ?_
      k_steps
      have hsz : ys.toArray.size = sig.length := by rw [List.size_toArray, hys]
      refine len_list (s := ⟨_, s.gens, s.drawn, _, s.os⟩) (News.isList N8 (.tail _ (.tail _ (.tail _ (.tail _ (.head _)))))) (by rw [hsz]; omega) ?_
      rw [hsz]
      k_steps
      refine Hold.mk ?_
      rename IsRange _ _ _ _ _ _ _ _ => hr
      rename Fr _ _ _ _ => F9
      rename News _ _ _ _ => N9
      rename_i E1 e1 le1 E0 e0 le0 R0 r0 lR hh' FF NN h9 tk9 t1 u1 v1 kk
      clear FF NN kk
      have hn : Builtin.Range.rangeSize 0 ((sig.length : Int) + 1) 1 = ((sig.length + 1 : Nat) : Int) := by
        rw [rangeSize_nat]; omega
      have hsm : Builtin.Range.small 0 ((sig.length : Int) + 1) 1 = true := by
        have := small_n (sig.length + 1) (by rw [sizeLine_eq]; omega)
        simpa using this
      have hrow0 : RowsIn [(D5, LCg.lst ys), (D7, LCg.lst zs), (E1, W.listOf #[Value.str (Str.ofString "=") tk7] 0), (E0, W.listOf #[] 0)] #[Value.ref D5, Value.ref D7, Value.ref E1, Value.ref E0] := by
        intro v hv
        simp only [List.mem_cons, List.not_mem_nil, or_false] at hv
        rcases hv with rfl | rfl | rfl | rfl
        · exact ⟨_, _, _, sig, rfl, .head _, hi, by omega, hsg⟩
        · exact ⟨_, _, _, _, rfl, .tail _ (.head _), hj, Nat.le_trans (List.length_filter_le _ _) (by omega), fun c hc => hsg c ((List.mem_filter.mp hc).1)⟩
        · exact ⟨_, _, _, [61], rfl, .tail _ (.tail _ (.head _)), .cons (ch 61) _ .nil, by decide, by decide⟩
        · exact ⟨_, _, _, [], rfl, .tail _ (.tail _ (.tail _ (.head _))), .nil, by decide, by decide⟩
      have N9' : News s.heap L h9 ((R0, W.listOf #[Value.ref D5, Value.ref D7, Value.ref E1, Value.ref E0] 0) :: (D5, LCg.lst ys) :: (L + 1, oB) :: [(D7, LCg.lst zs), (E1, W.listOf #[Value.str (Str.ofString "=") tk7] 0), (E0, W.listOf #[] 0)]) := fun p hp => N9 p (by
        simp only [List.mem_cons, List.not_mem_nil, or_false] at hp ⊢
        rcases hp with h | h | h | h | h | h <;> simp [h])
      clear N9
      obtain ⟨q1, q2, q3, q4, q5⟩ := lR
      refine wpAny_pyIter_range hr hsm ?_
      have up : ∀ b o, h9.get? b = some o → (h9.push { cls := .type "range_iterator", data := .fields #[rawInt 0, rawInt (Builtin.Range.rangeSize 0 ((sig.length : Int) + 1) 1), rawInt 1] }).get? b = some o := fun b o e => Heap.get?_push_of_some _ e
      have hI : h9.objs.size ≠ L := Ne.symm (Nat.ne_of_lt F9.ns.lt)
      have hoff : ∀ p ∈ ((R0, W.listOf #[Value.ref D5, Value.ref D7, Value.ref E1, Value.ref E0] 0) :: (D5, LCg.lst ys) :: (L + 1, oB) :: [(D7, LCg.lst zs), (E1, W.listOf #[Value.str (Str.ofString "=") tk7] 0), (E0, W.listOf #[] 0)] : List (Addr × Obj)), p.1 ∉ [h9.objs.size] := fun p hp hm => by
        have := Heap.lt_size (N9' p hp).1
        rw [List.mem_singleton.mp hm] at this
        exact Nat.lt_irrefl _ this
      generalize hm0 : (fun y => if y = Str.ofString "rows" then some (Value.ref R0) else _ : Str → Option Value) = m₀ at F9
      refine ⟨_, [_], [_], sig.length + 1, _, _, _, _, fun i m₁ nx => (∀ z, z ≠ Str.ofString "k" → m₁ z = m₀ z) ∧ ∃ vals cap tl, nx = (R0, ({ cls := .type "list", data := .seq vals cap } : Obj)) :: (D5, LCg.lst ys) :: (L + 1, oB) :: tl ∧ (∀ p ∈ tl, (@Ne Nat p.1 R0)) ∧ vals.size = 4 + 2 * i ∧ RowsIn ((D5, LCg.lst ys) :: tl) vals,
        rfl, LCg.range_walks rfl 0 (sig.length + 1), ?_, ?_, hoff, ?_, F9.keeps up, N9'.grown up, ?_, ?_, ?_⟩
      · intro hm; exact hI (List.mem_singleton.mp hm).symm
      · intro b hb; rw [List.mem_singleton.mp hb]; exact next_is_new F9
      · show IsRangeIter _ _ _ _ _
        rw [hn]
        simpa using Heap.get?_push_size _ rfl
      · refine ⟨fun _ _ => rfl, _, _, _, rfl, fun p hp => ?_, rfl, hrow0⟩
        simp only [List.mem_cons, List.not_mem_nil, or_false] at hp
        rcases hp with rfl | rfl | rfl
        · exact Nat.ne_of_lt q3
        · exact Nat.ne_of_lt q2
        · exact Nat.ne_of_lt q1
      · rintro i v m₁ news₁ s₂ own ⟨h10, tk10, rfl⟩ hin hP ⟨hm, vals, cap, tl, rfl, htl, hvs, hrows⟩ hofw hown hownh hmem hst F10 N10
        clear hoff N9' up hrow0 hr
        obtain ⟨t10, rfl⟩ := hP
        have tmark : TurnMark := ⟨⟩
        have hfe : (fun y => if y = Str.ofString "k" then some (Value.int (0 + (i : Int)) t10) else m₁ y) = (fun y => if y = Str.ofString "k" then some (Value.int (0 + (i : Int)) t10) else m₀ y) := by
          funext z
          by_cases h : z = Str.ofString "k"
          · rw [if_pos h, if_pos h]
          · rw [if_neg h, if_neg h, hm z h]
        have F11 : Fr s.heap L h10 (fun y => if y = Str.ofString "k" then some (Value.int (0 + (i : Int)) t10) else m₀ y) := hfe ▸ F10
        clear F10 hfe
        rw [Int.zero_add] at F11
        obtain ⟨oI, hoI⟩ : ∃ oI, (h9.objs.size, oI) ∈ own := ⟨_, hmem h9.objs.size (List.mem_singleton.mpr rfl) (next_is_new F9) _ hst⟩
        have hRI : R0 ≠ h9.objs.size := fun e => hofw _ (.head _) (List.mem_singleton.mpr e)
        have hZR : ∀ p ∈ own ++ tl, (@Ne Nat p.1 R0) := fun p hp => by
          rcases List.mem_append.mp hp with hp | hp
          · have := hown p hp
            rw [List.mem_singleton.mp this]
            exact Ne.symm hRI
          · exact htl p hp
        have N11 : News s.heap L h10 ((R0, ({ cls := .type "list", data := .seq vals cap } : Obj)) :: (D5, LCg.lst ys) :: (L + 1, oB) :: (own ++ tl)) := fun p hp => N10 p (by
          simp only [List.mem_cons, List.mem_append] at hp ⊢
          rcases hp with h | h | h | h | h
          · exact .inr (.inl h)
          · exact .inr (.inr (.inl h))
          · exact .inr (.inr (.inr (.inl h)))
          · exact .inl h
          · exact .inr (.inr (.inr (.inr h))))
        have hofI : ∀ p ∈ (R0, ({ cls := .type "list", data := .seq vals cap } : Obj)) :: (D5, LCg.lst ys) :: (L + 1, oB) :: tl, (@Ne Nat p.1 h9.objs.size) := fun p hp e => hofw p hp (List.mem_singleton.mpr e)
        clear N10 hofw hown hownh hmem hst hRI
        have hoZ : ∀ p ∈ own, p ∈ own ++ tl := fun p hp => List.mem_append_left _ hp
        have htZ : ∀ p ∈ tl, p ∈ own ++ tl := fun p hp => List.mem_append_right _ hp
        generalize own ++ tl = Z at *
        subst hm0
        have hi27 : i ≤ sig.length := by omega
        have hysz : ys.toArray.size ≤ sizeLine := by rw [hsz, sizeLine_eq]; omega
        clear q1 q2 q3 le0 le1 hI hsm hn hin off7 F9
        try dsimp only
        k_steps
        rename_i C1 hC1 Fa Na lC1
        obtain ⟨_, _, _, _, c1, c2, c3, c4⟩ := lC1
        have Nb := pick1 Na
        have hvz : vals.size ≤ sizeLine := by rw [hvs, sizeLine_eq]; omega
        refine append_row (s := ⟨hC1, s.gens, s.drawn, _, s.os⟩) Fa Nb (fun p hp => ?_) hvz fun hb Fb Nb' => ?_
        · simp only [List.mem_cons] at hp
          rcases hp with rfl | rfl | rfl | hp
          · exact Nat.ne_of_lt q4
          · exact Nat.ne_of_lt q5
          · exact Ne.symm (Nat.ne_of_lt c1)
          · exact hZR p hp
        clear Fa Na Nb
        k_steps
        rename_i C2 hC2 Fd Nd lC2
        obtain ⟨_, _, _, _, _, e1, e2, e3, e4, e5⟩ := lC2
        have Npk := pick2 Nd
        have hvz2 : (vals.push (Value.ref C1)).size ≤ sizeLine := by rw [Array.size_push, hvs, sizeLine_eq]; omega
        refine append_row (s := ⟨hC2, s.gens, s.drawn, _, s.os⟩) Fd Npk (fun p hp => ?_) hvz2 fun hf Ff Nf => ?_
        · simp only [List.mem_cons] at hp
          rcases hp with rfl | rfl | rfl | rfl | hp
          · exact Nat.ne_of_lt q4
          · exact Nat.ne_of_lt q5
          · exact Ne.symm (Nat.ne_of_lt e1)
          · exact Ne.symm (Nat.ne_of_lt c1)
          · exact hZR p hp
        clear Fd Nd Npk
        obtain ⟨t2, Nf2⟩ : ∃ t2 : Tok, News s.heap L hf ((R0, ({ cls := .type "list", data := .seq ((vals.push (.ref C1)).push (.ref C2)) (cap + 1 + 1) } : Obj)) :: (D5, LCg.lst ys) :: (L + 1, oB) :: (C2, W.listOf (List.take i ys ++ [Value.str (Str.ofString "=") t2] ++ List.drop i ys).reverse.toArray 0) :: (C1, W.listOf (List.take i ys ++ [Value.str (Str.ofString "=") tk10] ++ List.drop i ys).toArray 0) :: Z) := ⟨_, Nf⟩
        clear Nf
        k_steps
        refine LoopStepU.intro (news₂ := (R0, ({ cls := .type "list", data := .seq ((vals.push (.ref C1)).push (.ref C2)) (cap + 1 + 1) } : Obj)) :: (D5, LCg.lst ys) :: (L + 1, oB) :: (C2, W.listOf (List.take i ys ++ [Value.str (Str.ofString "=") t2] ++ List.drop i ys).reverse.toArray 0) :: (C1, W.listOf (List.take i ys ++ [Value.str (Str.ofString "=") tk10] ++ List.drop i ys).toArray 0) :: tl) Ff (fun p hp => Nf2 p ?_) (fun p hp hm => ?_)
          ⟨fun z hz => if_neg hz, _, _, _, rfl, fun p hp => ?_, ?_, ?_⟩
        · rcases List.mem_append.mp hp with hp | hp
          · exact .tail _ (.tail _ (.tail _ (.tail _ (.tail _ (hoZ p hp)))))
          · simp only [List.mem_cons] at hp ⊢
            rcases hp with h | h | h | h | h | h
            · exact .inl h
            · exact .inr (.inl h)
            · exact .inr (.inr (.inl h))
            · exact .inr (.inr (.inr (.inl h)))
            · exact .inr (.inr (.inr (.inr (.inl h))))
            · exact .inr (.inr (.inr (.inr (.inr (htZ p h)))))
        · have hm := List.mem_singleton.mp hm
          have hI1 := tb_ltOf c4 _ (hoZ _ hoI)
          have hI2 := tb_ltOf e5 _ (hoZ _ hoI)
          simp only [List.mem_cons] at hp
          rcases hp with rfl | rfl | rfl | rfl | rfl | hp
          · exact hofI (R0, ({ cls := .type "list", data := .seq vals cap } : Obj)) (.head _) hm
          · exact hofI _ (.tail _ (.head _)) hm
          · exact hofI _ (.tail _ (.tail _ (.head _))) hm
          · exact Nat.ne_of_gt hI2 hm
          · exact Nat.ne_of_gt hI1 hm
          · exact hofI _ (.tail _ (.tail _ (.tail _ hp))) hm
        · simp only [List.mem_cons] at hp
          rcases hp with rfl | rfl | hp
          · exact Nat.ne_of_gt e1
          · exact Nat.ne_of_gt c1
          · exact htl p hp
        · rw [Array.size_push, Array.size_push, hvs]; omega
        · refine RowsIn.push (RowsIn.push hrows (fun p hp => ?_) (.tail _ (.tail _ (.head _))) (mid_row hi i tk10) (mid_len hi27 hsl) (mid_sg hsg)) (fun p hp => hp) (.tail _ (.head _)) (rev_row hi i _) (by rw [List.length_reverse]; exact mid_len hi27 hsl) (fun c hc => mid_sg hsg c (List.mem_reverse.mp hc))
          rcases List.mem_cons.mp hp with h | h
          · rw [h]; exact .head _
          · exact .tail _ (.tail _ (.tail _ h))
      · intro h10 tk10 m₁ news₁ F10 N10 hofw ⟨hm, vals, cap, tl, hnx, htl, hvs, hrows⟩
        subst hnx
        clear hoff N9' up hrow0 hr
        have F11 : Fr s.heap L h10 (fun y => if y = Str.ofString "k" then m₁ y else m₀ y) := by
          have hfe : (fun y => if y = Str.ofString "k" then m₁ y else m₀ y) = m₁ := by
            funext z
            by_cases h : z = Str.ofString "k"
            · rw [if_pos h]
            · rw [if_neg h]; exact (hm z h).symm
          rw [hfe]
          exact F10
        have N11 : News s.heap L h10 ((R0, ({ cls := .type "list", data := .seq vals cap } : Obj)) :: (D5, LCg.lst ys) :: (L + 1, oB) :: tl) := N10
        clear F10 N10 hm hofw F9 q1 q2 q3 q4 q5 le0 le1 hI hsm hn off7
        subst hm0
        try dsimp only
        refine wpC_execs_cons (wpC_Return (wpC_Compare1 ?_))
        refine wpC_ListComp_none rfl F11 (by with_unfolding_all rfl) (by decide) (by rfl) (by decide) (by rfl) ?_
        k_steps
        refine Hold.mk ⟨R0, vals, _, rfl, F11, N11, .inr ⟨_, .head _, rfl, _, rfl⟩, fun i v I oI C oC D m₂ h tk E' hv hC hx F N off ne => ?_, fun D h tk F N => ?_⟩
        · obtain ⟨a, its, cap2, cs, rfl, hmem, hrow, hcl, hcs⟩ := hrows v (List.mem_of_getElem? (by rw [Array.getElem?_toList]; exact hv))
          have hmN : (a, ({ cls := .type "list", data := .seq its cap2 } : Obj)) ∈ ((I, oI) :: (C, oC) :: (D, LCg.lst []) :: (R0, ({ cls := .type "list", data := .seq vals cap } : Obj)) :: (D5, LCg.lst ys) :: (L + 1, oB) :: tl : List (Addr × Obj)) := by
            rcases List.mem_cons.mp hmem with q | q
            · rw [q]; exact .tail _ (.tail _ (.tail _ (.tail _ (.head _))))
            · exact .tail _ (.tail _ (.tail _ (.tail _ (.tail _ (.tail _ q)))))
          have hla : h.IsList a its := News.isList N hmN
          clear off hv hmem
          refine wpC_isTrue_not (wpC_isTrue_plain (wpC_CallName ?_))
          k_steps
          refine wpC_callWith (P := (Mine.hd.heap_39 w.params).In) (keeps_K (by k_is)) ?_
          refine evalArgs_plain (Calls.spliced_cons ?_)
          show wpAny _ _ (eval (Expr.Name _ _) _) _ _ _
          k_steps
          have hz : decide (cs.length ≤ 100) = true := decide_eq_true (by omega)
          have KXh := KX.keeps F.keep
          have hTh := T.keeps F.keep
          by_cases h61 : 61 ∈ cs
          · obtain ⟨ca, cb, hcab, hca⟩ := List.eq_append_cons_of_mem h61
            refine wpC_call (codeC_of (right_some (A := callerA.deeper _) (s := ⟨h, s.gens, s.drawn, _, s.os⟩) rfl (by show callerA.depth + 1 ≤ 480; decide) (by show callerA.units + 3 ≤ 6800; decide) KXh hTh a its hla ca cb hca cs hcab.symm hrow hz BB tb ?_ ?_ ?_ ?_ fun h' tk' st => ?_))
            · intro x hx; rw [hBB.eq] at hx; exact bl_sp x hx
            · rw [hBB.eq]; decide
            · exact stripL_congr fun c hc => by rw [hBB.eq]; exact sg_sp c (hcs c (by rw [hcab]; simp [hc]))
            · exact stripL_congr fun c hc => by rw [hBB.eq]; exact sg_sp c (hcs c (by rw [hcab]; simp [hc]))
            · show wpAny _ _ (truthy (.bool true)) _ _ _
              exact wpAny_truthy_bool ⟨rfl, _, _, rfl, F.keeps st, N.grown st⟩
          · refine wpC_call (right_none (A := callerA.deeper _) (base := s.heap) (outer := [_]) (s := ⟨h, s.gens, s.drawn, _, s.os⟩) rfl (by show callerA.depth + 1 ≤ 480; decide) (by show callerA.units + 3 ≤ 6800; decide) (push_env _ (below_caller s.heap) F rfl rfl) KX TT (dicts_push _ F rfl ktsDicts_nil) a its hla cs h61 hrow hz BB tb fun h' tk' Sl => ?_)
            obtain ⟨F', N'⟩ := reground0 _ rfl F N Sl
            show wpAny _ _ (truthy (.bool true)) _ _ _
            exact wpAny_truthy_bool ⟨rfl, _, _, rfl, F', N'⟩
        · try dsimp only
          k_steps
          rename Fr _ _ _ _ => Fz
          exact hR _ _ Fz.keep
    · refine LCt.CompRestT.succ ?_
      intro v I oI C oC D7 m₂ h7 tk7 E' hP hC hx F7 N7 off7 ne7
      have hi2 : i < sig.length := by omega
      obtain ⟨tv, hv⟩ := strsAre_get hi i (ch sig[i]) (by simp [hi2])
      obtain rfl : v = .str (ch sig[i]) tv := by
        rw [List.getElem?_toArray, hv] at hP
        exact (Option.some.inj hP).symm
      simp only [LCg.Off3, and_true] at off7
      obtain ⟨⟨_, _, _⟩, _, _, _⟩ := off7
      clear F6 N6'
      k_steps
      · rename_i hy
        refine ih _ ?_
        rw [ch_ne] at hy
        rw [List.take_add_one, List.getElem?_eq_getElem hi2, Option.toList_some, List.filter_append, List.map_append, List.filter_cons_of_pos (p := fun c => c != 61) hy]
        exact strsAre_append hj (.cons _ _ .nil)
      · rename_i hy
        refine ih _ ?_
        rw [ch_ne] at hy
        rw [List.take_add_one, List.getElem?_eq_getElem hi2, Option.toList_some, List.filter_append, List.map_append, List.filter_cons_of_neg (p := fun c => c != 61) (by rw [hy]; decide)]
        simpa using hj
  · refine LCg.CompRest.succ ?_
    intro v I oI C oC D5 m₂ h6 tk6 E' hP hC hx F6 N6 off6 ne6
    have hi2 : i < xs.length := by omega
    obtain ⟨tv, hv⟩ := hI3.get i xs[i] (by simp [hi2])
    generalize hc : xs[i] = c at hv
    obtain rfl : v = .int c tv := by
      rw [List.getElem?_toArray, hv] at hP
      exact (Option.some.inj hP).symm
    simp only [LCg.Off3, and_true] at off6
    obtain ⟨⟨_, _, _⟩, ⟨_, _, _⟩, ⟨_, _, _⟩, _, _, _⟩ := off6
    clear F5 N5
    k_steps
    refine wpAny_call (signs_call (A := callerA.deeper _) (s := ⟨_, s.gens, s.drawn, _, s.os⟩) rfl (by show callerA.depth + 1 ≤ 480; decide) (KX.keeps F6.keep) (T.keeps F6.keep) BB hBB tb fun t7 h7 tk7 st7 => ?_)
    have F7 := F6.keeps st7
    have N7 := N6.grown st7
    clear F6 N6 st7
    try dsimp only
    k_steps
    refine ih _ ?_
    rw [List.take_add_one, List.getElem?_eq_getElem hi2, hc]
    simp only [Option.toList_some, List.map_append, List.map_cons, List.map_nil]
    refine strsAre_append hi ?_
    rw [sg_item]
    exact .cons _ _ .nil
end Mine
end

section
open PySem PySem.W PySem.W.X PySem.Calls PyProof.Rows
set_option maxRecDepth 100000
set_option maxHeartbeats 8000000
namespace Mine
theorem loose_eq : looseW Mine.hd.view_39 [Str.ofString "_tuplegetter", Str.ofString "Pair"] = [Str.ofString "_tuplegetter", Str.ofString "Pair"] := by decide +kernel
theorem law_holds : PySem.Challenge.rw_il0025_01.Holds := Mine.hd (by
  k_fill
  intro w s₀ s₁ mg mb G Y fa o pm cd doc dV kV ho hd hcd hD hmg hg args vals as hpre hlay hrd hwl hlo
  have KX := kIn_of Y
  refine Ground.open G ?_
  intro T B D TE TW
  wrow_args hpre hlay hrd hwl hlo
  x_fa T KX hmg
  rename IntsAre _ _ => hI
  rename Heap.IsList _ _ _ => hl
  rename ¬ ((_ : Int) < _) => hlen
  clear hmg hD hcd hd B D TE TW
  rw [loose_eq] at T
  refine law_walk (mean := ExcName.means s₀.heap) (mg := mg) (mb := mb) KX T _ _ _ hl hI (by omega) fun h' tk st => ?_
  refine ⟨.inl ⟨.bool true, .bool true, [], rfl, ?_, .bool true, ?_, unshared_nil⟩, .of_keep st, rfl, .of_eq hg⟩
  · exact raisesW_false (by wrow_none_raised)
  · exact postW_of rfl rfl (by first | decide | simp [same] | (unfold same; rfl)))
end Mine
end
end
theorem PySem.Challenge.cw_il0025_01_holds : PySem.Challenge.rw_il0025_01.Holds :=
  Mine.law_holds
