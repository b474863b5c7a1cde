import PyProof.Rows.All
import Wide.All
import Wide.FinOn
import KE.BitLaws
import KE.IntText
import KE.IntTextLaws
import KE.KTree
import KE.KCat
import KE.KDeep
import KE.KLam
import KE.KIntText
import KE.KSorted
import KE.KNestM
import KE.KxPercent
import KE.KTryDeepN
import KE.KxStill
import PySem.Challenge.RW_bw0032_01
open PySem PySem.W PyProof.Rows PySem.Calls
set_option Elab.async false
set_option linter.unusedVariables false
set_option maxRecDepth 100000
set_option maxHeartbeats 8000000
namespace Mine
section


/-- a run never takes tokens back -/
theorem runs_toks {M : Model} {Γ : Ctx} {p : Pos} {t : Sem Fin} {fs : List Frame} {s s' : Shared} {e : End} (h : Runs M Γ p t fs s e s') : s.toks ≤ s'.toks := by
  induction h
  all_goals (try simp only [Shared.setGen] at *)
  all_goals (try omega)
open Sem (wp)
theorem wp_toks {α : Type} {M : Model} {Γ : Ctx} {Q : α → Pos → Shared → Prop} {E : Value → Pos → Shared → Prop} {n : Nat} (t : Sem α) : ∀ p s, n ≤ s.toks → wp M Γ t Q E p s → wp M Γ t (fun a p s' => Q a p s' ∧ n ≤ s'.toks) (fun a p s' => E a p s' ∧ n ≤ s'.toks) p s := by
  induction t with
  | pure a => intro p s hn h; rw [wp] at h ⊢; exact ⟨h, hn⟩
  | raise e => intro p s hn h; rw [wp] at h ⊢; exact ⟨h, hn⟩
  | unsupported _ => intro p s hn h; rw [wp] at h; exact h.elim
  | finish _ => intro p s hn h; rw [wp] at h; exact h.elim
  | rule _ k ih => intro p s hn h; rw [wp] at h ⊢; exact ih _ _ _ hn h
  | «at» _ k ih => intro p s hn h; rw [wp] at h ⊢; exact ih _ _ _ hn h
  | load a _ k ih => intro p s hn h; rw [wp] at h ⊢; obtain ⟨o, h1, h2⟩ := h; exact ⟨o, h1, ih _ _ _ hn h2⟩
  | update a _ f k ih => intro p s hn h; rw [wp] at h ⊢; obtain ⟨h1, h2⟩ := h; exact ⟨h1, ih _ _ _ hn h2⟩
  | loadIfAlive a k ih => intro p s hn h; rw [wp] at h ⊢; exact ih _ _ _ hn h
  | point _ k ih => intro p s hn h; rw [wp] at h ⊢; exact ih _ _ _ hn h
  | register _ _ ih => intro p s hn h; rw [wp] at h; exact h.elim
  | alloc o k ih => intro p s hn h; rw [wp] at h ⊢; exact ih _ _ _ hn h
  | fresh k ih => intro p s hn h; rw [wp] at h ⊢; exact ih _ _ _ (by show n ≤ s.toks + 1; omega) h
  | ask k ih => intro p s hn h; rw [wp] at h ⊢; exact ih _ _ _ hn h
  | choose src m k ih => intro p s hn h; rw [wp] at h ⊢; exact ⟨h.1, ih _ _ _ hn h.2⟩
  | os q _ k ih => intro p s hn h; rw [wp] at h ⊢; exact ih _ _ _ hn h
  | call c hh _ _ k ih => intro p s hn h; rw [wp] at h ⊢; obtain ⟨r, s', h1, h2⟩ := h; exact ⟨r, s', h1, ih _ _ _ (Nat.le_trans hn (runs_toks h1)) h2⟩
  | handled own k ih => intro p s hn h; rw [wp] at h ⊢; exact ih _ _ _ hn h
  | genState g k ih => intro p s hn h; rw [wp] at h ⊢; obtain ⟨st, h1, h2⟩ := h; exact ⟨st, h1, ih _ _ _ hn h2⟩
  | newGen c k ih => intro p s hn h; rw [wp] at h ⊢; exact ih _ _ _ hn h
  | resume g r _ k ih =>
    intro p s hn h; rw [wp] at h ⊢
    obtain ⟨res, s', h1, h2⟩ := h
    refine ⟨res, s', h1, ih _ _ _ ?_ h2⟩
    unfold Wakes at h1
    split at h1
    · exact h1.elim
    · split at h1
      · obtain ⟨e₁, s₁, q1, _, _, rfl⟩ := h1
        have := runs_toks q1
        simp only [Shared.setGen] at *
        omega
      · rw [h1.2]; exact hn
      · rw [h1.2]; exact hn
    · obtain ⟨e₁, s₁, q1, _, _, rfl⟩ := h1
      have := runs_toks q1
      simp only [Shared.setGen] at *
      omega
    · rw [h1.2]; exact hn
    · rw [h1.2]; exact hn
  | yield _ _ _ _ ih => intro p s hn h; rw [wp] at h; exact h.elim
  | stack k ih => intro p s hn h; rw [wp] at h ⊢; exact ih _ _ _ hn h
  | fork _ _ ih => intro p s hn h; rw [wp] at h; exact h.elim
  | thread k ih => intro p s hn h; rw [wp] at h ⊢; exact ih _ _ _ hn h
  | «await» _ _ ih => intro p s hn h; rw [wp] at h; exact h.elim
theorem wpAny_toks {α : Type} {M : Model} {A : Around} {t : Sem α} {Q : α → Shared → Prop} {E : Value → Shared → Prop} {s : Shared} (h : wpAny M A t Q E s) :
    wpAny M A t (fun a s' => Q a s' ∧ s.toks ≤ s'.toks) (fun a s' => E a s' ∧ s.toks ≤ s'.toks) s := fun Γ p hΓ => wp_toks t p s (Nat.le_refl _) (h Γ p hΓ)

end
section


/-- contexts under the claim's caller -/
def Called (Γ : Ctx) : Prop := (Γ.code.isCaller || Γ.below.any fun x => x.1.isCaller) = true
def wpC {α : Type} (M : Model) (A : Around) (t : Sem α) (Q : α → Shared → Prop) (E : Value → Shared → Prop) (s : Shared) : Prop :=
  ∀ Γ p, Γ.In A → Called Γ → Sem.wp M Γ t (fun a _ s' => Q a s') (fun e _ s' => E e s') p s
theorem wpC_of {α : Type} {M : Model} {A : Around} {t : Sem α} {Q : α → Shared → Prop} {E : Value → Shared → Prop} {s : Shared} (h : wpAny M A t Q E s) : wpC M A t Q E s := fun Γ p a _ => h Γ p a
abbrev topCtx : Ctx := ⟨.builtin "claim.caller" {}, none, none, [], none⟩
theorem called_top : Called topCtx := by unfold Called; decide +kernel
/-- the thread that the claim speaks of ends as the tree under its caller does -/
theorem ends_called {prog : Program} {w : World} {t : Sem Fin} {s : Shared} {R : Result → Shared → Prop} (hreg : s.asleep)
    (h : wpC (model prog w) callerA t (fun fin s' => ∃ f, fin = .done f ∧ R (.ok f) s' ∧ AllBare s'.gens) (fun e s' => R (.error e) s' ∧ AllBare s'.gens) s) :
    ∃ n r s' s'', runN (denote table) prog w n s ⟨t, .builtin "claim.caller" {}, default, []⟩ = .halted (outcomeOf r) s' ∧
      schedN (denote table) prog w n (.single s ⟨t, .builtin "claim.caller" {}, default, []⟩) = .halted (outcomeOf r) s' ∧ s'.forget = s''.forget ∧ R r s'' := by
  have h0 := h topCtx default caller_in called_top
  have h1 : Sem.wp (model prog w) topCtx t (Sem.finPost (model prog w) topCtx fun r s' => R r s' ∧ leftWithCleanup s'.gens = false) (fun e _ s' => R (.error e) s' ∧ leftWithCleanup s'.gens = false) default s :=
    Sem.wp_mono _ _ t (fun fin p' s' ⟨f, e, a, b⟩ => by subst e; exact ⟨a, leftWithCleanup_false_of_bare b⟩) (fun e p' s' ⟨a, b⟩ => ⟨a, leftWithCleanup_false_of_bare b⟩) _ _ h0
  obtain ⟨n, r, a, b, x1, x2, x3, x4⟩ := wp_halts_full (M := model prog w) (R := R) hreg h1
  exact ⟨n, r, b, a, x2, x1, x3, x4⟩
abbrev WalkC (q : Program) (loose : List Str) (XP : (Str → Option Value) → Heap → Prop) (YP : World → Heap → Prop) (r : RowW) (d : DefRec) (kwd : List (Str × Expr)) : Prop :=
  ∀ (w : World) (s₀ s₁ : Shared) (mg mb : Str → Option Value), Ground q loose r.records XP w s₀ mg mb s₁.heap → YP w s₁.heap → ∀ (a : Addr) (o : Obj) (pm cd doc dV kV : Value), s₁.heap.get? a = some o →
    o.data = .func { docDef d.name d.params d.body d.scope pm cd doc with defaults := dV, kwdefaults := kV } → s₁.heap.CodeRec cd d.name → Dflts mg s₁.heap d.params kwd dV kV → mg d.name = some (.ref a) → s₁.gens = #[] →
    ∀ (args : List WData) (vals : List Value) (as : List Addr), r.claim.pre args = true → WData.layableAll args = true → ReadsAllW r.records (classAt s₀.heap) s₁.heap vals args as → WellAll w.params s₁.heap vals args → (∀ a ∈ as, (a == sysModules) = false) →
      wpC (model r.prog w) callerA (PySem.call (.ref a) vals) (fun v s' => GoodWG r.claim (classAt s₀.heap) (ExcName.means s₀.heap) args s₁ (.ok (.ret v)) s')
        (fun e s' => GoodWG r.claim (classAt s₀.heap) (ExcName.means s₀.heap) args s₁ (.error e) s') s₁
theorem wpC_stub {prog : Program} {w : World} {A : Around} {name : Str} {vs : List Value} {s : Shared} {mg : Str → Option Value} {f : Value} {Q : Value → Shared → Prop} {Qf : Fin → Shared → Prop} {E : Value → Shared → Prop}
    (hg : s.heap.Ns mainGlobals mg) (hf : mg name = some f) (h : wpC (model prog w) A (PySem.call f vs) Q E s) (k : ∀ v s', Q v s' → Qf (.done (.ret v)) s') :
    wpC (model prog w) A (do match ← nsGet mainNs name with | some f => do ret (← PySem.call f vs) | none => unsupported "claim.caller:no-such-global") Qf E s := fun Γ p hΓ hc => by
  have h1 := h Γ
  have h2 : wpAny (model prog w) A (nsGet mainNs name) (fun v s' => v = some f ∧ s' = s) E s := wpAny_nsGet hg ⟨hf, rfl⟩
  refine (Sem.wp_bind _ _ _ _ _ _ _ _).mpr (Sem.wp_mono _ _ _ (fun v p' s' e => ?_) (fun _ _ _ x => x) _ _ (h2 Γ p hΓ))
  obtain ⟨rfl, rfl⟩ := e
  refine (Sem.wp_bind _ _ _ _ _ _ _ _).mpr (Sem.wp_mono _ _ _ (fun v p'' s'' e => ?_) (fun _ _ _ x => x) _ _ (h1 p' hΓ hc))
  exact k _ _ e
theorem from_called {c : ClaimW} {tree : List Value → Sem Fin} {w : World} {s : Shared} {free : Addr → Prop} {gens : Prop} {kept : Heap → Prop} (hz : s.asleep) (hgens : s.gens = #[])
    (H : ∀ args, c.pre args = true → WData.layableAll args = true → ∀ ord : List DictEntry → List DictEntry, (∀ l, (ord l).Perm l) →
      ∃ vs s₁, layAllW c.records (classAt s.heap) w.params ord args s = some (vs, s₁) ∧
        wpC (model c.prog w) callerA (tree vs) (fun fin s' => ∃ f, fin = .done f ∧ (c.Ends s args vs s₁ (.ok f) s' ∧ s'.os = s.os ∧ kept s'.heap) ∧ AllBare s'.gens)
          (fun e s' => (c.Ends s args vs s₁ (.error e) s' ∧ s'.os = s.os ∧ kept s'.heap) ∧ AllBare s'.gens) s₁) :
    c.CallFrom (fun vs => ⟨tree vs, .builtin "claim.caller" {}, default, []⟩) w free gens kept s := fun args hpre hlay ord hord => by
  obtain ⟨vs, s₁, hlaid, hc⟩ := H args hpre hlay ord hord
  obtain ⟨r1, r2, r3, r4⟩ := layAllW_rest _ _ _ hlaid
  obtain ⟨k, r, s', s'', hrun, hsched, hfo, q1, q2, q3⟩ := ends_called (R := fun r s' => c.Ends s args vs s₁ r s' ∧ s'.os = s.os ∧ kept s'.heap) (Shared.asleep_of_life r4 hz) hc
  obtain ⟨eh, -, -, eo, -⟩ := Shared.forget_eq hfo
  have q1' := q1.congr eh
  rw [← eh] at q3
  rw [← eo] at q2
  refine ⟨vs, s₁, hlaid, k, _, s', hsched, ?_, fun _ i x hx => ?_, q3, ?_, Shared.rest_eq q2⟩
  · rcases q1' with ⟨v, rfl, d1, d2, d3, d4, d5⟩ | ⟨e, ob, cls, rfl, d1, d2, d3, d4, d5⟩
    · exact .inl ⟨v, rfl, d1, d2, d3, fun b o y _ => d4 b o y, d5⟩
    · exact .inr ⟨e, ob, cls, rfl, d1, d2, d3, d4, fun b o y _ => d5 b o y⟩
  · rw [hgens] at hx; simp at hx
  · rw [(runN_life _ _ _ hrun).trans r4]
/-- the head for walks under the caller -/
theorem PySem.W.holds_open {r : OpenRow} {q : Program} {loose : List Str} {Xt : Shared → Bool} {XP : (Str → Option Value) → Heap → Prop} {α : Type} {Yf : Shared → α} {Ya : World → α} {YP : World → Heap → Prop} {d : DefRec} {kwd : List (Str × Expr)} {N : Nat}
    (left : LeftO r.prog q loose Xt Yf Ya N) (hY : ∀ w s, Yf s = Ya w → YP w s.heap) (hYk : ∀ w h h', YP w h → (∀ b o, h.get? b = some o → h'.get? b = some o) → YP w h')
    (hX : ∀ s, Xt s = true → XP (s.heap.nsMap mainGlobals) s.heap) (hXk : ∀ mg h h', XP mg h → (∀ b o, h.get? b = some o → h'.get? b = some o) → XP mg h')
    (hdef : defOf q r.name = some (d, kwd)) (hp : r.prog.theDef r.name = some (d.params, d.body, d.scope)) (hk : kwWritten? d.params.kwonlyargs d.params.kw_defaults = some kwd) (hRf : ∀ s, Xt s = true → RecFacts r.records s.heap) (hwr : (!r.writes || r.records.isEmpty) = true)
    (k1 : r.wellSaid = true) (ok : (chainsOk q && opensWell r.prog && (frees r.toRowW && r.within.isEmpty)) = true) (hb : r.prog.bare) (hw : r.toRowW.promised)
    (call : WalkC q loose XP YP r.toRowW d kwd) : r.Holds := by
  simp only [Bool.and_eq_true] at ok
  obtain ⟨⟨hch, o1⟩, k5, k6⟩ := ok
  obtain ⟨hsame, hu, ha, hap, hm⟩ := frees_parts k5
  refine ⟨k1, hw, ⟨hb, o1, by show r.makers.map _ = []; rw [hm]; rfl⟩, hw.witness, fun w => ⟨(left.behind hX hch w).1, fun s' hs' => ?_⟩⟩
  obtain ⟨s₀, hf, hg0, s, hT, hz, hgens, hg, G00, y⟩ := (left.behind (XP := fun mg h => XP mg h ∧ RecFacts r.records h) (fun s hs => ⟨hX s hs, hRf s hs⟩) hch w).2 s' hs'
  have G0 : Ground q loose [] XP w s (s.heap.nsMap mainGlobals) (s.heap.nsMap builtinsNs) s.heap := ⟨G00.T, G00.B, G00.D, G00.TE, G00.TD, G00.W, G00.X.1, G00.cls, G00.has, G00.apart, G00.once, G00.K⟩
  have RF := G00.X.2
  have hT' := hT
  refine ⟨s₀, hf, hg0, s, hT, fun n hn => ?_, RF.1, RF.2.1, ?_⟩
  · obtain rfl : n = r.name := by split at hn <;> simp_all
    exact pinned_of_view hg G0 hdef hp hk
  have hgens : s.gens = #[] := Array.eq_empty_of_size_eq_zero (beq_iff_eq.mp hgens)
  have G : Ground q loose r.records XP w s _ _ s.heap := RF.ground G0
  refine from_called (c := r.toRowW.claim) hz hgens fun args hpre hlay ord hord => ?_
  obtain ⟨⟨vs, s₁⟩, hlaid⟩ := Option.isSome_iff_exists.mp (layAllW_isSome (P := w.params) (ord := ord) G.has args r.args s (pre_splitW hpre).1)
  have keeps := layAllW_keeps _ _ _ hlaid
  obtain ⟨r1, r2, r3, r4⟩ := layAllW_rest _ _ _ hlaid
  obtain ⟨as, hrd, hin, hold⟩ := reads_layAllW hord _ _ _ hlaid hlay s₁.heap (fun _ _ e => e)
  have L : Laid r.records w s s₁ args vs as := ⟨⟨ord, hord, hlaid⟩, hrd, hin, hold, keeps, r1.trans hgens, r3⟩
  have G₁ := G.keeps hXk keeps
  obtain ⟨a, o, pm, cd, doc, dV, kV, h1, h2, h3, h4, h5⟩ := G₁.fn hdef
  have hi := ident_freeW hu ha hap
  have hwi : r.toRowW.claim.within = [] := List.isEmpty_iff.mp k6
  have wk := call w s s₁ _ _ G₁ (hYk _ _ _ (hY w s y) keeps) a o pm cd doc dV kV h2 h3 h4 h5 (defOf_name hdef ▸ h1) L.gens args vs as hpre hlay L.reads L.well (L.low G.low)
  have fin : ∀ res s', GoodWG r.toRowW.claim (classAt s.heap) (ExcName.means s.heap) args s₁ res s' → (r.toRowW.claim.Ends s args vs s₁ res s' ∧ s'.os = s.os ∧ (r.writes = true → namesKept r.prog r.keeps s.heap s'.heap ∧ ∀ x ∈ r.toRowW.claim.records, ∀ a, classAt s.heap x.1 = some a → recordClass s'.heap a x.1 (x.2.map (·.1)) = true)) ∧ AllBare s'.gens := fun res s' g => by
    have z := g.laid (c := r.toRowW.claim) hsame hwi hi L
    exact ⟨⟨z.1, z.2.1, fun q => ⟨namesKept_of hT' hg r.keeps keeps g.2.1.old, noTable hwr q⟩⟩, z.2.2⟩
  refine ⟨vs, s₁, hlaid, ?_⟩
  refine wpC_stub (E := fun e s' => (r.toRowW.claim.Ends s args vs s₁ (.error e) s' ∧ s'.os = s.os ∧ _) ∧ AllBare s'.gens) G₁.T.g h1 (Q := fun v s' => GoodWG r.toRowW.claim (classAt s.heap) (ExcName.means s.heap) args s₁ (.ok (.ret v)) s') ?_ fun v s' g => ⟨_, rfl, fin _ _ g⟩
  exact fun Γ p hΓ hc => Sem.wp_mono _ _ _ (fun _ _ _ x => x) (fun _ _ _ x => fin _ _ x) _ _ (wk Γ p hΓ hc)

end

open_top hd for PySem.Challenge.rw_bw0032_01

section


/-! the rules under the caller -/
theorem called_enter {Γ : Ctx} {c : Code} {h : Option Value} {p : Pos} (x : Called Γ) : Called (Γ.enter c h p) := by
  unfold Called at *
  simp only [Ctx.enter, List.any_cons]
  rw [x, Bool.or_true]
theorem called_again {Γ : Ctx} {c : Code} (h : Γ.below.any (fun x => x.1.isCaller) = true) : Called (Γ.goto c) := by
  unfold Called
  simp only [Ctx.goto]
  rw [h, Bool.or_true]
section
variable {α β : Type} {M : Model} {A : Around} {E : Value → Shared → Prop} {s : Shared}
theorem wpC_mono {t : Sem α} {Q Q' : α → Shared → Prop} {E' : Value → Shared → Prop} (h : wpC M A t Q E s) (hQ : ∀ a s, Q a s → Q' a s) (hE : ∀ e s, E e s → E' e s) : wpC M A t Q' E' s :=
  fun Γ p hΓ hc => Sem.wp_mono M Γ t (fun a _ s x => hQ a s x) (fun e _ s x => hE e s x) _ _ (h Γ p hΓ hc)
theorem wpC_bind {m : Sem α} {k : α → Sem β} {Q : β → Shared → Prop} (h : wpC M A m (fun a s' => wpC M A (k a) Q E s') E s) : wpC M A (m >>= k) Q E s :=
  fun Γ p hΓ hc => by
    rw [Sem.wp_bind']
    exact Sem.wp_mono M Γ m (fun a p' s' x => x Γ p' hΓ hc) (fun _ _ _ x => x) _ _ (h Γ p hΓ hc)
theorem wpC_map {m : Sem α} {k : α → β} {Q : β → Shared → Prop} (h : wpC M A m (fun a s' => Q (k a) s') E s) : wpC M A (k <$> m) Q E s := fun Γ p hΓ hc => by
  rw [Sem.wp_map]; exact h Γ p hΓ hc
theorem wpC_pure {a : α} {Q : α → Shared → Prop} (h : Q a s) : wpC M A (pure a) Q E s := wpC_of (wpAny_pure h)
theorem wpC_holding {vs : List Value} {m : Sem α} {Q : α → Shared → Prop} (h : wpC M A m Q E s) : wpC M A (holding vs m) Q E s := fun Γ p hΓ hc => by
  rw [Sem.wp_holding]; exact h Γ p hΓ hc
theorem wpC_keep {vs : List Value} {m : Sem α} {Q : α → Shared → Prop} (h : wpC M A m Q E s) : wpC M A (m.keep vs) Q E s := fun Γ p hΓ hc => by
  rw [Sem.wp_keep]; exact h Γ p hΓ hc
theorem wpC_operate {vs : List Value} {m : Sem Value} {Q : Value → Shared → Prop} (h : wpC M A m Q E s) : wpC M A (operate vs m) Q E s := fun Γ p hΓ hc => by
  rw [Sem.wp_operate]; exact h Γ p hΓ hc
theorem wpC_bindName {env : Env} {x : Str} {v : Value} {Q : Unit → Shared → Prop} (h : wpC M A (storeName env x v) Q E s) : wpC M A (bindName env x v) Q E s := fun Γ p hΓ hc => by
  rw [Sem.wp_bindName]; exact h Γ p hΓ hc
theorem wpC_onRaise {m : Sem α} {k : Value → Sem Unit} {Q : α → Shared → Prop} (h : wpC M A m Q (fun e s' => wpC M A (k e) (fun _ s'' => E e s'') E s') s) : wpC M A (m.onRaise k) Q E s := fun Γ p hΓ hc => by
  rw [Sem.wp_onRaise]
  exact Sem.wp_mono M Γ m (fun _ _ _ x => x) (fun e p' s' x => x Γ p' hΓ hc) _ _ (h Γ p hΓ hc)
theorem wpC_tryCatch {m : Sem α} {k : Value → Sem α} {Q : α → Shared → Prop} (h : wpC M A m Q (fun e s' => wpC M A (k e) Q E s') s) : wpC M A (m.tryCatch k) Q E s := fun Γ p hΓ hc => by
  rw [Sem.wp_tryCatch]
  exact Sem.wp_mono M Γ m (fun _ _ _ x => x) (fun e p' s' x => x Γ p' hΓ hc) _ _ (h Γ p hΓ hc)
theorem wpC_stand {pos : Pos} {k : Unit → Sem β} {Q : β → Shared → Prop} (h : wpC M A (k ()) Q E s) : wpC M A (standAt pos >>= k) Q E s := wpC_bind (wpC_of (wpAny_standAt h))
theorem wpC_point {Q : Unit → Shared → Prop} (h : Q () s) : wpC M A point Q E s := wpC_of (wpAny_point h)
theorem wpC_toks {t : Sem α} {Q : α → Shared → Prop} (h : wpC M A t Q E s) : wpC M A t (fun a s' => Q a s' ∧ s.toks ≤ s'.toks) (fun a s' => E a s' ∧ s.toks ≤ s'.toks) s := fun Γ p hΓ hc => wp_toks t p s (Nat.le_refl _) (h Γ p hΓ hc)
theorem wpC_ite {c : Prop} [Decidable c] {a b : Sem α} {Q : α → Shared → Prop} (h1 : c → wpC M A a Q E s) (h2 : ¬ c → wpC M A b Q E s) : wpC M A (if c then a else b) Q E s := by
  split
  · exact h1 ‹_›
  · exact h2 ‹_›
theorem wpC_not {v : Value} {Q : Value → Shared → Prop} (h : wpC M A (truthy v) (fun c s' => Q (.bool (!c)) s') E s) : wpC M A (unaryOp .Not v) Q E s := by
  show wpC M A (holding [v] (do pure (Value.bool (!(← truthy v))))) Q E s
  exact wpC_holding (wpC_bind (wpC_mono h (fun c s' q => wpC_pure q) fun _ _ q => q))

/-- codes -/
def codeC (M : Model) (A : Around) (c : Code) (R : Result → Shared → Prop) (s : Shared) : Prop :=
  ∀ Γ p, Γ.code = c → Γ.Below A → Γ.below.any (fun x => x.1.isCaller) = true → wpCode M Γ R p s
theorem codeC_tree {c : Code} {R : Result → Shared → Prop}
    (h : wpC M (A.under c) (M.den c) (fun fin s' => match fin with | .done f => R (.ok f) s' | .again c' => c'.quiet = true ∧ codeC M A c' R s') (fun e s' => R (.error e) s') s) : codeC M A c R s := fun Γ p hc hΓ hb => by
  have hcall : Called Γ := by unfold Called; rw [hb, Bool.or_true]
  rw [wpCode_iff_wp, hc]
  refine Sem.wp_mono M Γ _ (fun fin p' s' h' => ?_) (fun _ _ _ x => x) p s (h Γ p (hc ▸ hΓ.in) hcall)
  cases fin with
  | done f => exact h'
  | again c' => exact ⟨h'.1, h'.2 (Γ.goto c') p' rfl (hΓ.goto c') hb⟩
theorem wpC_call {f : Value} {pos : List Value} {kw : List (Str × Value)} {Q : Value → Shared → Prop}
    (hc : codeC M A (.call f ⟨pos, kw⟩) (fun r s' => match r with | .ok (.ret v) => Q v s' | .ok _ => False | .error e => E e s') s) : wpC M A (call f pos kw) Q E s := fun Γ p hΓ hcl => by
  show Sem.wp M Γ (runValue (.call f ⟨pos, kw⟩)) _ _ p s
  rw [Sem.wp_runValue]
  refine hc _ p rfl (hΓ.enter _ none p (by intro x; cases x)) ?_
  simp only [Ctx.enter, List.any_cons]
  exact hcl
end
section
variable {prog : Program} {w : World} {A : Around} {E : Value → Shared → Prop} {s : Shared} {R : Result → Shared → Prop}
theorem codeC_func {body : List Stmt} {env : Env}
    (h : wpC (model prog w) (A.deeper env) (execs body env) (fun f s' => R (.ok (.ret (match f with | .ret v => v | _ => .none))) s')
      (fun e s' => wpC (model prog w) (A.deeper env) (leaving env e) (fun _ s'' => R (.error e) s'') (fun e' s'' => R (.error e') s'') s') s) : codeC (model prog w) A (.func body env) R s := by
  refine codeC_tree ?_
  show wpC _ (A.deeper env) (do point; match ← (execs body env).onRaise (leaving env) with | .ret v => ret v | _ => ret .none) _ _ s
  refine wpC_bind (wpC_point (wpC_bind (wpC_onRaise (wpC_mono h (fun f s' h' => ?_) fun _ _ x => x))))
  cases f <;> exact wpC_pure h'
theorem codeC_function {a : Addr} {args : Args} {o : Obj} {fd : FuncData} {body : List Stmt} {binds : List (Str × Value)} (hroom : A.depth < recursionLimit) (ho : s.heap.get? a = some o)
    (hd' : o.data = .func fd) (hco : fd.scope.isCoroutine = false) (hgen : fd.scope.isGenerator = false) (hbody : fd.body = .stmts body) (hcd : s.heap.CodeRec fd.code fd.qualname)
    (hb : BindsTo s fd args binds) (hn : wpAny (model prog w) A.in1 (newFunctionEnv fd.scope fd.globals fd.closure binds (fd.qualname ++ ".<locals>.") (some a) fd.code none fd.builtins) (fun env s₂ => s₂.heap.NoLimit ∧ codeC (model prog w) A (.func body env) R s₂) (fun e s' => R (.error e) s') s) : codeC (model prog w) A (.call (.ref a) args) R s := by
  refine codeC_tree ?_
  show wpC _ A.in1 (callAny (.ref a) args) _ _ s
  refine wpC_of ?_
  simp only [callAny]
  refine wpAny_bind (wpAny_load ho ?_)
  obtain ⟨c, oc, vs, tq, hc, hoc, hdc, hq⟩ := hcd
  simp only [hd', callFunction, hco, hgen, hbody, hc]
  rw [hc] at hn
  refine wpAny_bind (m := field (.ref c) 1) (wpAny_field hoc hdc hq (wpAny_bind (wpAny_pure ?_)))
  refine wpAny_bind (hb _ _ _ _ (wpAny_bind (wpAny_mono hn (fun env s' q => ?_) fun _ _ x => x)))
  exact wpAny_bind (wpAny_enterFrame q.1 hroom (wpAny_pure ⟨rfl, q.2⟩))
end
section
variable {M : Model} {A : Around} {E : Value → Shared → Prop} {s : Shared}
theorem evalArgs_C {f : Value} {x : Sem Value} {rest : List (Bool × Sem Value)} {Q : Args → Shared → Prop} (h : wpC M A (spliced ((false, x) :: rest)) (fun vs s' => Q ⟨vs, []⟩ s') E s) :
    wpC M A (evalArgs f true ((false, x) :: rest) []) Q E s := by
  unfold evalArgs
  show wpC M A (spliced ((false, x) :: rest) >>= _) Q E s
  refine wpC_bind (wpC_mono h (fun vs s' h' => wpC_holding ?_) fun _ _ x => x)
  exact wpC_bind (wpC_pure (wpC_bind (wpC_pure (wpC_pure h'))))
theorem callWith_fixC {f : Value} {pos : Pos} {first : List Value} {args : List (Bool × Sem Value)} {Q : Value → Shared → Prop} (hf : (∃ id, f = .builtin id) ∨ ∃ T, f = .type T) (hplain : args.any (·.1) = false)
    (h : wpC M A (evalArgs f true args []) (fun a s₁ => wpC M A (call f (first ++ a.pos) a.kw) Q E s₁) E s) : wpC M A (callWith pos f first args []) Q E s := by
  unfold callWith
  refine wpC_bind (wpC_holding (wpC_mono h (fun a s₁ h₁ => wpC_stand ?_) fun _ _ x => x))
  simp only [hplain, List.any_nil, Bool.or_false]
  rcases hf with ⟨id, rfl⟩ | ⟨T, rfl⟩
  all_goals
    refine wpC_bind (wpC_pure ?_)
    exact wpC_bind (wpC_mono h₁ (fun r s₂ hr => wpC_bind (wpC_holding (wpC_point (wpC_pure hr)))) fun _ _ x => x)
theorem callWith_K {K : Frag} {f : Value} {pos : Pos} {first : List Value} {args : List (Bool × Sem Value)} {Q : Value → Shared → Prop} (hk : keepIn K f = true) (hplain : args.any (·.1) = false)
    (h : wpC M A (evalArgs f true args []) (fun a s₁ => K.In s₁.heap ∧ wpC M A (call f (first ++ a.pos) a.kw) Q E s₁) E s) : wpC M A (callWith pos f first args []) Q E s := by
  unfold callWith
  refine wpC_bind (wpC_holding (wpC_mono h (fun a s₁ h₁ => wpC_stand ?_) fun _ _ x => x))
  obtain ⟨k, hk', L⟩ := keeps_K (M := M) hk _ h₁.1
  simp only [hplain, List.any_nil, Bool.or_false]
  refine wpC_bind (wpC_of (L.here ?_))
  have tail : ∀ {t : Sem Value}, wpC M A t Q E s₁ → wpC M A (t >>= fun r => holding [r] point >>= fun _ => pure r) Q E s₁ :=
    fun ht => wpC_bind (wpC_mono ht (fun r s₂ hr => wpC_bind (wpC_holding (wpC_point (wpC_pure hr)))) fun _ _ x => x)
  have marked (mk : Value) : wpC M A (callMarked mk f (first ++ a.pos) a.kw) Q E s₁ := by unfold callMarked; exact wpC_keep h₁.2
  rcases hk' with rfl | rfl | rfl <;> dsimp only <;> first | exact tail h₁.2 | (split <;> first | exact tail h₁.2 | exact tail (marked _))
end
section
variable {prog : Program} {w : World} {A : Around} {E : Value → Shared → Prop} {s : Shared} {env : Env}
theorem Call_methodC {o : Expr} {name : Str} {apos pos : Pos} {args : List Expr} {T id : String} {Q : Value → Shared → Prop}
    (hbase : attributeBase o name env (eval o env) = eval o env)
    (hfew : ((backTo pos (starEach args env)).all (fun x => !x.1) && (backToKw pos (keywordEach [] env)).all (fun x => x.1.isSome)
      && decide (args.length + ([] : List Keyword).length + (if ([] : List Keyword).isEmpty then 0 else 1) < 30)) = true)
    (hline : (apos.endLine == pos.line) = true)
    (pa : PlainAttrs T) (slot : Slot T name id) (hty : typeOf (.builtin id) = pure (.type "method_descriptor"))
    (h : wpC (model prog w) A (eval o env) (fun ov s₁ => s₁.TypeIs ov T ∧ (∀ a, ov = .ref a → ∃ ob, s₁.heap.get? a = some ob ∧ ob.dict = none) ∧
      wpC (model prog w) A (callWith pos (.builtin id) [ov] (backTo pos (starEach args env)) []) Q E s₁) E s) :
    wpC (model prog w) A (eval (.Call (.Attribute o name apos) args [] pos) env) Q E s := by
  rw [arm_eval_Call, hbase]
  refine wpC_bind (wpC_mono h (fun ov s₁ h₁ => ?_) fun _ _ e => e)
  obtain ⟨hT, hd, hc⟩ := h₁
  refine wpC_stand ?_
  have hform : methodCallForm (args.length + ([] : List Keyword).length) (backTo pos (starEach args env)) (backToKw pos (keywordEach [] env)) = true := hfew
  have hpos : methodCallPos true o env apos pos = pure pos := by unfold methodCallPos; simp [hline]
  unfold methodCall
  rw [hform]
  refine wpC_bind (wpC_holding (wpC_of (getMethod_builtin hT pa slot hty hd ?_)))
  rw [hpos]
  exact wpC_bind (wpC_pure hc)
end
section
variable {prog : Program} {w : World} {A₀ A : Around} {s : Shared} {base h₀ : Heap} {outer : List Env} {L : Addr} {m : Str → Option Value} {env : Env} {news : List (Addr × Obj)} {K : Frag}
  {R : Result → Shared → Prop} {name qual : Str} {params : Arguments} {body : List Stmt} {scope : Scope} {cl : List (Str × Addr)} {dV kV doc pm cdv ct : Value} {an : Option Addr} {fo : Obj} {f : Addr} {args : Args} {binds : List (Str × Value)}
/-- what stands as a call ends: the ground may bear marks at the frames below -/
def LvT (h₀ : Heap) (L : Addr) (m : Str → Option Value) (G : Heap) (fs : List Addr) (R : Result → Shared → Prop) (v : Value) (s' : Shared) : Prop :=
  ∃ g₂ L' m' news', KtsTurn (L :: fs) G g₂ ∧ Fr g₂ L' s'.heap m' ∧ News g₂ L' s'.heap news' ∧ (∀ g₃, KtsTurn fs h₀ g₃ → Fr g₃ L s'.heap m → News g₃ L s'.heap news' → R (.ok (.ret v)) s')
theorem turn_slots {fs : List Addr} {g g' : Heap} (T : KtsTurn fs g g') : g.UpToSlots g' := fun b o e _ => T.up e
theorem turn_under {A : Around} {base h₀ G g₂ : Heap} {outer : List Env} {L : Addr} {m : Str → Option Value} (B : Below A base outer h₀) (F : Fr h₀ L G m) (T : KtsTurn (L :: outer.filterMap (·.frame)) G g₂) :
    ∃ g₃, KtsTurn (outer.filterMap (·.frame)) h₀ g₃ ∧ Fr g₃ L g₂ m := by
  obtain ⟨T3, S3⟩ := kts_turn_at (fs := outer.filterMap (·.frame)) (g := h₀) (h := g₂) (fun b hb => by
    obtain ⟨_, o, ho, _⟩ := B.frames.mem hb
    exact ⟨o, ho⟩) (fun b o e nm => T.other b o (F.keep b o e) fun hm => by
      rcases List.mem_cons.mp hm with z | z
      · rw [z, kts_self F] at e; cases e
      · exact nm z) (fun b o e hm => T.frame b o (F.keep b o e) (.tail _ hm))
  exact ⟨_, T3, (turn_slots T).ns F.ns, S3, by rw [T3.size]; exact F.above⟩
theorem lv_of {A : Around} {base h₀ G : Heap} {outer : List Env} {L : Addr} {m : Str → Option Value} {R : Result → Shared → Prop} {v : Value} {s' : Shared} (B : Below A base outer h₀) (F : Fr h₀ L G m)
    (h : LvT h₀ L m G (outer.filterMap (·.frame)) R v s') : R (.ok (.ret v)) s' := by
  obtain ⟨g₂, L', m', news', T, F', N', k⟩ := h
  obtain ⟨g₃, T3, F3⟩ := turn_under B F T
  refine k g₃ T3 (F3.keeps F'.keep) fun q hq => ⟨(N' q hq).1, fun e => ?_, ?_⟩
  · obtain ⟨o, _, _, ho, _⟩ := F3.ns
    have := (N' q hq).2.2
    rw [e, ho] at this; cases this
  · cases e : g₃.get? q.1 with
    | none => rfl
    | some o => have := (N' q hq).2.2; rw [F3.keep _ _ e] at this; cases this
/-- entering a def that makes no cells -/
theorem enter_C (B : Below A₀ base outer h₀) (F : Fr h₀ L s.heap m) (N : News h₀ L s.heap news) (hlim : h₀.NoLimit) (hA : A.frames = some (env :: outer)) (hf : env.frame = some L) (hke : env.scope.kind = .function)
    (ho : s.heap.get? f = some fo) (hd : fo.data = .func (fnX name qual params body scope cl dV kV doc pm an cdv ct)) (hcd : s.heap.CodeRec cdv qual) (hroom : A.depth < recursionLimit)
    (hbind : BindsTo s (fnX name qual params body scope cl dV kV doc pm an cdv ct) args binds) (hloc : ∀ y ∈ binds, scope.names.lookup y.1 = some .local)
    (h : ∀ g L' h₁, Fr h₀ L g m → Fr g L' h₁ (fun y => binds.reverse.lookup y) → News g L' h₁ news → Below A base (env :: outer) g → h₀.StaysIn g → (∀ p ∈ news, p.1 < L') →
      wpC (model prog w) (A.deeper (envX qual scope L' f cdv cl)) (execs body (envX qual scope L' f cdv cl))
        (fun fl s' => LvT h₀ L m g (outer.filterMap (·.frame)) R (match fl with | .ret v => v | _ => .none) s')
        (fun e s' => wpC (model prog w) (A.deeper (envX qual scope L' f cdv cl)) (leaving (envX qual scope L' f cdv cl) e) (fun _ s'' => R (.error e) s'') (fun e' s'' => R (.error e') s'') s')
        { s with heap := h₁, toks := s.toks + binds.length })
    (hcell : ∀ x ∈ scope.names, x.2 ≠ .cell) (hco : scope.isCoroutine = false) (hgen : scope.isGenerator = false) (hk : scope.kind = .function) : codeC (model prog w) A (.call (.ref f) args) R s := by
  obtain ⟨FG, BG, st, -⟩ := groundX (R := R) B F N hA hf hke
  refine codeC_function (fd := fnX name qual params body scope cl dV kV doc pm an cdv ct) (body := body) (binds := binds) hroom ho hd hco hgen rfl hcd hbind ?_
  refine wpAny_newFunctionEnv hcell hloc (fun h₁ hns hsb => ⟨(hlim.keeps F.keep).fresh _ hsb, codeC_func ?_⟩) hk
  have hk₁ : ∀ b o, s.heap.get? b = some o → h₁.get? b = some o := fun b o e => hsb.extBut b o (Nat.ne_of_lt (Heap.lt_size e)) (Heap.get?_push_of_some _ e)
  exact wpC_mono (h _ s.heap.objs.size h₁ FG ⟨hns, fun b o e => hk₁ b o (of_hideAll _ e), Nat.le_of_eq (hideAll_size _ _)⟩
    (fun p hp => ⟨hk₁ _ _ (N p hp).1, Nat.ne_of_lt (Heap.lt_size (N p hp).1), hideAll_none _ (List.mem_map_of_mem hp)⟩) BG st (fun p hp => Heap.lt_size (N p hp).1)) (fun fl s' hl => lv_of B FG hl) fun _ _ y => y
/-- entering a def that makes cells -/
theorem enter_CC (B : Below A₀ base outer h₀) (F : Fr h₀ L s.heap m) (N : News h₀ L s.heap news) (hlim : h₀.NoLimit) (hA : A.frames = some (env :: outer)) (hf : env.frame = some L) (hke : env.scope.kind = .function)
    (ho : s.heap.get? f = some fo) (hd : fo.data = .func (fnX name qual params body scope [] dV kV doc pm an cdv ct)) (hcd : s.heap.CodeRec cdv qual) (hroom : A.depth < recursionLimit)
    (hbind : BindsTo s (fnX name qual params body scope [] dV kV doc pm an cdv ct) args binds)
    (hkind : ∀ n, ∀ x ∈ binds, scope.names.lookup x.1 = some .local ∨ (scope.names.lookup x.1 = some .cell ∧ ((cellsFrom n scope.names []).lookup x.1).isSome = true))
    (hnd : ((cellsFrom 0 scope.names []).map (·.1)).Nodup)
    (h : ∀ g L' h₁ tk cells, s.toks ≤ tk → Fr h₀ L g m → Fr g L' h₁ (bindL (envOfC qual scope L' f cdv).kindOf binds fun _ => none) → News g L' h₁ (cells ++ news) →
      CellsAre (bindC (envOfC qual scope L' f cdv).kindOf binds fun _ => none) (cellsFrom (L' + 1) scope.names []) cells → Below A base (env :: outer) g → h₀.StaysIn g → (∀ p ∈ news, p.1 < L') →
      wpC (model prog w) (A.deeper (envOfC qual scope L' f cdv)) (execs body (envOfC qual scope L' f cdv))
        (fun fl s' => LvT h₀ L m g (outer.filterMap (·.frame)) R (match fl with | .ret v => v | _ => .none) s')
        (fun e s' => wpC (model prog w) (A.deeper (envOfC qual scope L' f cdv)) (leaving (envOfC qual scope L' f cdv) e) (fun _ s'' => R (.error e) s'') (fun e' s'' => R (.error e') s'') s')
        { s with heap := h₁, toks := tk })
    (hco : scope.isCoroutine = false) (hgen : scope.isGenerator = false) (hk : scope.kind = .function) : codeC (model prog w) A (.call (.ref f) args) R s := by
  obtain ⟨FG, BG, st, -⟩ := groundX (R := R) B F N hA hf hke
  refine codeC_function (fd := fnX name qual params body scope [] dV kV doc pm an cdv ct) (body := body) (binds := binds) hroom ho hd hco hgen rfl hcd hbind ?_
  have toks := wpAny_newFunctionEnv_cells (M := model prog w) (A := A.in1) (s := s) (E := fun e s' => R (.error e) s') (scope := scope) (globals := mainGlobals) (binds := binds) (qual := qual ++ ".<locals>.") (func := some f) (code := cdv) (builtins := builtinsNs)
    (Q := fun env' s' => s'.heap.NoLimit ∧ (s.toks ≤ s'.toks → codeC (model prog w) A (.func body env') R s')) hk (hkind _) fun env' he s' x => by
      subst he
      refine ⟨(hlim.keeps F.keep).keeps x.toInCall.keep, fun htk => codeC_func ?_⟩
      obtain ⟨h₁, tk, rfl, _⟩ := x.done
      have hk₁ := x.toInCall.keep
      obtain ⟨cells, NC, Y⟩ := Cl.news (h₀ := s.heap) (Nat.le_refl _) fun n c hm => ⟨x.cell n c (lookup_of_mem_nodup (cellsFrom_names scope.names 0 (s.heap.objs.size + 1) [] [] rfl ▸ hnd) hm), x.above n c hm⟩
      refine wpC_mono (h _ s.heap.objs.size h₁ tk cells htk FG ⟨x.toInCall.ns, fun b o e => hk₁ b o (of_hideAll _ e), Nat.le_of_eq (hideAll_size _ _)⟩ (fun p hp => ?_) Y BG st (fun p hp => Heap.lt_size (N p hp).1)) (fun fl s' hl => lv_of B FG hl) fun _ _ y => y
      rcases List.mem_append.mp hp with hp | hp
      · refine ⟨(NC p hp).1, (NC p hp).2.1, ?_⟩
        cases q : (hideAll s.heap (news.map (·.1))).get? p.1 with
        | none => rfl
        | some o => have := of_hideAll _ q; rw [(NC p hp).2.2] at this; cases this
      · exact ⟨hk₁ _ _ (N p hp).1, Nat.ne_of_lt (Heap.lt_size (N p hp).1), hideAll_none _ (List.mem_map_of_mem hp)⟩
  exact wpAny_mono (wpAny_toks toks) (fun env' s' q => ⟨q.1.1, q.1.2 q.2⟩) fun _ _ q => q.1
theorem codeC_expr {prog : Program} {w : World} {A : Around} {R : Result → Shared → Prop} {s : Shared} {e : Expr} {env : Env}
    (h : wpC (model prog w) (A.deeper env) (eval e env) (fun v s' => R (.ok (.ret v)) s')
      (fun e' s' => wpC (model prog w) (A.deeper env) (leaving env e') (fun _ s'' => R (.error e') s'') (fun e'' s'' => R (.error e'') s'') s') s) : codeC (model prog w) A (.expr e env) R s := by
  refine codeC_tree ?_
  show wpC _ (A.deeper env) (do point; ret (← (eval e env).onRaise (leaving env))) _ _ s
  exact wpC_bind (wpC_point (wpC_bind (wpC_onRaise (wpC_mono h (fun v s' h' => wpC_pure h') fun _ _ h' => h'))))
/-- entering a lambda of no arguments -/
theorem enter_CE {body : Expr} (B : Below A₀ base outer h₀) (F : Fr h₀ L s.heap m) (N : News h₀ L s.heap news) (hlim : h₀.NoLimit) (hA : A.frames = some (env :: outer)) (hf : env.frame = some L) (hke : env.scope.kind = .function)
    (ho : s.heap.get? f = some fo) (hd : fo.data = .func (kla_fn name qual params body scope cl pm cdv ct)) (hcd : s.heap.CodeRec cdv qual) (hroom : A.depth < recursionLimit)
    (hbind : BindsTo s (kla_fn name qual params body scope cl pm cdv ct) args [])
    (h : ∀ g L' h₁, Fr h₀ L g m → Fr g L' h₁ (fun _ => none) → News g L' h₁ news → Below A base (env :: outer) g → h₀.StaysIn g → (∀ p ∈ news, p.1 < L') →
      wpC (model prog w) (A.deeper (envX qual scope L' f cdv cl)) (eval body (envX qual scope L' f cdv cl))
        (fun v s' => LvT h₀ L m g (outer.filterMap (·.frame)) R v s')
        (fun e s' => wpC (model prog w) (A.deeper (envX qual scope L' f cdv cl)) (leaving (envX qual scope L' f cdv cl) e) (fun _ s'' => R (.error e) s'') (fun e' s'' => R (.error e') s'') s')
        { s with heap := h₁, toks := s.toks })
    (hcell : ∀ x ∈ scope.names, x.2 ≠ .cell) (hco : scope.isCoroutine = false) (hgen : scope.isGenerator = false) (hk : scope.kind = .function) : codeC (model prog w) A (.call (.ref f) args) R s := by
  obtain ⟨FG, BG, st, -⟩ := groundX (R := R) B F N hA hf hke
  refine codeC_tree ?_
  show wpC _ A.in1 (callAny (.ref f) args) _ _ s
  refine wpC_of ?_
  simp only [callAny]
  refine wpAny_bind (wpAny_load ho ?_)
  obtain ⟨c, oc, vs, tq, hc, hoc, hdc, hq⟩ := hcd
  simp only [hd, callFunction, hco, hgen, hc]
  refine wpAny_bind (m := field (.ref c) 1) (wpAny_field hoc hdc hq (wpAny_bind (wpAny_pure ?_)))
  rw [hc] at hbind
  refine wpAny_bind (hbind _ _ _ _ (wpAny_bind ?_))
  refine wpAny_newFunctionEnv hcell (fun x hx => by cases hx) (fun h₁ hns hsb => ?_) hk
  have hk₁ : ∀ b o, s.heap.get? b = some o → h₁.get? b = some o := fun b o e => hsb.extBut b o (Nat.ne_of_lt (Heap.lt_size e)) (Heap.get?_push_of_some _ e)
  refine wpAny_bind (wpAny_enterFrame ((hlim.keeps F.keep).fresh _ hsb) hroom (wpAny_pure ⟨rfl, codeC_expr ?_⟩))
  rw [← hc]
  exact wpC_mono (h _ s.heap.objs.size h₁ FG ⟨hns, fun b o e => hk₁ b o (of_hideAll _ e), Nat.le_of_eq (hideAll_size _ _)⟩
    (fun p hp => ⟨hk₁ _ _ (N p hp).1, Nat.ne_of_lt (Heap.lt_size (N p hp).1), hideAll_none _ (List.mem_map_of_mem hp)⟩) BG st (fun p hp => Heap.lt_size (N p hp).1)) (fun fl s' hl => lv_of B FG hl) fun _ _ y => y
end

end
section



inductive V where
  | int (i : Int) | str (x : Str) | bool (b : Bool) | none | tup (vs : List V) | lst (vs : List V) | obj (v : Value)

abbrev Led := List (Addr × Obj)
def Sup (h₀ : Heap) (news : Led) (a : Addr) (o : Obj) : Prop := (a, o) ∈ news ∨ h₀.get? a = some o

mutual
inductive Rep (S : Addr → Obj → Prop) : Value → V → Prop
  | int {i t} : Rep S (.int i t) (.int i)
  | str {x t} : Rep S (.str x t) (.str x)
  | bool {b} : Rep S (.bool b) (.bool b)
  | none : Rep S .none .none
  | obj {v} : Rep S v (.obj v)
  | tup {a o items n vs} : S a o → o.cls = .type "tuple" → o.data = .seq (List.toArray items) n → RepL S items vs → Rep S (.ref a) (.tup vs)
  | lst {a o items n vs} : S a o → o.cls = .type "list" → o.data = .seq (List.toArray items) n → RepL S items vs → Rep S (.ref a) (.lst vs)
inductive RepL (S : Addr → Obj → Prop) : List Value → List V → Prop
  | nil : RepL S [] []
  | cons {v vs x xs} : Rep S v x → RepL S vs xs → RepL S (v :: vs) (x :: xs)
end

def SeqO (o : Obj) : Prop := ∃ its n, o.data = .seq its n
section
variable {S S' : Addr → Obj → Prop}
mutual
theorem Rep.mono (h : ∀ a o, S a o → SeqO o → S' a o) : ∀ {v x}, Rep S v x → Rep S' v x
  | _, _, .int => .int
  | _, _, .str => .str
  | _, _, .bool => .bool
  | _, _, .none => .none
  | _, _, .obj => .obj
  | _, _, .tup a b c d => .tup (h _ _ a ⟨_, _, c⟩) b c (RepL.mono h d)
  | _, _, .lst a b c d => .lst (h _ _ a ⟨_, _, c⟩) b c (RepL.mono h d)
theorem RepL.mono (h : ∀ a o, S a o → SeqO o → S' a o) : ∀ {vs xs}, RepL S vs xs → RepL S' vs xs
  | _, _, .nil => .nil
  | _, _, .cons a b => .cons (Rep.mono h a) (RepL.mono h b)
end
theorem RepL.length : ∀ {vs xs}, RepL S vs xs → vs.length = xs.length
  | _, _, .nil => rfl
  | _, _, .cons _ b => by simp [RepL.length b]
theorem RepL.append {vs ws : List Value} {xs ys : List V} : RepL S vs xs → RepL S ws ys → RepL S (vs ++ ws) (xs ++ ys)
  | .nil, b => b
  | .cons a b, c => .cons a (RepL.append b c)
theorem RepL.get {i : Nat} {x : V} : ∀ {j : Nat} {vs xs}, RepL S vs xs → xs[j]? = some x → ∃ v, vs[j]? = some v ∧ Rep S v x
  | _, _, _, .nil, h => by simp at h
  | 0, _, _, .cons a _, h => by simp at h; exact ⟨_, rfl, h ▸ a⟩
  | j + 1, _, _, .cons _ b, h => by simpa using RepL.get (i := i) (j := j) b (by simpa using h)
theorem Sup.mono {h₀ : Heap} {n n' : Led} (h : ∀ q ∈ n, q ∈ n') : ∀ a o, Sup h₀ n a o → SeqO o → Sup h₀ n' a o := fun _ _ x _ => x.imp (h _) id
end

structure Glo where
  prog : Program
  w : World
  K : Frag
  p : Program
  loose : List Str
  mean : ExcName → Option Value
  mg : Str → Option Value
  mb : Str → Option Value
abbrev Glo.M (g : Glo) : Model := model g.prog g.w

/-- what a frame is: its names, the objects that it keeps, its own cells, the code tables that it fills, a comprehension -/
structure FI where
  cn : Str
  cs : Scope
  a : Addr
  ccd : Value
  cl : List (Str × Addr)
  ns : List Str := []
  ws : List Str := []
  gs : List Str := []
  must : Led := []
  exc : Led := []
  own : Bool := false
  tabs : List (Addr × Str) := []
  comp : Option (Scope × List (Str × Addr) × Addr) := none
abbrev FIp (cn : Str) (cs : Scope) (a : Addr) (ccd : Value) (ns gs : List Str) : FI := { cn := cn, cs := cs, a := a, ccd := ccd, cl := [], ns := ns, ws := ns, gs := gs }
abbrev FI.fenv (f : FI) (L : Addr) : Env := envX f.cn f.cs L f.a f.ccd f.cl
abbrev FI.env (f : FI) (L : Addr) : Env := match f.comp with
  | none => f.fenv L
  | some (sc, cl, C) => { f.fenv L with scope := sc, locals := C, cells := cl, func := none }
abbrev FI.scope (f : FI) : Scope := match f.comp with
  | none => f.cs
  | some (sc, _, _) => sc
abbrev FI.cells (f : FI) : List (Str × Addr) := match f.comp with
  | none => f.cl
  | some (_, cl, _) => cl
def FI.mut (f : FI) : List Addr := (if f.own then f.cl.map (·.2) else []) ++ f.tabs.map (·.1)
/-- what stays in the ledger while the frame runs -/
def Stays (f : FI) (q : Addr × Obj) : Prop := q.1 ∉ f.mut ∨ SeqO q.2
theorem Stays.plain {f : FI} (h1 : f.own = false) (h2 : f.tabs = []) (q : Addr × Obj) : Stays f q := .inl (by unfold FI.mut; rw [h1, h2]; simp)

structure FI.Ok (f : FI) : Prop where
  hk : f.cs.kind = .function ∧ f.scope.kind = .function
  nd : f.ns.Nodup
  lc : ∀ x ∈ f.ns, (if x ∈ f.cells.map (·.1) then (f.scope.names.lookup x = some .cell ∨ f.scope.names.lookup x = some .free) else f.scope.names.lookup x = some .local) ∧ ((x == ("__debug__" : Str)) = false ∧ (x == ("__classdict__" : Str)) = false)
  gc : ∀ x ∈ f.gs, f.scope.names.lookup x = some .globalImplicit ∧ (x == ("__debug__" : Str)) = false
  mus : ∀ q ∈ f.must, Stays f q
  cd : (f.cells.map (·.1)).Nodup
  wr : f.ws = [] ∨ (f.ws = f.ns ∧ f.comp = none ∧ (f.cl = [] ∨ f.own = true))
  cu : (f.cells.map (·.2)).Nodup
structure Sit (g : Glo) (f : FI) (d : Nat) where
  dp : Nat
  un : Nat
  gd : Option (List Code)
  outer : List Env
  A₀ : Around
  base : Heap
  h₀ : Heap
  L : Addr
  B : Below A₀ base outer h₀
  XB : g.K.In base
  TB : Top g.p g.loose g.mean g.mg g.mb base
  ok : f.Ok
  hd : dp + d < recursionLimit
  hu : un + 8 * d + 100 < cLine
theorem Sit.hk {g f d} (σ : Sit g f d) : f.cs.kind = .function := σ.ok.hk.1
theorem Sit.hks {g f d} (σ : Sit g f d) : f.scope.kind = .function := σ.ok.hk.2
abbrev Sit.A {g f d} (σ : Sit g f d) : Around := ktrTop σ.dp σ.un σ.gd f.cn f.cs σ.L f.a f.ccd f.cl σ.outer
abbrev Sit.env {g f d} (σ : Sit g f d) : Env := f.env σ.L
abbrev Sit.fenv {g f d} (σ : Sit g f d) : Env := f.fenv σ.L
theorem Sit.kind {g f d} (σ : Sit g f d) : σ.env.scope.kind = .function := by
  have := σ.hks
  unfold FI.scope at this
  unfold Sit.env FI.env
  split <;> simp_all

/-- the frames below: an exception that was caught leaves marks at them -/
abbrev Sit.fs {g f d} (σ : Sit g f d) : List Addr := σ.outer.filterMap (·.frame)
structure Wd {g f d} (σ : Sit g f d) where
  s : Shared
  m : Str → Option Value
  news : Led
  gr : Heap
  U : KtsTurn σ.fs σ.h₀ gr
  F : Fr gr σ.L s.heap m
  N : News gr σ.L s.heap news
theorem below_turn {A : Around} {base h₀ g : Heap} {outer : List Env} (B : Below A base outer h₀) (T : KtsTurn (outer.filterMap (·.frame)) h₀ g) : Below A base outer g :=
  ⟨B.stack, fun b o e => T.other b o (B.stays b o e) (fun hm => by rw [(B.frames.mem hm).1] at e; cases e), B.frames.of_keeps fun b o e _ => by
    obtain ⟨sl, hs⟩ := T.up e
    exact ⟨_, hs, rfl⟩⟩
section
variable {g : Glo} {f : FI} {d : Nat} {σ : Sit g f d}
theorem Wd.B (wd : Wd σ) : Below σ.A₀ σ.base σ.outer wd.gr := below_turn σ.B wd.U
theorem Wd.X (wd : Wd σ) : g.K.In wd.gr := σ.XB.keeps wd.B.stays
theorem Wd.T (wd : Wd σ) : Top g.p g.loose g.mean g.mg g.mb wd.gr := σ.TB.keeps wd.B.stays
end
abbrev Wd.S {g f d} {σ : Sit g f d} (wd : Wd σ) : Addr → Obj → Prop := Sup σ.base wd.news
structure Wd.le {g f d} {σ : Sit g f d} (a b : Wd σ) : Prop where
  st : ∃ h tk, b.s = { a.s with heap := h, toks := tk }
  nw : ∀ q ∈ a.news, Stays f q → q ∈ b.news
  mm : f.ws = [] → b.m = a.m
theorem Wd.le.of {g f d} {σ : Sit g f d} {a b : Wd σ} (st : ∃ h tk, b.s = { a.s with heap := h, toks := tk }) (nw : ∀ q ∈ a.news, q ∈ b.news) (mm : b.m = a.m := by rfl) : a.le b := ⟨st, fun q h _ => nw q h, fun _ => mm⟩
theorem Wd.le.refl {g f d} {σ : Sit g f d} (a : Wd σ) : a.le a := .of ⟨_, _, rfl⟩ fun _ h => h
theorem Wd.le.trans {g f d} {σ : Sit g f d} {a b c : Wd σ} (x : a.le b) (y : b.le c) : a.le c := by
  obtain ⟨h, tk, e⟩ := x.st
  obtain ⟨h', tk', e'⟩ := y.st
  exact ⟨⟨h', tk', by rw [e', e]⟩, fun q hq k => y.nw q (x.nw q hq k) k, fun e => (y.mm e).trans (x.mm e)⟩
theorem Wd.le.sup {g f d} {σ : Sit g f d} {a b : Wd σ} (x : a.le b) : ∀ c o, a.S c o → SeqO o → b.S c o := fun c o h q => h.imp (fun h => x.nw _ h (.inr q)) id
theorem Wd.le.rep {g f d} {σ : Sit g f d} {a b : Wd σ} (x : a.le b) {v : Value} {y : V} (r : Rep a.S v y) : Rep b.S v y := r.mono x.sup
theorem Wd.le.repL {g f d} {σ : Sit g f d} {a b : Wd σ} (x : a.le b) {v : List Value} {y : List V} (r : RepL a.S v y) : RepL b.S v y := r.mono x.sup

abbrev Loc := List (Option V)
inductive GetN : List Str → Loc → Str → V → Prop
  | here {x ns v ρ} : GetN (x :: ns) (some v :: ρ) x v
  | there {x y ns v o ρ} : GetN ns ρ x v → GetN (y :: ns) (o :: ρ) x v
inductive SetN : List Str → Loc → Str → V → Loc → Prop
  | here {x ns v o ρ} : SetN (x :: ns) (o :: ρ) x v (some v :: ρ)
  | there {x y ns v o ρ ρ'} : SetN ns ρ x v ρ' → SetN (y :: ns) (o :: ρ) x v (o :: ρ')
theorem GetN.mem : ∀ {ns ρ x v}, GetN ns ρ x v → x ∈ ns
  | _, _, _, _, .here => .head _
  | _, _, _, _, .there h => .tail _ h.mem
theorem SetN.mem : ∀ {ns ρ x v ρ'}, SetN ns ρ x v ρ' → x ∈ ns
  | _, _, _, _, _, .here => .head _
  | _, _, _, _, _, .there h => .tail _ h.mem
theorem SetN.get {ns : List Str} {ρ ρ' : Loc} {x : Str} {v : V} (h : SetN ns ρ x v ρ') : ns.Nodup → ∀ {y u}, GetN ns ρ' y u → (y = x ∧ u = v) ∨ (y ≠ x ∧ GetN ns ρ y u) := by
  induction h with
  | here =>
    intro nd y u k
    cases k with
    | here => exact .inl ⟨rfl, rfl⟩
    | there k => exact .inr ⟨fun e => (List.nodup_cons.mp nd).1 (e ▸ k.mem), .there k⟩
  | there h ih =>
    intro nd y u k
    cases k with
    | here => exact .inr ⟨fun e => (List.nodup_cons.mp nd).1 (e ▸ h.mem), .here⟩
    | there k => exact (ih (List.nodup_cons.mp nd).2 k).imp id fun q => ⟨q.1, .there q.2⟩
/-- a namespace's object -/
def NsO (o : Obj) (m : Str → Option Value) : Prop := ∃ es ep, o.data = .dict es ep ∧ StrKeys es ∧ ∀ name, nsFind es name = m name
/-- a name holds a value -/
def Holds {g f d} {σ : Sit g f d} (wd : Wd σ) (x : Str) (v : V) : Prop := match f.cells.lookup x with
  | some c => ∃ o val, (c, o) ∈ wd.news ∧ o.data = .cell (some val) ∧ Rep wd.S val v
  | none => match f.comp with
    | none => ∃ val, wd.m x = some val ∧ Rep wd.S val v
    | some (_, _, C) => ∃ oC m val, (C, oC) ∈ wd.news ∧ NsO oC m ∧ m x = some val ∧ Rep wd.S val v
/-- a table of code objects, of which all bear one name -/
def TabOk {g f d} {σ : Sit g f d} (wd : Wd σ) (P : Addr) (qual : Str) : Prop := ∃ ps : Array Value, (P, ({ cls := .none, data := .fields ps } : Obj)) ∈ wd.news ∧ TriplesOk ps.toList ∧
  ∀ pos cv, codeAmong pos ps.toList = some cv → ∃ c' oc vs t, cv = .ref c' ∧ (c', oc) ∈ wd.news ∧ oc.data = .fields vs ∧ vs[1]? = some (.str qual t)
structure LocOk {g f d} {σ : Sit g f d} (wd : Wd σ) (ρ : Loc) : Prop where
  loc : ∀ x v, GetN f.ns ρ x v → Holds wd x v
  cel : f.own = true → ∀ q ∈ f.cl, ∃ o v, (q.2, o) ∈ wd.news ∧ o.data = .cell v
  tab : ∀ q ∈ f.tabs, TabOk wd q.1 q.2

theorem Sup.heap {g f d} {σ : Sit g f d} (wd : Wd σ) {a o} (h : wd.S a o) : wd.s.heap.get? a = some o := h.elim (fun h => (wd.N _ h).1) fun h => wd.F.keep _ _ (wd.B.stays _ _ h)
theorem TabOk.of {g f d} {σ : Sit g f d} {a b : Wd σ} {P : Addr} {q : Str} (h : TabOk a P q) (hn : ∀ q ∈ a.news, q ∈ b.news) : TabOk b P q := by
  obtain ⟨ps, h1, h2, h3⟩ := h
  refine ⟨ps, hn _ h1, h2, fun pos cv e => ?_⟩
  obtain ⟨c', oc, vs, t, e1, e2, e3⟩ := h3 pos cv e
  exact ⟨c', oc, vs, t, e1, hn _ e2, e3⟩
theorem Holds.of {g f d} {σ : Sit g f d} {a b : Wd σ} {x : Str} {v : V} (h : Holds a x v) (hm : b.m = a.m) (hn : ∀ q ∈ a.news, q ∈ b.news) : Holds b x v := by
  unfold Holds at *
  split <;> rename_i h1 <;> rw [h1] at h
  · obtain ⟨o, val, k1, k2, k3⟩ := h
    exact ⟨o, val, hn _ k1, k2, k3.mono (Sup.mono hn)⟩
  · simp only at h ⊢
    split <;> rename_i h2 <;> rw [h2] at h
    · obtain ⟨val, k1, k2⟩ := h
      exact ⟨val, by rw [hm]; exact k1, k2.mono (Sup.mono hn)⟩
    · obtain ⟨oC, m, val, k1, k2, k3, k4⟩ := h
      exact ⟨oC, m, val, hn _ k1, k2, k3, k4.mono (Sup.mono hn)⟩
theorem LocOk.of {g f d} {σ : Sit g f d} {a b : Wd σ} {ρ : Loc} (l : LocOk a ρ) (hm : b.m = a.m) (hn : ∀ q ∈ a.news, q ∈ b.news) : LocOk b ρ where
  loc x v h := (l.loc x v h).of hm hn
  cel ho q hq := by
    obtain ⟨o, v, k1, k2⟩ := l.cel ho q hq
    exact ⟨o, v, hn _ k1, k2⟩
  tab q hq := (l.tab q hq).of hn

def Wd.Go {g f d} {σ : Sit g f d} (wd : Wd σ) : Prop := 0 < wd.s.toks ∧ ∀ q ∈ f.must, q ∈ wd.news
def Flies {g f d} (σ : Sit g f d) (wd : Wd σ) (e : Addr) (h' : Heap) : Prop :=
  ∃ h m n gr, KtsTurn σ.fs σ.h₀ gr ∧ Fr gr σ.L h m ∧ (∀ q ∈ wd.news, Stays f q → q ∉ f.exc → q ∈ n) ∧
    ((News gr σ.L h n ∧ Heap.NewExc h h' e "ValueError") ∨ (RaisedSN σ.base h (σ.fenv :: σ.outer) e (.type "ValueError") n h' ∧ h.UpToSlots h'))
theorem Flies.of_le {g f d} {σ : Sit g f d} {a b : Wd σ} {e : Addr} {h' : Heap} (x : a.le b) (y : Flies σ b e h') : Flies σ a e h' := by
  obtain ⟨h, m, n, gr, h0, h1, h2, h3⟩ := y
  exact ⟨h, m, n, gr, h0, h1, fun q hq hk hm => h2 q (x.nw q hq hk) hk hm, h3⟩
theorem Flies.new {g f d} {σ : Sit g f d} {a : Wd σ} {e : Addr} {h' : Heap} (y : Heap.NewExc a.s.heap h' e "ValueError") : Flies σ a e h' := ⟨_, _, a.news, a.gr, a.U, a.F, fun _ h _ _ => h, .inl ⟨a.N, y⟩⟩

/-- the triple -/
def At {g f d} {α : Type} (σ : Sit g f d) (wd : Wd σ) (ρ : Loc) (t : Sem α) (R : α → Wd σ → Loc → Prop) (X : Prop) : Prop :=
  LocOk wd ρ → ∀ Q E, (∀ a wd' ρ', wd.le wd' → LocOk wd' ρ' → R a wd' ρ' → Q a wd'.s) →
    (X → ∀ e h' tk', Flies σ wd e h' → E (.ref e) { wd.s with heap := h', toks := tk' }) → wd.Go → wpC g.M σ.A t Q E wd.s

section
variable {g : Glo} {f : FI} {d : Nat} {α β : Type} {σ : Sit g f d} {wd : Wd σ} {ρ : Loc} {X : Prop}

theorem At.mono {t : Sem α} {R R' : α → Wd σ → Loc → Prop} (h : At σ wd ρ t R X) (k : ∀ a wd' ρ', wd.le wd' → R a wd' ρ' → R' a wd' ρ') : At σ wd ρ t R' X :=
  fun l Q E hQ hX => h l Q E (fun a wd' ρ' x y z => hQ a wd' ρ' x y (k a wd' ρ' x z)) hX
theorem At.run {t : Sem α} {R : α → Wd σ → Loc → Prop} (h : At σ wd ρ t R X) (l : LocOk wd ρ) {Q : α → Shared → Prop} {E : Value → Shared → Prop} (hQ : ∀ a wd' ρ', wd.le wd' → LocOk wd' ρ' → R a wd' ρ' → wd'.Go → Q a wd'.s)
    (hX : X → ∀ e h' tk', Flies σ wd e h' → E (.ref e) { wd.s with heap := h', toks := tk' }) (tk : wd.Go) : wpC g.M σ.A t Q E wd.s :=
  wpC_mono (wpC_toks (h l (fun a s' => wd.s.toks ≤ s'.toks → Q a s') E (fun a wd' ρ' x y z ht => hQ a wd' ρ' x y z ⟨Nat.lt_of_lt_of_le tk.1 ht, fun q hq => x.nw q (tk.2 q hq) (σ.ok.mus q hq)⟩) hX tk)) (fun _ _ q => q.1 q.2) (fun _ _ q => q.1)
theorem At.pure {a : α} {R : α → Wd σ → Loc → Prop} (h : R a wd ρ) : At σ wd ρ (Pure.pure a) R X := fun l _ _ hQ _ _ => wpC_pure (hQ _ _ _ (.refl _) l h)
theorem At.bind {t : Sem α} {k : α → Sem β} {R : β → Wd σ → Loc → Prop} (h : At σ wd ρ t (fun a wd' ρ' => At σ wd' ρ' (k a) R X) X) : At σ wd ρ (t >>= k) R X :=
  fun l Q E hQ hX tk => wpC_bind (h.run l (fun a wd₁ ρ₁ x y z tk₁ => z y Q E (fun b wd₂ ρ₂ x₂ => hQ b wd₂ ρ₂ (x.trans x₂)) (fun hx e h' tk' fl => by
    obtain ⟨h, tk, e'⟩ := x.st
    rw [e']
    exact hX hx e h' tk' (fl.of_le x)) tk₁) hX tk)
theorem At.map {t : Sem α} {k : α → β} {R : β → Wd σ → Loc → Prop} (h : At σ wd ρ t (fun a wd' ρ' => R (k a) wd' ρ') X) : At σ wd ρ (k <$> t) R X :=
  fun l Q E hQ hX tk => wpC_map (h l _ _ (fun a wd₁ ρ₁ x y z => hQ _ _ _ x y z) hX tk)
theorem At.holding {vs : List Value} {t : Sem α} {R : α → Wd σ → Loc → Prop} (h : At σ wd ρ t R X) : At σ wd ρ (PySem.holding vs t) R X :=
  fun l Q E hQ hX tk => wpC_holding (h l Q E hQ hX tk)
theorem At.standAt {pos : Pos} {R : Unit → Wd σ → Loc → Prop} (h : R () wd ρ) : At σ wd ρ (PySem.standAt pos) R X := fun l _ _ hQ _ _ => wpC_of (wpAny_standAt (hQ _ _ _ (.refl _) l h))
theorem At.stand {pos : Pos} {k : Unit → Sem β} {R : β → Wd σ → Loc → Prop} (h : At σ wd ρ (k ()) R X) : At σ wd ρ (PySem.standAt pos >>= k) R X := .bind (.standAt h)
theorem At.operate {vs : List Value} {t : Sem Value} {R : Value → Wd σ → Loc → Prop} (h : At σ wd ρ t R X) : At σ wd ρ (PySem.operate vs t) R X :=
  fun l Q E hQ hX tk => wpC_operate (h l Q E hQ hX tk)
theorem At.ite {c : Prop} [Decidable c] {a b : Sem α} {R : α → Wd σ → Loc → Prop} (h1 : c → At σ wd ρ a R X) (h2 : ¬ c → At σ wd ρ b R X) : At σ wd ρ (if c then a else b) R X := by
  split
  · exact h1 ‹_›
  · exact h2 ‹_›

/-- leaves that keep the heap and move the tokens -/
abbrev Wd.tok (wd : Wd σ) (k : Nat) : Wd σ := ⟨{ wd.s with toks := k }, wd.m, wd.news, wd.gr, wd.U, wd.F, wd.N⟩
theorem Wd.le_tok (wd : Wd σ) (k : Nat) : wd.le (wd.tok k) := .of ⟨_, _, rfl⟩ fun _ h => h
theorem LocOk.tok {k : Nat} (l : LocOk wd ρ) : LocOk (wd.tok k) ρ := l.of rfl fun _ h => h

theorem At.leaf {t : Sem α} {R : α → Wd σ → Loc → Prop} (h : ∀ Q E, (∀ a k, R a (wd.tok k) ρ → Q a { wd.s with toks := k }) → wpAny g.M σ.A t Q E wd.s) : At σ wd ρ t R X :=
  fun l Q E hQ _ _ => wpC_of (h Q E fun a k r => hQ a (wd.tok k) ρ (wd.le_tok k) l.tok r)

def RV (Φ : V → Loc → Prop) : Value → Wd σ → Loc → Prop := fun val wd ρ => ∃ v, Rep wd.S val v ∧ Φ v ρ

end

/-- expressions -/
def Ev (g : Glo) (f : FI) (d : Nat) (e : Expr) (ρ : Loc) (Φ : V → Loc → Prop) (X : Prop) : Prop :=
  ∀ (σ : Sit g f d) (wd : Wd σ), At σ wd ρ (eval e σ.env) (RV Φ) X
/-- tests -/
def Tst (g : Glo) (f : FI) (d : Nat) (e : Expr) (ρ : Loc) (Φ : Bool → Loc → Prop) (X : Prop) : Prop :=
  ∀ (σ : Sit g f d) (wd : Wd σ), At σ wd ρ (isTrue e σ.env (eval e σ.env)) (fun b _ ρ' => Φ b ρ') X
inductive Fl where
  | next | brk | cont | ret (v : V)
inductive RepF (S : Addr → Obj → Prop) : Flow → Fl → Prop
  | next : RepF S .next .next
  | brk : RepF S .brk .brk
  | cont : RepF S .cont .cont
  | ret {v x} : Rep S v x → RepF S (.ret v) (.ret x)
def RF {g f d} {σ : Sit g f d} (Φ : Fl → Loc → Prop) : Flow → Wd σ → Loc → Prop := fun fl wd ρ => ∃ v, RepF wd.S fl v ∧ Φ v ρ
/-- statements -/
def Ex (g : Glo) (f : FI) (d : Nat) (st : Stmt) (ρ : Loc) (Φ : Fl → Loc → Prop) (X : Prop) : Prop :=
  ∀ (σ : Sit g f d) (wd : Wd σ), At σ wd ρ (exec st σ.env) (RF Φ) X
def Exs (g : Glo) (f : FI) (d : Nat) (ss : List Stmt) (ρ : Loc) (Φ : Fl → Loc → Prop) (X : Prop) : Prop :=
  ∀ (σ : Sit g f d) (wd : Wd σ), At σ wd ρ (execs ss σ.env) (RF Φ) X
/-- argument lists -/
def Evs (g : Glo) (f : FI) (d : Nat) (pos : Pos) (es : List Expr) (ρ : Loc) (Φ : List V → Loc → Prop) (X : Prop) : Prop :=
  ∀ (σ : Sit g f d) (wd : Wd σ), At σ wd ρ (spliced (backTo pos (starEach es σ.env))) (fun vals wd' ρ' => ∃ vs, RepL wd'.S vals vs ∧ Φ vs ρ') X
/-- operations on two values -/
def Op2 (t : Value → Value → Sem Value) (g : Glo) (f : FI) (d : Nat) (a b : V) (Φ : V → Prop) (X : Prop) : Prop :=
  ∀ (σ : Sit g f d) (wd : Wd σ) (ρ : Loc) (va vb : Value), Rep wd.S va a → Rep wd.S vb b → At σ wd ρ (t va vb) (fun val wd' ρ' => ρ' = ρ ∧ ∃ v, Rep wd'.S val v ∧ Φ v) X
def Op1 (t : Value → Sem Value) (g : Glo) (f : FI) (d : Nat) (a : V) (Φ : V → Prop) (X : Prop) : Prop :=
  ∀ (σ : Sit g f d) (wd : Wd σ) (ρ : Loc) (va : Value), Rep wd.S va a → At σ wd ρ (t va) (fun val wd' ρ' => ρ' = ρ ∧ ∃ v, Rep wd'.S val v ∧ Φ v) X
/-- truth -/
def Tr (g : Glo) (f : FI) (d : Nat) (a : V) (Φ : Bool → Prop) (X : Prop) : Prop :=
  ∀ (σ : Sit g f d) (wd : Wd σ) (ρ : Loc) (va : Value), Rep wd.S va a → At σ wd ρ (truthy va) (fun b _ ρ' => ρ' = ρ ∧ Φ b) X
/-- calls -/
def Cl (g : Glo) (f : FI) (d : Nat) (c : Value) (as : List V) (Φ : V → Prop) (X : Prop) : Prop :=
  ∀ (σ : Sit g f d) (wd : Wd σ) (ρ : Loc) (vals : List Value), RepL wd.S vals as → At σ wd ρ (call c vals) (fun val wd' ρ' => ρ' = ρ ∧ ∃ v, Rep wd'.S val v ∧ Φ v) X


end
section


section
variable {g : Glo} {f : FI} {d : Nat} {ρ : Loc} {X : Prop} {Φ : V → Loc → Prop} {pos : Pos}

/-! expressions -/
theorem ev_int {i : Int} {k} (h : Φ (.int i) ρ) : Ev g f d (.Constant (.int i) k pos) ρ Φ X := fun σ wd =>
  At.leaf fun Q E q => wpAny_mkInt (q _ _ ⟨_, .int, h⟩)
theorem ev_str {x : Str} {k} (h : Φ (.str x) ρ) : Ev g f d (.Constant (.str x) k pos) ρ Φ X := fun σ wd =>
  At.leaf fun Q E q => Calls.Constant_str (q _ _ ⟨_, .str, h⟩)
theorem ev_bool {b : Bool} {k} (h : Φ (.bool b) ρ) : Ev g f d (.Constant (.bool b) k pos) ρ Φ X := fun σ wd =>
  At.pure ⟨_, .bool, h⟩
theorem ev_none {k} (h : Φ .none ρ) : Ev g f d (.Constant .none k pos) ρ Φ X := fun σ wd =>
  At.pure ⟨_, .none, h⟩

theorem env_scope (f : FI) (L : Addr) : (f.env L).scope = f.scope := by unfold FI.env FI.scope; split <;> rfl
theorem env_cells (f : FI) (L : Addr) : (f.env L).cells = f.cells := by unfold FI.env FI.cells; split <;> rfl
theorem env_globals (f : FI) (L : Addr) : (f.env L).globals = mainGlobals := by unfold FI.env; split <;> rfl
theorem env_builtins (f : FI) (L : Addr) : (f.env L).builtins = builtinsNs := by unfold FI.env; split <;> rfl
theorem mem_of_lookup {α : Type} {x : Str} {c : α} : ∀ {l : List (Str × α)}, l.lookup x = some c → (x, c) ∈ l
  | [], h => by cases h
  | (y, b) :: r, h => by
    rw [List.lookup_cons] at h
    split at h
    · rename_i e
      cases h
      rw [eq_of_beq e]; exact .head _
    · exact .tail _ (mem_of_lookup h)
theorem not_mem_of_lookup {α : Type} {x : Str} : ∀ {l : List (Str × α)}, l.lookup x = none → x ∉ l.map (·.1)
  | [], h => by simp
  | (y, b) :: r, h => by
    rw [List.lookup_cons] at h
    split at h
    · cases h
    · rename_i e
      simp only [List.map_cons, List.mem_cons, not_or]
      exact ⟨fun h' => by simp [h'] at e, not_mem_of_lookup h⟩
theorem load_any {σ : Sit g f d} {wd : Wd σ} {x : Str} {v : V} (l : LocOk wd ρ) (hv : GetN f.ns ρ x v) {Q : Value → Shared → Prop} {E : Value → Shared → Prop} (h : ∀ val, Rep wd.S val v → Q val wd.s) : wpAny g.M σ.A (loadName σ.env x) Q E wd.s := by
  have hH := l.loc x v hv
  have hk := σ.ok.lc x hv.mem
  have e1 := env_scope f σ.L
  have e2 := env_cells f σ.L
  unfold Holds at hH
  cases hc : f.cells.lookup x with
  | some c =>
    rw [hc] at hH
    obtain ⟨o, val, k1, k2, k3⟩ := hH
    have hm : x ∈ f.cells.map (·.1) := List.mem_map.mpr ⟨_, mem_of_lookup hc, rfl⟩
    rw [if_pos hm] at hk
    have cell : wd.s.heap.IsCell c (some val) := ⟨o, (wd.N _ k1).1, k2⟩
    rcases hk.1 with hk1 | hk1
    · exact wpAny_loadName_cell (env := σ.env) σ.kind (by unfold Env.kindOf; rw [e1]; exact hk1) (by rw [e2]; exact hc) cell (h val k3)
    · exact wpAny_loadName_free (env := σ.env) σ.kind (by unfold Env.kindOf; rw [e1]; exact hk1) (by rw [e2]; exact hc) cell (h val k3) hk.2.2
  | none =>
    rw [hc] at hH
    rw [if_neg (not_mem_of_lookup hc)] at hk
    simp only at hH
    cases hcomp : f.comp with
    | none =>
      rw [hcomp] at hH
      obtain ⟨val, k1, k2⟩ := hH
      have el : σ.env.locals = σ.L := by unfold Sit.env FI.env; rw [hcomp]
      exact wpAny_loadName_local (env := σ.env) σ.kind (by unfold Env.kindOf; rw [e1]; exact hk.1) (by rw [el]; exact wd.F.ns) k1 (h val k2)
    | some z =>
      obtain ⟨sc, cl', C⟩ := z
      rw [hcomp] at hH
      obtain ⟨oC, m, val, k1, ⟨es, ep, k2, k2', k2''⟩, k3, k4⟩ := hH
      have el : σ.env.locals = C := by unfold Sit.env FI.env; rw [hcomp]
      exact wpAny_loadName_local (env := σ.env) (m := m) σ.kind (by unfold Env.kindOf; rw [e1]; exact hk.1) (by rw [el]; exact ⟨oC, es, ep, (wd.N _ k1).1, k2, k2', k2''⟩) k3 (h val k4)
theorem at_load {σ : Sit g f d} {wd : Wd σ} {x : Str} {v : V} {R : Value → Wd σ → Loc → Prop} (hv : GetN f.ns ρ x v) (h : ∀ val, Rep wd.S val v → R val wd ρ) : At σ wd ρ (loadName σ.env x) R X := fun l Q E hQ _ tk₀ =>
  wpC_of (load_any l hv fun val r => hQ val wd ρ (.refl _) l (h val r))
theorem ev_local {x : Str} {v : V} (hv : GetN f.ns ρ x v) (h : Φ v ρ) : Ev g f d (.Name x pos) ρ Φ X := fun σ wd l Q E hQ _ tk₀ =>
  wpC_of (wpAny_Name (load_any l hv fun val r => hQ val wd ρ (.refl _) l ⟨v, r, h⟩) (σ.ok.lc x hv.mem).2.1)

def KRep (K : Frag) (val : Value) (v : V) : Prop := Rep (fun a o => K.lookup a = some o) val v
structure Gl (K : Frag) (x : Str) (v : V) : Prop where
  out : ∃ val, nsIn K mainGlobals x = some (some val) ∧ KRep K val v
inductive InL : List Str → Str → Prop
  | here {x l} : InL (x :: l) x
  | there {x y l} : InL l x → InL (y :: l) x
theorem InL.mem : ∀ {l x}, InL l x → x ∈ l
  | _, _, .here => .head _
  | _, _, .there h => .tail _ h.mem
theorem kind_glob {σ : Sit g f d} {x : Str} (hm : InL f.gs x) : σ.env.kindOf x = some .globalImplicit := by
  unfold Env.kindOf
  rw [env_scope f σ.L]
  exact (σ.ok.gc _ hm.mem).1
theorem glob_any {σ : Sit g f d} {wd : Wd σ} {x : Str} {v : V} (e : Gl g.K x v) (hm : InL f.gs x) {Q : Value → Shared → Prop} {E : Value → Shared → Prop} (h : ∀ val, Rep wd.S val v → Q val wd.s) : wpAny g.M σ.A (eval (.Name x pos) σ.env) Q E wd.s := by
  obtain ⟨val, e, r⟩ := e.out
  refine Name_function_global (env := σ.env) σ.kind (kind_glob hm) (loadGlobal_global (env := σ.env) (mg := g.mg) ?_ (mg_of wd.X (topRead_of wd.T).g e) (h val (Rep.mono (fun a o k _ => .inr (σ.XB _ _ k)) r))) (σ.ok.gc _ hm.mem).2
  rw [env_globals f σ.L]
  exact (topRead_of wd.T).g.keeps wd.F.keep
theorem ev_global {x : Str} {v : V} (e : Gl g.K x v) (hm : InL f.gs x) (h : Φ v ρ) : Ev g f d (.Name x pos) ρ Φ X := fun σ wd l Q E hQ _ tk₀ =>
  wpC_of (glob_any e hm fun val r => hQ _ wd ρ (.refl _) l ⟨v, r, h⟩)
structure Bl (K : Frag) (x : Str) (val : Value) : Prop where
  e : nsIn K mainGlobals x = some none
  hv : bootBuiltins x = some val
  hn : x ≠ "__name__"
theorem blt_any {σ : Sit g f d} {wd : Wd σ} {x : Str} {val : Value} (b : Bl g.K x val) (hm : InL f.gs x) {Q : Value → Shared → Prop} {E : Value → Shared → Prop} (h : Q val wd.s) : wpAny g.M σ.A (eval (.Name x pos) σ.env) Q E wd.s := by
  have T := topRead_of wd.T
  refine Name_function_global (env := σ.env) σ.kind (kind_glob hm) (loadGlobal_builtin (env := σ.env) ?_ (mg_none_of wd.X T.g b.e) ?_ ((T.builtins x b.hn).trans b.hv) h) (σ.ok.gc _ hm.mem).2
  · rw [env_globals f σ.L]; exact T.g.keeps wd.F.keep
  · rw [env_builtins f σ.L]; exact T.b.keeps wd.F.keep
theorem ev_builtin {x : Str} {val : Value} (b : Bl g.K x val) (hm : InL f.gs x) (h : Φ (.obj val) ρ) : Ev g f d (.Name x pos) ρ Φ X := fun σ wd l Q E hQ _ tk₀ =>
  wpC_of (blt_any b hm (hQ _ wd ρ (.refl _) l ⟨_, .obj, h⟩))

theorem ev_bin {l r : Expr} {op : Operator} (h : Ev g f d l ρ (fun a ρ₁ => Ev g f d r ρ₁ (fun b ρ₂ => Op2 (binaryOp op) g f d a b (fun c => Φ c ρ₂) X) X) X) :
    Ev g f d (.BinOp l op r pos) ρ Φ X := fun σ wd => by
  show At σ wd ρ (do let a ← eval l σ.env; let b ← PySem.holding [a] (eval r σ.env); PySem.standAt pos; PySem.operate [a, b] (binaryOp op a b)) _ _
  refine .bind ((h σ wd).mono fun va wd₁ ρ₁ l₁ ⟨a, ra, ha⟩ => ?_)
  refine .bind (.holding ((ha σ wd₁).mono fun vb wd₂ ρ₂ l₂ ⟨b, rb, hb⟩ => ?_))
  exact .stand (.operate ((hb σ wd₂ ρ₂ va vb (l₂.rep ra) rb).mono fun vc wd₃ ρ₃ l₃ ⟨e, c, rc, hc⟩ => ⟨c, rc, e ▸ hc⟩))
theorem ev_un {x : Expr} {op : UnaryOp} (h : Ev g f d x ρ (fun a ρ₁ => Op1 (unaryOp op) g f d a (fun c => Φ c ρ₁) X) X) :
    Ev g f d (.UnaryOp op x pos) ρ Φ X := fun σ wd => by
  show At σ wd ρ (do let v ← eval x σ.env; PySem.standAt pos; PySem.holding [v] (unaryOp op v)) _ _
  refine .bind ((h σ wd).mono fun va wd₁ ρ₁ l₁ ⟨a, ra, ha⟩ => ?_)
  exact .stand (.holding ((ha σ wd₁ ρ₁ va ra).mono fun vc wd₃ ρ₃ l₃ ⟨e, c, rc, hc⟩ => ⟨c, rc, e ▸ hc⟩))
theorem ev_cmp {l r : Expr} {op : CmpOp} (h : Ev g f d l ρ (fun a ρ₁ => Ev g f d r ρ₁ (fun b ρ₂ => Op2 (compareOp op) g f d a b (fun c => Φ c ρ₂) X) X) X)
    (hm : behindInMarks op r = false := by rfl) : Ev g f d (.Compare l [op] [r] pos) ρ Φ X := fun σ wd => by
  have e : markedEach [op] [r] (evalEach [r] σ.env) = [eval r σ.env] := by
    simp [markedEach, evalEach, markedBehindIn, hm]
  show At σ wd ρ (do let v ← eval l σ.env; compareChain pos v [op] (markedEach [op] [r] (evalEach [r] σ.env))) _ _
  rw [e]
  refine .bind ((h σ wd).mono fun va wd₁ ρ₁ l₁ ⟨a, ra, ha⟩ => ?_)
  show At σ wd₁ ρ₁ (do let rv ← PySem.holding [va] (eval r σ.env); PySem.standAt pos; PySem.operate [va, rv] (compareOp op va rv)) _ _
  refine .bind (.holding ((ha σ wd₁).mono fun vb wd₂ ρ₂ l₂ ⟨b, rb, hb⟩ => ?_))
  exact .stand (.operate ((hb σ wd₂ ρ₂ va vb (l₂.rep ra) rb).mono fun vc wd₃ ρ₃ l₃ ⟨e, c, rc, hc⟩ => ⟨c, rc, e ▸ hc⟩))
theorem ev_if {t a b : Expr} (h : Tst g f d t ρ (fun c ρ₁ => (c = true → Ev g f d a ρ₁ Φ X) ∧ (c = false → Ev g f d b ρ₁ Φ X)) X) : Ev g f d (.IfExp t a b pos) ρ Φ X := fun σ wd => by
  show At σ wd ρ (do if ← isTrue t σ.env (eval t σ.env) then eval a σ.env else eval b σ.env) _ _
  refine .bind ((h σ wd).mono fun c wd₁ ρ₁ l₁ hc => ?_)
  cases c with
  | true => exact hc.1 rfl σ wd₁
  | false => exact hc.2 rfl σ wd₁
theorem ev_and1 {x : Expr} (h : Ev g f d x ρ Φ X) : Ev g f d (.BoolOp op [x] pos) ρ Φ X := fun σ wd => h σ wd
theorem ev_and {x y : Expr} {r : List Expr} (h : Ev g f d x ρ (fun a ρ₁ => Tr g f d a (fun t => (t = true → Ev g f d (.BoolOp .And (y :: r) pos) ρ₁ Φ X) ∧ (t = false → Φ a ρ₁)) X) X) :
    Ev g f d (.BoolOp .And (x :: y :: r) pos) ρ Φ X := fun σ wd => by
  show At σ wd ρ (do
    let v ← eval x σ.env
    PySem.standAt pos
    let t ← PySem.holding [v] (truthy v)
    match BoolOp.And, t with
    | .And, false | .Or, true => Pure.pure v
    | _, _ => boolOp pos .And (evalEach (y :: r) σ.env)) _ _
  refine .bind ((h σ wd).mono fun va wd₁ ρ₁ l₁ ⟨a, ra, ha⟩ => ?_)
  refine .stand (.bind (.holding ((ha σ wd₁ ρ₁ va ra).mono fun t wd₂ ρ₂ l₂ ⟨e, ht⟩ => ?_)))
  subst e
  cases t with
  | true => exact ht.1 rfl σ wd₂
  | false => exact .pure ⟨a, l₂.rep ra, ht.2 rfl⟩
theorem ev_or {x y : Expr} {r : List Expr} (h : Ev g f d x ρ (fun a ρ₁ => Tr g f d a (fun t => (t = false → Ev g f d (.BoolOp .Or (y :: r) pos) ρ₁ Φ X) ∧ (t = true → Φ a ρ₁)) X) X) :
    Ev g f d (.BoolOp .Or (x :: y :: r) pos) ρ Φ X := fun σ wd => by
  show At σ wd ρ (do
    let v ← eval x σ.env
    PySem.standAt pos
    let t ← PySem.holding [v] (truthy v)
    match BoolOp.Or, t with
    | .And, false | .Or, true => Pure.pure v
    | _, _ => boolOp pos .Or (evalEach (y :: r) σ.env)) _ _
  refine .bind ((h σ wd).mono fun va wd₁ ρ₁ l₁ ⟨a, ra, ha⟩ => ?_)
  refine .stand (.bind (.holding ((ha σ wd₁ ρ₁ va ra).mono fun t wd₂ ρ₂ l₂ ⟨e, ht⟩ => ?_)))
  subst e
  cases t with
  | false => exact ht.1 rfl σ wd₂
  | true => exact .pure ⟨a, l₂.rep ra, ht.2 rfl⟩

/-! tests -/
theorem tst_plain {e : Expr} (h : Ev g f d e ρ (fun a ρ₁ => Tr g f d a (fun t => Ψ t ρ₁) X) X)
    (he : ∀ (env : Env) (whole : Sem Value), isTrue e env whole = (do let v ← whole; PySem.standAt e.pos; PySem.holding [v] (truthy v)) := by intros; rfl) : Tst g f d e ρ Ψ X := fun σ wd => by
  rw [he]
  refine .bind ((h σ wd).mono fun va wd₁ ρ₁ l₁ ⟨a, ra, ha⟩ => ?_)
  exact .stand (.holding ((ha σ wd₁ ρ₁ va ra).mono fun t wd₂ ρ₂ l₂ ⟨e, ht⟩ => e ▸ ht))
theorem tst_not {x : Expr} {Ψ : Bool → Loc → Prop} (h : Tst g f d x ρ (fun t ρ₁ => Ψ (!t) ρ₁) X) : Tst g f d (.UnaryOp .Not x pos) ρ Ψ X := fun σ wd => by
  show At σ wd ρ (do return !(← isTrue x σ.env (eval x σ.env))) _ _
  exact .bind ((h σ wd).mono fun t wd₁ ρ₁ l₁ ht => .pure ht)
theorem tst_cmp {l r : Expr} {op : CmpOp} {Ψ : Bool → Loc → Prop} (h : Ev g f d l ρ (fun a ρ₁ => Ev g f d r ρ₁ (fun b ρ₂ => Op2 (compareOp op) g f d a b (fun c => Tr g f d c (fun t => Ψ t ρ₂) X) X) X) X)
    (hm : behindInMarks op r = false := by rfl) : Tst g f d (.Compare l [op] [r] pos) ρ Ψ X := fun σ wd => by
  have e : markedEach [op] [r] (evalEach [r] σ.env) = [eval r σ.env] := by
    simp [markedEach, evalEach, markedBehindIn, hm]
  show At σ wd ρ (do let v ← eval l σ.env; testChain pos v [op] (markedEach [op] [r] (evalEach [r] σ.env))) _ _
  rw [e]
  refine .bind ((h σ wd).mono fun va wd₁ ρ₁ l₁ ⟨a, ra, ha⟩ => ?_)
  show At σ wd₁ ρ₁ (do let rv ← PySem.holding [va] (eval r σ.env); PySem.standAt pos; let c ← PySem.operate [va, rv] (compareOp op va rv); PySem.holding [c] (truthy c)) _ _
  refine .bind (.holding ((ha σ wd₁).mono fun vb wd₂ ρ₂ l₂ ⟨b, rb, hb⟩ => ?_))
  refine .stand (.bind (.operate ((hb σ wd₂ ρ₂ va vb (l₂.rep ra) rb).mono fun vc wd₃ ρ₃ l₃ ⟨e, c, rc, hc⟩ => ?_)))
  subst e
  exact .holding ((hc σ wd₃ ρ₃ vc rc).mono fun t wd₄ ρ₄ l₄ ⟨e, ht⟩ => e ▸ ht)
theorem tst_and_nil {Ψ : Bool → Loc → Prop} (h : Ψ true ρ) : Tst g f d (.BoolOp .And [] pos) ρ Ψ X := fun σ wd => At.pure h
theorem tst_and {x : Expr} {r : List Expr} {Ψ : Bool → Loc → Prop} (h : Tst g f d x ρ (fun t ρ₁ => (t = true → Tst g f d (.BoolOp .And r pos) ρ₁ Ψ X) ∧ (t = false → Ψ false ρ₁)) X) :
    Tst g f d (.BoolOp .And (x :: r) pos) ρ Ψ X := fun σ wd => by
  show At σ wd ρ (do
    match BoolOp.And, ← isTrue x σ.env (eval x σ.env) with
    | .And, false => Pure.pure false
    | .Or, true => Pure.pure true
    | _, _ => allTrue .And r σ.env) _ _
  refine .bind ((h σ wd).mono fun t wd₁ ρ₁ l₁ ht => ?_)
  cases t with
  | true => exact ht.1 rfl σ wd₁
  | false => exact .pure (ht.2 rfl)
theorem tst_or_nil {Ψ : Bool → Loc → Prop} (h : Ψ false ρ) : Tst g f d (.BoolOp .Or [] pos) ρ Ψ X := fun σ wd => At.pure h
theorem tst_or {x : Expr} {r : List Expr} {Ψ : Bool → Loc → Prop} (h : Tst g f d x ρ (fun t ρ₁ => (t = false → Tst g f d (.BoolOp .Or r pos) ρ₁ Ψ X) ∧ (t = true → Ψ true ρ₁)) X) :
    Tst g f d (.BoolOp .Or (x :: r) pos) ρ Ψ X := fun σ wd => by
  show At σ wd ρ (do
    match BoolOp.Or, ← isTrue x σ.env (eval x σ.env) with
    | .And, false => Pure.pure false
    | .Or, true => Pure.pure true
    | _, _ => allTrue .Or r σ.env) _ _
  refine .bind ((h σ wd).mono fun t wd₁ ρ₁ l₁ ht => ?_)
  cases t with
  | false => exact ht.1 rfl σ wd₁
  | true => exact .pure (ht.2 rfl)

/-! truth of values -/
theorem tr_bool {b : Bool} {Ψ : Bool → Prop} (h : Ψ b) : Tr g f d (.bool b) Ψ X := fun σ wd ρ va r => by
  cases r
  exact At.leaf fun Q E q => wpAny_truthy_bool (q _ _ ⟨rfl, h⟩)
theorem tr_int {i : Int} {Ψ : Bool → Prop} (h : Ψ (i != 0)) : Tr g f d (.int i) Ψ X := fun σ wd ρ va r => by
  cases r
  exact At.leaf fun Q E q => truthy_int (q _ _ ⟨rfl, h⟩)
end

end
section


section
variable {g : Glo} {f : FI} {d : Nat} {ρ : Loc} {X : Prop} {pos : Pos} {σ : Sit g f d} {wd : Wd σ}

theorem exSet {ns : List Str} {ρ ρ' : Loc} {x : Str} {c : V} {P : Loc → Prop} (h : SetN ns ρ x c ρ') (k : P ρ') : ∃ ρ', SetN ns ρ x c ρ' ∧ P ρ' := ⟨_, h, k⟩
/-! growing worlds -/
abbrev Wd.grow (wd : Wd σ) (h' : Heap) (k : Nat) (hk : ∀ b o, wd.s.heap.get? b = some o → h'.get? b = some o) : Wd σ :=
  ⟨{ wd.s with heap := h', toks := k }, wd.m, wd.news, wd.gr, wd.U, wd.F.keeps hk, wd.N.grown hk⟩
theorem Wd.le_grow (wd : Wd σ) {h' k hk} : wd.le (wd.grow h' k hk) := .of ⟨_, _, rfl⟩ fun _ h => h
theorem LocOk.grow {h' k hk} (l : LocOk wd ρ) : LocOk (wd.grow h' k hk) ρ := l.of rfl fun _ h => h
abbrev Wd.led (wd : Wd σ) (h' : Heap) (k : Nat) (F : Fr wd.gr σ.L h' wd.m) (news : Led) (N : News wd.gr σ.L h' news) : Wd σ := ⟨{ wd.s with heap := h', toks := k }, wd.m, news, wd.gr, wd.U, F, N⟩
theorem Wd.le_led (wd : Wd σ) {h' k F news N} (hn : ∀ q ∈ wd.news, q ∈ news) : wd.le (wd.led h' k F news N) := .of ⟨_, _, rfl⟩ hn
theorem LocOk.led {h' k F news N} (l : LocOk wd ρ) (hn : ∀ q ∈ wd.news, q ∈ news) : LocOk (wd.led h' k F news N) ρ := l.of rfl hn

/-! storing -/
def upd (m : Str → Option Value) (x : Str) (v : Value) : Str → Option Value := fun y => if y = x then some v else m y
theorem lookup_inj {α : Type} {x y : Str} {c : α} : ∀ {l : List (Str × α)}, (l.map (·.2)).Nodup → l.lookup x = some c → l.lookup y = some c → x = y
  | [], _, h, _ => by cases h
  | (z, b) :: r, nd, h1, h2 => by
    simp only [List.map_cons, List.nodup_cons] at nd
    have inr : ∀ {w : Str}, r.lookup w = some c → c ∈ r.map (·.2) := fun h => List.mem_map.mpr ⟨_, mem_of_lookup h, rfl⟩
    rw [List.lookup_cons] at h1 h2
    split at h1 <;> split at h2
    · rename_i e1 _ e2
      rw [eq_of_beq e1, eq_of_beq e2]
    · cases h1; exact absurd (inr h2) nd.1
    · cases h2; exact absurd (inr h1) nd.1
    · exact lookup_inj nd.2 h1 h2
theorem seqO_ne_cell {o : Obj} {v : Option Value} (h : o.data = .cell v) : ¬ SeqO o := fun ⟨_, _, e⟩ => by rw [h] at e; cases e
/-- the ledger, with another object at one place -/
def putAt (c : Addr) (o : Obj) (l : Led) : Led := (c, o) :: l.filter fun q => q.1 != c
theorem putAt_mem {c : Addr} {o : Obj} {l : Led} {q : Addr × Obj} (h : q ∈ l) (hn : q.1 ≠ c) : q ∈ putAt c o l := .tail _ (List.mem_filter.mpr ⟨h, by simpa using hn⟩)
theorem news_put {h₀ h h' : Heap} {L c : Addr} {l : Led} {o o' : Obj} (N : News h₀ L h l) (hm : (c, o) ∈ l) (hs : Heap.SameBut c h h') (ho : h'.get? c = some o') : News h₀ L h' (putAt c o' l) := fun q hq => by
  have hc := N _ hm
  rcases List.mem_cons.mp hq with rfl | hq
  · exact ⟨ho, hc.2⟩
  · obtain ⟨hq, hn⟩ := List.mem_filter.mp hq
    have hn : q.1 ≠ c := by simpa using hn
    exact ⟨(hs.2 _ hn).trans (N q hq).1, (N q hq).2⟩
theorem at_store {x : Str} {va : Value} {a : V} {ρ' : Loc} {R : Unit → Wd σ → Loc → Prop} (r : Rep wd.S va a) (hs : SetN f.ws ρ x a ρ') (h : ∀ wd', wd.le wd' → R () wd' ρ') :
    At σ wd ρ (storeName σ.env x va) R X := fun l Q E hQ _ tk₀ => by
  refine wpC_of ?_
  have hwne : f.ws ≠ [] := fun e => by have := hs.mem; rw [e] at this; cases this
  obtain ⟨hw, hcomp, hown⟩ : f.ws = f.ns ∧ f.comp = none ∧ (f.cl = [] ∨ f.own = true) := σ.ok.wr.resolve_left hwne
  rw [hw] at hs
  have hk := σ.ok.lc x hs.mem
  have ecl : f.cells = f.cl := by unfold FI.cells; rw [hcomp]
  have esc : f.scope = f.cs := by unfold FI.scope; rw [hcomp]
  have eenv : σ.env = σ.fenv := by unfold Sit.env FI.env; rw [hcomp]
  rw [eenv]
  cases hc : f.cells.lookup x with
  | none =>
    rw [if_neg (not_mem_of_lookup hc), esc] at hk
    refine storeX_L wd.F wd.N (fun h' F' N' => ?_) σ.hk hk.1
    let wd' : Wd σ := ⟨{ wd.s with heap := h', toks := wd.s.toks + 1 }, upd wd.m x va, wd.news, wd.gr, wd.U, F', N'⟩
    have lo : LocOk wd' ρ' := by
      refine ⟨fun y v hy => ?_, fun ho q hq => l.cel ho q hq, fun q hq => l.tab q hq⟩
      rcases hs.get σ.ok.nd hy with ⟨rfl, rfl⟩ | ⟨e, hy⟩
      · unfold Holds
        rw [hc, hcomp]
        exact ⟨va, by show upd wd.m _ va _ = _; simp [upd], r⟩
      · have hH := l.loc y v hy
        unfold Holds at hH ⊢
        cases hcy : f.cells.lookup y with
        | some c => rw [hcy] at hH; exact hH
        | none =>
          rw [hcy, hcomp] at hH
          simp only
          rw [hcomp]
          obtain ⟨val, k1, k2⟩ := hH
          exact ⟨val, by show upd wd.m _ va _ = _; simp [upd, e, k1], k2⟩
    exact hQ () wd' ρ' ⟨⟨_, _, rfl⟩, fun _ h _ => h, fun e => absurd e hwne⟩ lo (h _ ⟨⟨_, _, rfl⟩, fun _ h _ => h, fun e => absurd e hwne⟩)
  | some c =>
    have hmem : (x, c) ∈ f.cl := ecl ▸ mem_of_lookup hc
    have hm : x ∈ f.cells.map (·.1) := List.mem_map.mpr ⟨_, mem_of_lookup hc, rfl⟩
    rw [if_pos hm, esc] at hk
    have ho : f.own = true := hown.resolve_left fun e => by rw [e] at hmem; cases hmem
    have hmut : c ∈ f.mut := by
      unfold FI.mut
      rw [if_pos ho]
      exact List.mem_append_left _ (List.mem_map.mpr ⟨_, hmem, rfl⟩)
    obtain ⟨o, v₀, k1, k2⟩ := l.cel ho _ hmem
    obtain ⟨n1, n2, n3⟩ : wd.s.heap.get? c = some o ∧ c ≠ σ.L ∧ wd.gr.get? c = none := wd.N _ k1
    have cell : wd.s.heap.IsCell c v₀ := ⟨o, n1, k2⟩
    have hc' : σ.fenv.cells.lookup x = some c := by show f.cl.lookup x = some c; rw [← ecl]; exact hc
    have hkind : f.cs.names.lookup x = some .cell ∨ f.cs.names.lookup x = some .free := hk.1
    have st : ∀ {Q : Unit → Shared → Prop} {E : Value → Shared → Prop}, (∀ h', h'.IsCell c (some va) → Heap.SameBut c wd.s.heap h' → Q () { wd.s with heap := h' }) → wpAny g.M σ.A (storeName σ.fenv x va) Q E wd.s := fun hh => by
      rcases hkind with k | k
      · exact wpAny_storeName_cell (env := σ.fenv) σ.hk k hc' cell hh
      · unfold storeName
        have kk : σ.fenv.kindOf x = some .free := k
        have k0 : σ.fenv.scope.kind = .function := σ.hk
        have e0 : (some NameKind.free == some NameKind.globalImplicit) = false := by decide
        have e1 : (f.cs.kind == ScopeKind.class) = false := by rw [σ.hk]; rfl
        simp only [kk, e0, e1, Bool.false_and, Bool.false_eq_true, if_false]
        refine wpAny_bind (wpAny_cellOf hc' ?_)
        exact wpAny_cellSet cell hh
    refine st fun h' hv hsb => ?_
    obtain ⟨o', ho', hd'⟩ := hv
    have F' : Fr wd.gr σ.L h' wd.m := ⟨wd.F.ns.sameBut hsb (Ne.symm n2), fun b ob e => (hsb.2 b (fun q => by rw [q, n3] at e; cases e)).trans (wd.F.keep b ob e), wd.F.above⟩
    let wd' : Wd σ := ⟨{ wd.s with heap := h' }, wd.m, putAt c o' wd.news, wd.gr, wd.U, F', news_put wd.N k1 hsb ho'⟩
    have sub : ∀ a o, wd.S a o → SeqO o → wd'.S a o := fun a ob hS hq => hS.imp (fun hS => putAt_mem hS fun e => by
      have := (wd.N _ hS).1
      rw [show (a, ob).1 = c from e] at this
      rw [n1] at this; cases this
      exact seqO_ne_cell k2 hq) id
    have le : wd.le wd' := ⟨⟨_, _, rfl⟩, fun q hq hst => by
      rcases hst with hst | hst
      · exact putAt_mem hq fun e => hst (e ▸ hmut)
      · exact putAt_mem hq fun e => by
          have := (wd.N _ hq).1
          rw [e, n1] at this; cases this
          exact seqO_ne_cell k2 hst, fun e => absurd e hwne⟩
    have lo : LocOk wd' ρ' := by
      refine ⟨fun y v hy => ?_, fun ho' q hq => ?_, fun q hq => ?_⟩
      · rcases hs.get σ.ok.nd hy with ⟨rfl, rfl⟩ | ⟨e, hy⟩
        · unfold Holds
          rw [hc]
          exact ⟨o', va, .head _, hd', r.mono sub⟩
        · have hH := l.loc y v hy
          unfold Holds at hH ⊢
          cases hcy : f.cells.lookup y with
          | some c' =>
            rw [hcy] at hH
            obtain ⟨oy, val, j1, j2, j3⟩ := hH
            exact ⟨oy, val, putAt_mem j1 fun e' => e (lookup_inj σ.ok.cu hcy (by rw [hc]; exact congrArg some e'.symm)), j2, j3.mono sub⟩
          | none =>
            rw [hcy, hcomp] at hH
            simp only
            rw [hcomp]
            obtain ⟨val, j1, j2⟩ := hH
            exact ⟨val, j1, j2.mono sub⟩
      · obtain ⟨oq, vq, j1, j2⟩ := l.cel ho' q hq
        by_cases e : q.2 = c
        · exact ⟨o', some va, by rw [e]; exact .head _, hd'⟩
        · exact ⟨oq, vq, putAt_mem j1 e, j2⟩
      · obtain ⟨ps, j1, j2, j3⟩ := l.tab q hq
        have ne : ∀ {b : Addr} {ob : Obj} {vs : Array Value}, (b, ob) ∈ wd.news → ob.data = .fields vs → b ≠ c := fun hb hd e => by
          have := (wd.N _ hb).1
          rw [show (_ : Addr) = c from e, n1] at this; cases this
          rw [k2] at hd; cases hd
        refine ⟨ps, putAt_mem j1 (ne j1 rfl), j2, fun pos cv e => ?_⟩
        obtain ⟨c', oc, vs, t, i1, i2, i3, i4⟩ := j3 pos cv e
        exact ⟨c', oc, vs, t, i1, putAt_mem i2 (ne i2 i3), i3, i4⟩
    exact hQ () wd' ρ' le lo (h _ le)
theorem at_bind {x : Str} {va : Value} {a : V} {ρ' : Loc} {R : Unit → Wd σ → Loc → Prop} (r : Rep wd.S va a) (hs : SetN f.ws ρ x a ρ') (h : ∀ wd', wd.le wd' → R () wd' ρ') :
    At σ wd ρ (bindName σ.env x va) R X := fun l Q E hQ hX tk₀ => wpC_bindName (at_store r hs h l Q E hQ hX tk₀)

/-- targets -/
def Asg (g : Glo) (f : FI) (d : Nat) (t : Expr) (v : V) (ρ : Loc) (Φ : Loc → Prop) (X : Prop) : Prop :=
  ∀ (σ : Sit g f d) (wd : Wd σ) (va : Value), Rep wd.S va v → At σ wd ρ (assign t σ.env va) (fun _ _ ρ' => Φ ρ') X
def AsgL (g : Glo) (f : FI) (d : Nat) (ts : List Expr) (vs : List V) (ρ : Loc) (Φ : Loc → Prop) (X : Prop) : Prop :=
  ∀ (σ : Sit g f d) (wd : Wd σ) (vals : List Value), RepL wd.S vals vs → At σ wd ρ (assignInOrder ((assignEach ts σ.env).map (·.2)) vals) (fun _ _ ρ' => Φ ρ') X
variable {Φ : Loc → Prop}
theorem asg_name {x : Str} {v : V} {ρ' : Loc} (hs : SetN f.ws ρ x v ρ') (h : Φ ρ') : Asg g f d (.Name x pos) v ρ Φ X := fun σ wd va r => by
  show At σ wd ρ (do PySem.standAt pos; bindName σ.env x va) _ _
  exact .stand (at_bind r hs fun _ _ => h)
theorem asgL_nil (h : Φ ρ) : AsgL g f d [] [] ρ Φ X := fun σ wd vals r => by
  cases r
  exact .pure h
theorem asgL_cons {t : Expr} {ts : List Expr} {v : V} {vs : List V} (h : Asg g f d t v ρ (fun ρ₁ => AsgL g f d ts vs ρ₁ Φ X) X)
    (he : ∀ env, assignEach (t :: ts) env = (false, assign t env) :: assignEach ts env := by intro; rfl) : AsgL g f d (t :: ts) (v :: vs) ρ Φ X := fun σ wd vals r => by
  cases r with
  | cons r rs =>
    rename_i va vals
    rw [he]
    show At σ wd ρ (do PySem.holding vals (assign t σ.env va); assignInOrder ((assignEach ts σ.env).map (·.2)) vals) _ _
    exact .bind (.holding ((h σ wd va r).mono fun _ wd₁ ρ₁ l₁ h₁ => h₁ σ wd₁ vals (l₁.repL rs)))

theorem at_unpack {va : Value} {vs : List V} {n : Nat} {R : List Value → Wd σ → Loc → Prop} (r : Rep wd.S va (.tup vs) ∨ Rep wd.S va (.lst vs)) (hn : n = vs.length)
    (h : ∀ vals wd', wd.le wd' → RepL wd'.S vals vs → R vals wd' ρ) : At σ wd ρ (unpackItems va n none) R X := fun l Q E hQ _ tk₀ => by
  refine wpC_of ?_
  rcases r with r | r <;> cases r <;> rename_i a o items n' hS hc hd rs
  · have hT : IsTup wd.s.heap a items.toArray := ⟨_, Sup.heap wd hS, hc, _, hd⟩
    have := hn.trans rs.length.symm
    refine (show n = items.toArray.size by simpa using this) ▸ ?_
    refine unpackItems_tuple rfl hT fun h' he => ?_
    have hk : ∀ b o, wd.s.heap.get? b = some o → h'.get? b = some o := fun b o e => he b o (Nat.ne_of_lt (Heap.lt_size e)) e
    exact hQ _ (wd.grow h' wd.s.toks hk) ρ wd.le_grow l.grow (h _ _ wd.le_grow (by simpa using rs))
  · have hT : wd.s.heap.IsList a items.toArray := ⟨_, Sup.heap wd hS, hc, _, hd⟩
    have := hn.trans rs.length.symm
    refine (show n = items.toArray.size by simpa using this) ▸ ?_
    refine kun_itemsOf rfl hT fun h' he => ?_
    have hk : ∀ b o, wd.s.heap.get? b = some o → h'.get? b = some o := fun b o e => he b o (Nat.ne_of_lt (Heap.lt_size e)) e
    exact hQ _ (wd.grow h' wd.s.toks hk) ρ wd.le_grow l.grow (h _ _ wd.le_grow (by simpa using rs))
theorem asg_tuple_of {ts : List Expr} {k : Nat} {v : V} {vs : List V} (hv : v = .tup vs ∨ v = .lst vs) (h : AsgL g f d ts vs ρ Φ X) (hn : ts.length = vs.length)
    (hl : ∀ env, (assignEach ts env).length = ts.length := by intro; rfl) (hs : ∀ env, (assignEach ts env).findIdx? (·.1) = none := by intro; rfl) : Asg g f d (.Tuple ts k pos) v ρ Φ X := fun σ wd va r => by
  show At σ wd ρ (do PySem.standAt pos; unpack va (assignEach ts σ.env)) _ _
  refine .stand ?_
  unfold unpack
  rw [hs, hl]
  have r' : Rep wd.S va (.tup vs) ∨ Rep wd.S va (.lst vs) := by
    rcases hv with e | e
    · exact .inl (e ▸ r)
    · exact .inr (e ▸ r)
  exact .bind (.holding (at_unpack (vs := vs) r' hn fun vals wd' l' rs => h σ wd' vals rs))
theorem asg_tup {ts : List Expr} {k : Nat} {vs : List V} (h : AsgL g f d ts vs ρ Φ X) (hn : ts.length = vs.length := by rfl)
    (hl : ∀ env, (assignEach ts env).length = ts.length := by intro; rfl) (hs : ∀ env, (assignEach ts env).findIdx? (·.1) = none := by intro; rfl) : Asg g f d (.Tuple ts k pos) (.tup vs) ρ Φ X := asg_tuple_of (.inl rfl) h hn hl hs
theorem asg_lst {ts : List Expr} {k : Nat} {vs : List V} (h : AsgL g f d ts vs ρ Φ X) (hn : ts.length = vs.length := by rfl)
    (hl : ∀ env, (assignEach ts env).length = ts.length := by intro; rfl) (hs : ∀ env, (assignEach ts env).findIdx? (·.1) = none := by intro; rfl) : Asg g f d (.Tuple ts k pos) (.lst vs) ρ Φ X := asg_tuple_of (.inr rfl) h hn hl hs
end

section
variable {g : Glo} {f : FI} {d : Nat} {ρ : Loc} {X : Prop} {pos : Pos} {σ : Sit g f d} {wd : Wd σ} {Φ : Fl → Loc → Prop}

theorem ex_assign {t value : Expr} (h : Ev g f d value ρ (fun v ρ₁ => Asg g f d t v ρ₁ (Φ .next) X) X)
    (h1 : ∀ env, swapsWithSole [t] value pos.line env = pure false := by intro; rfl) (h2 : ∀ L, swappedStores [t] value (f.env L) = pure none := by intro; rfl)
    (h3 : ∀ env, (assignEach [t] env).map (·.2) = [assign t env] := by intro; rfl) : Ex g f d (.Assign [t] value pos) ρ Φ X := fun σ wd => by
  show At σ wd ρ (do
    PySem.standAt pos
    if ← swapsWithSole [t] value pos.line σ.env then do
      evalThenUse value σ.env fun v => assignAll v ((assignEach [t] σ.env).map (·.2))
      Pure.pure .next
    else do
      let v ← eval value σ.env
      assignStores σ.env v (← swappedStores [t] value σ.env) ((assignEach [t] σ.env).map (·.2))) _ _
  rw [h1, h2, h3]
  refine .stand (.bind (.pure ?_))
  show At σ wd ρ (do
      let v ← eval value σ.env
      assignStores σ.env v (← (Pure.pure none : Sem (Option (List Str)))) [assign t σ.env]) _ _
  refine .bind ((h σ wd).mono fun va wd₁ ρ₁ l₁ ⟨a, ra, ha⟩ => .bind (.pure ?_))
  show At σ wd₁ ρ₁ (do assignAll va [assign t σ.env]; Pure.pure Flow.next) _ _
  exact .bind ((ha σ wd₁ va ra).mono fun _ wd₂ ρ₂ l₂ h₂ => .pure ⟨_, .next, h₂⟩)

/-- stores in the other order -/
def AsgN (g : Glo) (f : FI) (d : Nat) : List Str → List V → Loc → (Loc → Prop) → Prop
  | [], [], ρ, Φ => Φ ρ
  | x :: xs, v :: vs, ρ, Φ => ∃ ρ', SetN f.ws ρ x v ρ' ∧ AsgN g f d xs vs ρ' Φ
  | _, _, _, _ => False
theorem asgN_at {Ψ : Loc → Prop} : ∀ (xs : List Str) (vs : List V) (ρ : Loc) (wd : Wd σ) (vals : List Value), RepL wd.S vals vs → AsgN g f d xs vs ρ Ψ →
    At σ wd ρ (assignInOrder (xs.map fun n => bindName σ.env n) vals) (fun _ _ ρ' => Ψ ρ') X := by
  intro xs
  induction xs with
  | nil =>
    intro vs ρ wd vals r h
    cases r with
    | nil => exact .pure h
    | cons r rs => exact h.elim
  | cons x xs ih =>
    intro vs ρ wd vals r h
    cases r with
    | nil => exact h.elim
    | cons r rs =>
      rename_i v vals y vs
      show At σ wd _ (do PySem.holding vals (bindName σ.env x v); assignInOrder (xs.map fun n => bindName σ.env n) vals) _ _
      obtain ⟨ρ', hs, hN⟩ := h
      exact .bind (.holding (at_bind r hs fun wd' l' => ih vs _ wd' vals (l'.repL rs) hN))
theorem RepL.rev {S : Addr → Obj → Prop} : ∀ {vs : List Value} {xs : List V}, RepL S vs xs → RepL S vs.reverse xs.reverse
  | _, _, .nil => .nil
  | _, _, .cons a b => by simp only [List.reverse_cons]; exact (RepL.rev b).append (.cons a .nil)
theorem ex_assign_swap {t value : Expr} {names : List Str} (hs : ∀ L, swappedStores [t] value (f.env L) = pure (some names))
    (h : Ev g f d value ρ (fun v ρ₁ => ∃ vs, v = .tup vs ∧ names.length = vs.length ∧ AsgN g f d names.reverse vs.reverse ρ₁ (Φ .next)) X)
    (h1 : ∀ env, swapsWithSole [t] value pos.line env = pure false := by intro; rfl) : Ex g f d (.Assign [t] value pos) ρ Φ X := fun σ wd => by
  show At σ wd ρ (do
    PySem.standAt pos
    if ← swapsWithSole [t] value pos.line σ.env then do
      evalThenUse value σ.env fun v => assignAll v ((assignEach [t] σ.env).map (·.2))
      Pure.pure .next
    else do
      let v ← eval value σ.env
      assignStores σ.env v (← swappedStores [t] value σ.env) ((assignEach [t] σ.env).map (·.2))) _ _
  rw [h1, hs]
  refine .stand (.bind (.pure ?_))
  show At σ wd ρ (do
      let v ← eval value σ.env
      assignStores σ.env v (← (Pure.pure (some names) : Sem (Option (List Str)))) ((assignEach [t] σ.env).map (·.2))) _ _
  refine .bind ((h σ wd).mono fun va wd₁ ρ₁ l₁ ⟨a, ra, vs, e, hn, hN⟩ => .bind (.pure ?_))
  subst e
  show At σ wd₁ ρ₁ (do
    rule "assign.swapped-stores"
    let items ← unpackItems va names.length none
    assignInOrder (names.reverse.map fun n => bindName σ.env n) items.reverse
    Pure.pure Flow.next) _ _
  refine .bind (At.leaf fun Q E q => wpAny_rule (q () _ ?_))
  refine .bind (at_unpack (.inl ra) hn fun vals wd₂ l₂ rs => ?_)
  exact .bind ((asgN_at _ _ _ _ _ rs.rev hN).mono fun _ wd₃ ρ₃ l₃ h₃ => .pure ⟨_, .next, h₃⟩)

theorem ex_aug {x : Str} {op : Operator} {value : Expr} {np : Pos} {v : V} (hv : GetN f.ns ρ x v)
    (h : Ev g f d value ρ (fun b ρ₁ => Op2 (inplaceOp op) g f d v b (fun c => ∃ ρ', SetN f.ws ρ₁ x c ρ' ∧ Φ .next ρ') X) X) :
    Ex g f d (.AugAssign (.Name x np) op value pos) ρ Φ X := fun σ wd => by
  show At σ wd ρ (do
    PySem.standAt np
    let old ← loadName σ.env x
    let v ← PySem.holding [old] (eval value σ.env)
    PySem.standAt pos
    let new ← PySem.operate [old, v] (inplaceOp op old v)
    PySem.standAt np
    bindName σ.env x new
    Pure.pure Flow.next) _ _
  refine .stand (.bind (at_load hv fun val h2 => ?_))
  refine .bind (.holding ((h σ wd).mono fun vb wd₁ ρ₁ l₁ ⟨b, rb, hb⟩ => .stand ?_))
  refine .bind (.operate ((hb σ wd₁ ρ₁ val vb (l₁.rep h2) rb).mono fun vc wd₂ ρ₂ l₂ ⟨e, c, rc, hc⟩ => .stand ?_))
  subst e
  obtain ⟨ρ', hs, hc⟩ := hc
  exact .bind (at_bind rc hs fun wd₃ l₃ => .pure ⟨_, .next, hc⟩)

theorem ex_if {t : Expr} {a b : List Stmt} (h : Tst g f d t ρ (fun c ρ₁ => (c = true → Exs g f d a ρ₁ Φ X) ∧ (c = false → Exs g f d b ρ₁ Φ X)) X) : Ex g f d (.If t a b pos) ρ Φ X := fun σ wd => by
  show At σ wd ρ (do PySem.standAt pos; if ← isTrue t σ.env (eval t σ.env) then execs a σ.env else execs b σ.env) _ _
  refine .stand (.bind ((h σ wd).mono fun c wd₁ ρ₁ l₁ hc => ?_))
  cases c with
  | true => exact hc.1 rfl σ wd₁
  | false => exact hc.2 rfl σ wd₁
theorem ex_return {e : Expr} (h : Ev g f d e ρ (fun v ρ₁ => Φ (.ret v) ρ₁) X) : Ex g f d (.Return (some e) pos) ρ Φ X := fun σ wd => by
  show At σ wd ρ (do PySem.standAt pos; return Flow.ret (← eval e σ.env)) _ _
  exact .stand (.bind ((h σ wd).mono fun va wd₁ ρ₁ l₁ ⟨a, ra, ha⟩ => .pure ⟨_, .ret ra, ha⟩))
theorem ex_assert {t : Expr} {msg : Option Expr} (h : Tst g f d t ρ (fun c ρ₁ => c = true ∧ Φ .next ρ₁) X) : Ex g f d (.Assert t msg pos) ρ Φ X := fun σ wd => by
  show At σ wd ρ (do PySem.standAt pos; if ← isTrue t σ.env (eval t σ.env) then Pure.pure Flow.next else assertFails t.pos (evalOpt msg σ.env)) _ _
  refine .stand (.bind ((h σ wd).mono fun c wd₁ ρ₁ l₁ hc => ?_))
  rw [hc.1]
  exact .pure ⟨_, .next, hc.2⟩
theorem exs_nil (h : Φ .next ρ) : Exs g f d [] ρ Φ X := fun σ wd => At.pure ⟨_, .next, h⟩
def Then (g : Glo) (f : FI) (d : Nat) (rest : List Stmt) (Φ : Fl → Loc → Prop) (X : Prop) : Fl → Loc → Prop
  | .next, ρ => Exs g f d rest ρ Φ X
  | fl, ρ => Φ fl ρ
theorem then_next {rest : List Stmt} (h : Exs g f d rest ρ Φ X) : Then g f d rest Φ X .next ρ := h
theorem then_nil (h : Φ .next ρ) : Then g f d [] Φ X .next ρ := exs_nil h
theorem then_ret {rest : List Stmt} {v : V} (h : Φ (.ret v) ρ) : Then g f d rest Φ X (.ret v) ρ := h
def Join (J : Loc → Prop) (Φ : Fl → Loc → Prop) : Fl → Loc → Prop
  | .next, ρ => J ρ
  | fl, ρ => Φ fl ρ
theorem join_next {J : Loc → Prop} (h : J ρ) : Join J Φ .next ρ := h
theorem join_ret {J : Loc → Prop} {v : V} (h : Φ (.ret v) ρ) : Join J Φ (.ret v) ρ := h
theorem exs_cons {st : Stmt} {rest : List Stmt} (h : Ex g f d st ρ (Then g f d rest Φ X) X) : Exs g f d (st :: rest) ρ Φ X := fun σ wd => by
  show At σ wd ρ (do
    match ← exec st σ.env with
    | .next => execs rest σ.env
    | f => Pure.pure f) _ _
  refine .bind ((h σ wd).mono fun fl wd₁ ρ₁ l₁ ⟨x, rx, hx⟩ => ?_)
  cases rx with
  | next => exact hx σ wd₁
  | brk => exact .pure ⟨_, .brk, hx⟩
  | cont => exact .pure ⟨_, .cont, hx⟩
  | ret r => exact .pure ⟨_, .ret r, hx⟩

theorem exs_join {st : Stmt} {rest : List Stmt} (J : Loc → Prop) (h : Ex g f d st ρ (Join J Φ) X) (hJ : ∀ ρ', J ρ' → Exs g f d rest ρ' Φ X) : Exs g f d (st :: rest) ρ Φ X :=
  exs_cons fun σ wd => (h σ wd).mono fun fl wd' ρ' _ ⟨x, rx, hx⟩ => ⟨x, rx, by
    cases x with
    | next => exact hJ ρ' hx
    | brk => exact hx
    | cont => exact hx
    | ret v => exact hx⟩
/-! argument lists, displays, calls -/
variable {Ψ : V → Loc → Prop}
theorem evs_nil {Θ : List V → Loc → Prop} (h : Θ [] ρ) : Evs g f d pos [] ρ Θ X := fun σ wd => At.pure ⟨_, .nil, h⟩
theorem evs_cons {e : Expr} {rest : List Expr} {Θ : List V → Loc → Prop} (h : Ev g f d e ρ (fun a ρ₁ => Evs g f d pos rest ρ₁ (fun vs ρ₂ => Θ (a :: vs) ρ₂) X) X)
    (he : ∀ env, starEach (e :: rest) env = (false, eval e env) :: starEach rest env := by intro; rfl) : Evs g f d pos (e :: rest) ρ Θ X := fun σ wd => by
  rw [he]
  show At σ wd ρ (do
    let v ← eval e σ.env
    let here ← (Pure.pure [v] : Sem (List Value))
    let there ← PySem.holding here (spliced (backTo pos (starEach rest σ.env)))
    Pure.pure (here ++ there)) _ _
  refine .bind ((h σ wd).mono fun va wd₁ ρ₁ l₁ ⟨a, ra, ha⟩ => .bind (.pure ?_))
  exact .bind (.holding ((ha σ wd₁).mono fun vals wd₂ ρ₂ l₂ ⟨vs, rs, hs⟩ => .pure ⟨a :: vs, .cons (l₂.rep ra) rs, hs⟩))
theorem at_tuple {vals : List Value} {vs : List V} (rs : RepL wd.S vals vs) (hsz : vs.length ≤ sizeLine) (h : Ψ (.tup vs) ρ) : At σ wd ρ (newTuple vals) (RV Ψ) X := fun l Q E hQ _ tk₀ => wpC_of <|
  newTuple_N wd.F wd.N (fun h' F' N' => hQ _ (wd.led h' wd.s.toks F' _ N') ρ (wd.le_led fun _ h => .tail _ h) (l.led fun _ h => .tail _ h) ⟨_, .tup (.inl (.head _)) rfl rfl (rs.mono (Sup.mono fun _ h => .tail _ h)), h⟩) (rs.length ▸ hsz)
theorem at_list {vals : List Value} {vs : List V} (rs : RepL wd.S vals vs) (hsz : vs.length ≤ sizeLine) (h : Ψ (.lst vs) ρ) : At σ wd ρ (newList vals) (RV Ψ) X := fun l Q E hQ _ tk₀ => wpC_of <|
  newList_N wd.F wd.N (fun h' F' N' => hQ _ (wd.led h' wd.s.toks F' _ N') ρ (wd.le_led fun _ h => .tail _ h) (l.led fun _ h => .tail _ h) ⟨_, .lst (.inl (.head _)) rfl rfl (rs.mono (Sup.mono fun _ h => .tail _ h)), h⟩) (rs.length ▸ hsz)
theorem ev_tuple {es : List Expr} {k : Nat} (h : Evs g f d pos es ρ (fun vs ρ₁ => vs.length ≤ sizeLine ∧ Ψ (.tup vs) ρ₁) X) : Ev g f d (.Tuple es k pos) ρ Ψ X := fun σ wd => by
  show At σ wd ρ (do PySem.standAt pos; newTuple (← spliced (backTo pos (starEach es σ.env)))) _ _
  exact .stand (.bind ((h σ wd).mono fun vals wd₁ ρ₁ l₁ ⟨vs, rs, hs⟩ => at_tuple rs hs.1 hs.2))
theorem ev_list {es : List Expr} (h : Evs g f d pos es ρ (fun vs ρ₁ => vs.length ≤ sizeLine ∧ Ψ (.lst vs) ρ₁) X) : Ev g f d (.List es pos) ρ Ψ X := fun σ wd => by
  show At σ wd ρ (do PySem.standAt pos; newList (← spliced (backTo pos (starEach es σ.env)))) _ _
  exact .stand (.bind ((h σ wd).mono fun vals wd₁ ρ₁ l₁ ⟨vs, rs, hs⟩ => at_list rs hs.1 hs.2))
theorem ev_named {x : Str} {np : Pos} {e : Expr} (h : Ev g f d e ρ (fun v ρ₁ => ∃ ρ', SetN f.ws ρ₁ x v ρ' ∧ Ψ v ρ') X) : Ev g f d (.NamedExpr (.Name x np) e pos) ρ Ψ X := fun σ wd => by
  show At σ wd ρ (do
    let v ← eval e σ.env
    PySem.holding [v] (assign (.Name x np) σ.env v)
    Pure.pure v) _ _
  refine .bind ((h σ wd).mono fun va wd₁ ρ₁ l₁ ⟨a, ra, ρ', hs, ha⟩ => .bind (.holding ?_))
  show At σ wd₁ ρ₁ (do PySem.standAt np; bindName σ.env x va) _ _
  exact .stand (at_bind ra hs fun wd₂ l₂ => .pure ⟨_, l₂.rep ra, ha⟩)

theorem at_args {c : Value} {first : List Value} {e : Expr} {rest : List Expr} {Θ : List V → Loc → Prop} (h : Evs g f d pos (e :: rest) ρ Θ X)
    (he : ∀ env, starEach (e :: rest) env = (false, eval e env) :: starEach rest env := by intro; rfl) :
    At σ wd ρ (evalArgs c true (backTo pos (starEach (e :: rest) σ.env)) []) (fun a wd' ρ' => a.kw = [] ∧ ∃ vs, RepL wd'.S a.pos vs ∧ Θ vs ρ') X := fun l Q E hQ hX tk₀ => by
  have h' := h σ wd l
  rw [he] at h' ⊢
  exact evalArgs_C (h' _ E (fun vals wd' ρ' l' lo z => hQ _ wd' ρ' l' lo ⟨rfl, z⟩) hX tk₀)

theorem at_callWith {c : Value} {first : List Value} {e : Expr} {rest : List Expr} {fs : List V} (hc : ∀ {Q : Value → Shared → Prop} {E s}, wpC g.M σ.A (evalArgs c true (backTo pos (starEach (e :: rest) σ.env)) [])
      (fun a s₁ => (∀ b o, g.K.lookup b = some o → s₁.heap.get? b = some o) ∧ wpC g.M σ.A (call c (first ++ a.pos) a.kw) Q E s₁) E s → wpC g.M σ.A (callWith pos c first (backTo pos (starEach (e :: rest) σ.env)) []) Q E s)
    (rf : RepL wd.S first fs) (h : Evs g f d pos (e :: rest) ρ (fun vs ρ₁ => Cl g f d c (fs ++ vs) (fun v => Ψ v ρ₁) X) X)
    (he : ∀ env, starEach (e :: rest) env = (false, eval e env) :: starEach rest env := by intro; rfl) :
    At σ wd ρ (callWith pos c first (backTo pos (starEach (e :: rest) σ.env)) []) (RV Ψ) X := fun l Q E hQ hX tk₀ => by
  refine hc ((at_args (c := c) (first := first) h he).run l (fun a wd₁ ρ₁ l₁ lo₁ ⟨ek, vs, rs, hs⟩ tk₁ => ⟨fun b o k => wd₁.F.keep _ _ (wd₁.X _ _ k), ?_⟩) hX tk₀)
  rw [ek]
  obtain ⟨h', tk, e'⟩ := l₁.st
  refine hs σ wd₁ ρ₁ _ ((l₁.repL rf).append rs) lo₁ Q E (fun v wd₂ ρ₂ l₂ lo₂ ⟨eρ, x, rx, hx⟩ => hQ v wd₂ ρ₂ (l₁.trans l₂) lo₂ ⟨x, rx, eρ ▸ hx⟩) (fun hx e h'' tk' fl => ?_) tk₁
  rw [e']
  exact hX hx e h'' tk' (fl.of_le l₁)
end

end
section


section
variable {g : Glo} {f : FI} {d : Nat} {ρ : Loc} {X : Prop} {pos : Pos} {Ψ : V → Loc → Prop}

def CvOk (K : Frag) (cv : Value) : Prop := (∃ id, cv = .builtin id) ∨ (∃ T, cv = .type T) ∨ keepIn K cv = true
theorem CvOk.fn {K : Frag} {cv : Value} (h : keepIn K cv = true) : CvOk K cv := .inr (.inr h)
theorem CvOk.blt {K : Frag} {id : String} : CvOk K (.builtin id) := .inl ⟨_, rfl⟩
theorem CvOk.typ {K : Frag} {T : String} : CvOk K (.type T) := .inr (.inl ⟨_, rfl⟩)
theorem backTo_any (pos : Pos) (l : List (Bool × Sem Value)) : (backTo pos l).any (·.1) = l.any (·.1) := by
  unfold backTo
  rw [List.any_map]
  rfl
theorem callWith_ok {M : Model} {A : Around} {K : Frag} {cv : Value} {first : List Value} {env : Env} {es : List Expr} {Q : Value → Shared → Prop} {E} {s : Shared} (hc : CvOk K cv)
    (hp : (starEach es env).any (·.1) = false)
    (h : wpC M A (evalArgs cv true (backTo pos (starEach es env)) [])
      (fun a s₁ => (∀ b o, K.lookup b = some o → s₁.heap.get? b = some o) ∧ wpC M A (call cv (first ++ a.pos) a.kw) Q E s₁) E s) :
    wpC M A (callWith pos cv first (backTo pos (starEach es env)) []) Q E s := by
  have hplain : (backTo pos (starEach es env)).any (·.1) = false := (backTo_any pos _).trans hp
  rcases hc with h1 | h1 | hk
  · exact callWith_fixC (.inl h1) hplain (wpC_mono h (fun _ _ x => x.2) fun _ _ x => x)
  · exact callWith_fixC (.inr h1) hplain (wpC_mono h (fun _ _ x => x.2) fun _ _ x => x)
  · exact callWith_K hk hplain (wpC_mono h (fun _ _ x => ⟨x.1, x.2⟩) fun _ _ x => x)

theorem at_callWith0 {σ : Sit g f d} {wd : Wd σ} {cv : Value} {first : List Value} {fs : List V} (hc : CvOk g.K cv) (rf : RepL wd.S first fs) (h : Cl g f d cv fs (fun v => Ψ v ρ) X) :
    At σ wd ρ (callWith pos cv first (backTo pos (starEach [] σ.env)) []) (RV Ψ) X := fun l Q E hQ hX tk₀ => by
  refine callWith_ok (es := []) hc rfl (wpC_of (PySem.evalArgs_none ⟨fun b o k => wd.F.keep _ _ (wd.X _ _ k), ?_⟩))
  refine h σ wd ρ _ (by simpa using rf) l Q E (fun v wd₂ ρ₂ l₂ lo₂ ⟨eρ, x, rx, hx⟩ => hQ v wd₂ ρ₂ l₂ lo₂ ⟨x, rx, eρ ▸ hx⟩) hX tk₀
theorem at_callWith1 {σ : Sit g f d} {wd : Wd σ} {cv : Value} {first : List Value} {fs : List V} {e : Expr} {rest : List Expr} (hc : CvOk g.K cv) (rf : RepL wd.S first fs) (h : Evs g f d pos (e :: rest) ρ (fun vs ρ₁ => Cl g f d cv (fs ++ vs) (fun v => Ψ v ρ₁) X) X)
    (he : ∀ env, starEach (e :: rest) env = (false, eval e env) :: starEach rest env := by intro; rfl) (hp : ∀ env, (starEach (e :: rest) env).any (·.1) = false := by intro; rfl) :
    At σ wd ρ (callWith pos cv first (backTo pos (starEach (e :: rest) σ.env)) []) (RV Ψ) X :=
  at_callWith (c := cv) (fun {Q E s} h => callWith_ok hc (hp _) h) rf h he

theorem ev_call {x : Str} {np : Pos} {cv : Value} {e : Expr} {rest : List Expr} (hn : Ev g f d (.Name x np) ρ (fun c ρ₁ => c = .obj cv ∧ ρ₁ = ρ) X) (hc : CvOk g.K cv)
    (h : Evs g f d pos (e :: rest) ρ (fun vs ρ₁ => Cl g f d cv vs (fun v => Ψ v ρ₁) X) X)
    (he : ∀ env, starEach (e :: rest) env = (false, eval e env) :: starEach rest env := by intro; rfl) (hp : ∀ env, (starEach (e :: rest) env).any (·.1) = false := by intro; rfl) :
    Ev g f d (.Call (.Name x np) (e :: rest) [] pos) ρ Ψ X := fun σ wd => by
  show At σ wd ρ (do callWith pos (← eval (.Name x np) σ.env) [] (backTo pos (starEach (e :: rest) σ.env)) []) _ _
  refine .bind ((hn σ wd).mono fun va wd₁ ρ₁ l₁ ⟨a, ra, ea, eρ⟩ => ?_)
  subst ea
  subst eρ
  cases ra
  exact at_callWith1 hc .nil h he hp

def TypV : V → String → Prop
  | .str _, T => T = "str"
  | .int _, T => T = "int"
  | _, _ => False
theorem ev_meth0 {o : Expr} {name : Str} {apos : Pos} {T id : String} (pa : PlainAttrs T) (slot : Slot T name id) (hty : typeOf (.builtin id) = pure (.type "method_descriptor"))
    (h : Ev g f d o ρ (fun a ρ₁ => TypV a T ∧ Cl g f d (.builtin id) [a] (fun v => Ψ v ρ₁) X) X)
    (hbase : ∀ env, attributeBase o name env (eval o env) = eval o env := by intro; rfl) (hline : (apos.endLine == pos.line) = true := by rfl) :
    Ev g f d (.Call (.Attribute o name apos) [] [] pos) ρ Ψ X := fun σ wd l Q E hQ hX tk₀ => by
  refine Call_methodC (hbase _) (by rfl) hline pa slot hty ?_
  refine (h σ wd).run l (fun va wd₁ ρ₁ l₁ lo₁ ⟨a, ra, ta, ha⟩ tk₁ => ?_) hX tk₀
  obtain ⟨h', tk, e'⟩ := l₁.st
  have r := at_callWith0 (pos := pos) (first := [va]) CvOk.blt (.cons ra .nil) ha lo₁ Q E (fun v wd₂ ρ₂ l₂ lo₂ z => hQ v wd₂ ρ₂ (l₁.trans l₂) lo₂ z) (fun hx e h'' tk' fl => by
      rw [e']
      exact hX hx e h'' tk' (fl.of_le l₁)) tk₁
  cases ra <;> first | exact ta.elim | skip
  · cases ta; exact ⟨typeIs_int _ _ _, (fun a h => by cases h), r⟩
  · cases ta; exact ⟨typeIs_str _ _ _, (fun a h => by cases h), r⟩
theorem ev_meth1 {o : Expr} {name : Str} {apos : Pos} {T id : String} {e : Expr} {rest : List Expr} (pa : PlainAttrs T) (slot : Slot T name id) (hty : typeOf (.builtin id) = pure (.type "method_descriptor"))
    (h : Ev g f d o ρ (fun a ρ₁ => TypV a T ∧ Evs g f d pos (e :: rest) ρ₁ (fun vs ρ₂ => Cl g f d (.builtin id) (a :: vs) (fun v => Ψ v ρ₂) X) X) X)
    (hfew : ∀ env, ((backTo pos (starEach (e :: rest) env)).all (fun x => !x.1) && (backToKw pos (keywordEach [] env)).all (fun x => x.1.isSome)
      && decide ((e :: rest).length + ([] : List Keyword).length + (if ([] : List Keyword).isEmpty then 0 else 1) < 30)) = true := by intro; rfl)
    (hbase : ∀ env, attributeBase o name env (eval o env) = eval o env := by intro; rfl) (hline : (apos.endLine == pos.line) = true := by rfl)
    (he : ∀ env, starEach (e :: rest) env = (false, eval e env) :: starEach rest env := by intro; rfl) (hp : ∀ env, (starEach (e :: rest) env).any (·.1) = false := by intro; rfl) :
    Ev g f d (.Call (.Attribute o name apos) (e :: rest) [] pos) ρ Ψ X := fun σ wd l Q E hQ hX tk₀ => by
  refine Call_methodC (hbase _) (hfew _) hline pa slot hty ?_
  refine (h σ wd).run l (fun va wd₁ ρ₁ l₁ lo₁ ⟨a, ra, ta, ha⟩ tk₁ => ?_) hX tk₀
  obtain ⟨h', tk, e'⟩ := l₁.st
  have r := at_callWith1 (pos := pos) (first := [va]) (fs := [a]) CvOk.blt (.cons ra .nil) ha he hp lo₁ Q E (fun v wd₂ ρ₂ l₂ lo₂ z => hQ v wd₂ ρ₂ (l₁.trans l₂) lo₂ z) (fun hx e h'' tk' fl => by
      rw [e']
      exact hX hx e h'' tk' (fl.of_le l₁)) tk₁
  cases ra <;> first | exact ta.elim | skip
  · cases ta; exact ⟨typeIs_int _ _ _, (fun a h => by cases h), r⟩
  · cases ta; exact ⟨typeIs_str _ _ _, (fun a h => by cases h), r⟩

/-! entering a def -/
inductive RepP (S : Addr → Obj → Prop) : List (Str × Value) → List (Str × V) → Prop
  | nil : RepP S [] []
  | cons {x v y r s} : Rep S v y → RepP S r s → RepP S ((x, v) :: r) ((x, y) :: s)
section
variable {S : Addr → Obj → Prop}
theorem RepP.app : ∀ {a b} {c e}, RepP S a b → RepP S c e → RepP S (a ++ c) (b ++ e)
  | _, _, _, _, .nil, k => k
  | _, _, _, _, .cons h r, k => .cons h (RepP.app r k)
theorem RepP.rev : ∀ {a b}, RepP S a b → RepP S a.reverse b.reverse
  | _, _, .nil => .nil
  | _, _, .cons h r => by simp only [List.reverse_cons]; exact (RepP.rev r).app (.cons h .nil)
theorem RepP.get {x : Str} {v : V} : ∀ {a b}, RepP S a b → b.lookup x = some v → ∃ val, a.lookup x = some val ∧ Rep S val v
  | _, _, .nil, h => by simp at h
  | (y, w) :: a, (_, u) :: b, .cons k r, h => by
    rw [List.lookup_cons] at h ⊢
    cases e : x == y with
    | true => simp only [e] at h ⊢; cases h; exact ⟨w, rfl, k⟩
    | false => simp only [e] at h ⊢; exact RepP.get r h
theorem RepP.zip : ∀ {names : List Str} {a b}, RepL S a b → RepP S (names.zip a) (names.zip b)
  | [], _, _, _ => by simpa using .nil
  | _ :: _, _, _, .nil => by simpa using .nil
  | n :: ns, _, _, .cons h r => by simp only [List.zip_cons_cons]; exact .cons h (RepP.zip r)
end

theorem lookup_of_mem {α : Type} {x : Str} {v : α} : ∀ {l : List (Str × α)}, (l.map (·.1)).Nodup → (x, v) ∈ l → l.lookup x = some v
  | (y, u) :: l, nd, h => by
    simp only [List.map_cons, List.nodup_cons] at nd
    rw [List.lookup_cons]
    rcases List.mem_cons.mp h with e | h
    · cases e; simp
    · have : x ≠ y := fun e => nd.1 (e ▸ List.mem_map.mpr ⟨(x, v), h, rfl⟩)
      have e : (x == y) = false := by simpa using this
      rw [e]
      exact lookup_of_mem nd.2 h
theorem GetN.smem : ∀ {ns ρ x v}, GetN ns ρ x v → some v ∈ ρ
  | _, _, _, _, .here => .head _
  | _, _, _, _, .there h => .tail _ h.smem
theorem GetN.zip {x : Str} {v : V} : ∀ {names more : List Str} {as : List V} {rest : Loc}, names.length = as.length → (∀ o ∈ rest, o = none) → GetN (names ++ more) (as.map some ++ rest) x v → (x, v) ∈ names.zip as
  | [], more, [], rest, _, hr, h => by
    have hm := h.smem
    simp only [List.map_nil, List.nil_append] at hm
    exact absurd (hr _ hm) (by simp)
  | n :: names, more, a :: as, rest, hl, hr, h => by
    simp only [List.cons_append, List.map_cons] at h
    cases h with
    | here => exact .head _
    | there h => exact .tail _ (GetN.zip (by simpa using hl) hr h)

theorem Cl.mono {c : Value} {as : List V} {Φ Φ' : V → Prop} (h : Cl g f d c as Φ X) (k : ∀ v, Φ v → Φ' v) : Cl g f d c as Φ' X := fun σ wd ρ vals rs =>
  (h σ wd ρ vals rs).mono fun val wd' ρ' _ ⟨e, v, r, q⟩ => ⟨e, v, r, k v q⟩
theorem Cl.eq {c : Value} {as : List V} {r : V} {Φ' : V → Prop} (h : Cl g f d c as (fun v => v = r) X) (k : Φ' r) : Cl g f d c as Φ' X := h.mono fun v e => e ▸ k
theorem ok_plain {cn : Str} {cs : Scope} {a : Addr} {ccd : Value} {ns gs : List Str} (hk : cs.kind = .function) (nd : ns.Nodup) (lc : ∀ x ∈ ns, cs.names.lookup x = some .local ∧ ((x == ("__debug__" : Str)) = false ∧ (x == ("__classdict__" : Str)) = false))
    (gc : ∀ x ∈ gs, cs.names.lookup x = some .globalImplicit ∧ (x == ("__debug__" : Str)) = false) : (FIp cn cs a ccd ns gs).Ok :=
  ⟨⟨hk, hk⟩, nd, fun x hx => ⟨by
    show (if x ∈ ([] : List Str) then _ else cs.names.lookup x = some .local)
    rw [if_neg List.not_mem_nil]
    exact (lc x hx).1, (lc x hx).2⟩, gc, fun q hq => (by cases hq), List.nodup_nil, .inr ⟨rfl, rfl, .inl rfl⟩, List.nodup_nil⟩
theorem ok_must {cn : Str} {cs : Scope} {a : Addr} {ccd : Value} {ns gs : List Str} {must : Led} (h : (FIp cn cs a ccd ns gs).Ok) : ({ FIp cn cs a ccd ns gs with must := must } : FI).Ok :=
  ⟨h.hk, h.nd, h.lc, h.gc, fun q _ => .plain rfl rfl q, h.cd, h.wr, h.cu⟩
/-! an exception leaves a frame -/
theorem frames_mem {env : Env} {outer : List Env} {L b : Addr} (hf : env.frame = some L) (hm : b ∈ (env :: outer).filterMap (·.frame)) : b = L ∨ b ∈ outer.filterMap (·.frame) := by
  rw [List.filterMap_cons, hf] at hm
  exact List.mem_cons.mp hm
section
variable {M : Model} {A : Around} {E : Value → Shared → Prop} {s' : Shared} {base g₁ g₂ h : Heap} {outer : List Env} {L e : Addr} {m : Str → Option Value} {env : Env} {Q : Unit → Shared → Prop} {news : Led}
theorem leave_newT {cls : String} (hf : env.frame = some L) (hke : env.scope.kind = .function) (K : Below A base outer g₁) (F : Fr g₁ L h m) (N : News g₁ L h news) (hx : Heap.NewExc h s'.heap e cls)
    (hQ : ∀ h', RaisedSN base g₁ outer e (.type cls) news h' → g₁.UpToSlots h' → Q () { s' with heap := h' }) : wpAny M (A.deeper env) (leaving env (.ref e)) Q E s' := by
  have K₂ := pushX K F hf hke
  have bare : ∀ {b o}, h.get? b = some o → b ≠ L → b ∉ outer.filterMap (·.frame) → (hideAll h ((env :: outer).filterMap (·.frame))).get? b = some o := fun e1 e2 e3 => hideAll_get _ e1 fun hm => (frames_mem hf hm).elim e2 e3
  have gone : ∀ {b}, h.get? b = none → (hideAll h ((env :: outer).filterMap (·.frame))).get? b = none := fun {b} e1 => by
    cases q : (hideAll h ((env :: outer).filterMap (·.frame))).get? b with
    | none => rfl
    | some o => rw [of_hideAll _ q] at e1; cases e1
  have c1 : base.StaysIn (hideAll h ((env :: outer).filterMap (·.frame))) := fun b o q => hideAll_get _ (K₂.stays b o q) fun hm => by
    have := (K₂.frames.mem hm).1
    rw [q] at this; cases this
  have c2 : ∀ b o, g₁.get? b = some o → b ∉ outer.filterMap (·.frame) → (hideAll h ((env :: outer).filterMap (·.frame))).get? b = some o := fun b o q nm =>
    bare (F.keep b o q) (fun z => by rw [z, kts_self F] at q; cases q) nm
  have c3 : ∀ q ∈ news, (hideAll h ((env :: outer).filterMap (·.frame))).get? q.1 = some q.2 ∧ g₁.get? q.1 = none ∧ base.get? q.1 = none := fun q hq => by
    obtain ⟨n1, n2, n3⟩ := N q hq
    refine ⟨bare n1 n2 fun hm => ?_, n3, fresh_of_stays K.stays n3⟩
    obtain ⟨_, o, ho, _⟩ := K.frames.mem hm
    rw [n3] at ho; cases ho
  obtain ⟨ob, tp, he, hcls, hd⟩ := hx.there
  refine wpAny_leaving_firstW (a0 := tp) K₂.stack ((funFrames_hide K₂.frames fun env' he' b hb => List.mem_filterMap.mpr ⟨env', he', hb⟩).of_keeps fun b o hb _ => ⟨o, hx.keeps b o hb, rfl⟩) hf he (fun b o hb => hx.keeps b o (of_hideAll _ hb)) (gone hx.new) hd rfl rfl fun h' hL => ?_
  obtain ⟨k1, ⟨_, _, k2⟩, k3, k4⟩ := hL
  exact hQ h' ⟨_, tp, c1, c2, c3, k1, gone hx.new, k2, by rw [← hcls]; exact k3⟩ ((Heap.UpToSlots.of_keeps fun b o q => hx.keeps b o (F.keep b o q)).trans k4)
theorem leave_onT {cls : Value} (hf : env.frame = some L) (K : Below A base outer g₁) (F : Fr g₁ L g₂ m) (R : RaisedSN base g₂ (env :: outer) e cls news s'.heap) (hsm : g₂.UpToSlots s'.heap)
    (hQ : ∀ h', RaisedSN base g₁ outer e cls news h' → g₁.UpToSlots h' → Q () { s' with heap := h' }) : wpAny M (A.deeper env) (leaving env (.ref e)) Q E s' := by
  obtain ⟨B, a0, r1, r2, r3, r4⟩ := R
  refine wpAny_leaves_onW (Around.frames_deeper K.stack) hf r4 fun h' x1 x2 => hQ h' ⟨B, a0, r1, fun b o q nm => r2 b o (F.keep b o q) fun hm => ?_, fun q hq => ⟨(r3 q hq).1, kts_none F.keep (r3 q hq).2.1, (r3 q hq).2.2⟩, x1⟩ ((Heap.UpToSlots.of_keeps F.keep).trans (hsm.trans x2))
  rcases frames_mem hf hm with z | z
  · rw [z, kts_self F] at q; cases q
  · exact nm z
end
/-- what a call's exception leaves in the caller's frame -/
def Far {g f d} (σ : Sit g f d) (wd : Wd σ) (e : Addr) (h' : Heap) : Prop :=
  ∃ h m n gr, KtsTurn σ.fs σ.h₀ gr ∧ Fr gr σ.L h m ∧ (∀ q ∈ wd.news, Stays f q → q ∉ f.exc → q ∈ n) ∧ RaisedSN σ.base h (σ.fenv :: σ.outer) e (.type "ValueError") n h' ∧ h.UpToSlots h'
theorem Far.flies {σ : Sit g f d} {wd : Wd σ} {e : Addr} {h' : Heap} (x : Far σ wd e h') : Flies σ wd e h' := by
  obtain ⟨h, m, n, gr, h1, h2, h3, h4⟩ := x
  exact ⟨h, m, n, gr, h1, h2, h3, .inr h4⟩
theorem far_out {f' : FI} {d' : Nat} {σ : Sit g f d} {wd : Wd σ} {σ' : Sit g f' d'} {wd' : Wd σ'} {G : Heap} (FG : Fr wd.gr σ.L G wd.m) (e1 : σ'.h₀ = G) (e2 : σ'.base = σ.base) (e3 : σ'.outer = σ.fenv :: σ.outer) (e4 : σ'.A₀ = σ.A)
    (hn : ∀ q ∈ wd.news, Stays f q → q ∉ f.exc → q ∈ wd'.news ∧ Stays f' q ∧ q ∉ f'.exc) {e : Addr} {s' : Shared} {R : Value → Shared → Prop} {E : Value → Shared → Prop} (fl : Flies σ' wd' e s'.heap) (hX : ∀ h'', Far σ wd e h'' → R (.ref e) { s' with heap := h'' }) :
    wpAny g.M (σ.A.deeper σ'.fenv) (leaving σ'.fenv (.ref e)) (fun _ s'' => R (.ref e) s'') E s' := by
  obtain ⟨h₂, m₂, n, g₂, U₂, F₂, hn₂, hor⟩ := fl
  rw [e1] at U₂
  have B₂ : Below σ.A σ.base (σ.fenv :: σ.outer) g₂ := by
    have := below_turn σ'.B (g := g₂) (by rw [e1]; exact U₂)
    rw [e2, e3, e4] at this
    exact this
  have U₃ : KtsTurn (σ.L :: σ.fs) G g₂ := by
    have h : σ'.fs = σ.L :: σ.fs := by unfold Sit.fs; rw [e3]; rfl
    rw [← h]; exact U₂
  obtain ⟨g₃, T3, F3⟩ := turn_under wd.B FG U₃
  have out : ∀ h'', RaisedSN σ.base g₂ (σ.fenv :: σ.outer) e (.type "ValueError") n h'' → g₂.UpToSlots h'' → R (.ref e) { s' with heap := h'' } := fun h'' r u =>
    hX h'' ⟨g₂, wd.m, n, g₃, wd.U.trans T3, F3, fun q hq hs hx => by
      obtain ⟨a, b, c⟩ := hn q hq hs hx
      exact hn₂ q a b c, r, u⟩
  rcases hor with ⟨N₂, hne⟩ | ⟨R₂, hu⟩
  · exact leave_newT rfl σ'.hk B₂ F₂ N₂ hne out
  · rw [e2, e3] at R₂
    exact leave_onT rfl B₂ F₂ R₂ hu out
/-- entering a def that makes no cells, in a world that holds some objects -/
theorem at_enterB {σ : Sit g f (d + 1)} {wd : Wd σ} {name qual : Str} {params : Arguments} {body : List Stmt} {scope : Scope} {dV kV doc pm cdv ct oc : Value} {an od : Option Addr} {osl : Array (Option Value)} {a : Addr}
    {as : List V} {vals : List Value} {defs : List Value} {dvs : List V} {Φ : V → Prop} (must : Led) (ns gs more : List Str) (k : Nat) (rs : RepL wd.S vals as) (hmust : ∀ q ∈ must, q ∈ wd.news)
    (ho : g.K.lookup a = some ⟨oc, od, .func (fnOf name qual params body scope dV kV doc pm an cdv ct), osl⟩) (hcd : codeIn g.K cdv qual = true)
    (hbind : ∀ s vals, g.K.In s.heap → vals.length = as.length → BindsTo s (fnOf name qual params body scope dV kV doc pm an cdv ct) ⟨vals, []⟩ ((params.args.map (·.arg)).zip (vals ++ defs)))
    (hns : ns = params.args.map (·.arg) ++ more) (hlen : (params.args.map (·.arg)).length = (as ++ dvs).length)
    (hok : (FIp qual scope a cdv ns gs).Ok)
    (hdef : RepL (fun a o => g.K.lookup a = some o) defs dvs)
    (hco : scope.isCoroutine = false) (hgen : scope.isGenerator = false) (hcell : ∀ x ∈ scope.names, x.2 ≠ .cell)
    {ρ₀ : Loc} (hρ : (as ++ dvs).map some ++ List.replicate k none = ρ₀) (h : ∀ (σ' : Sit g { FIp qual scope a cdv ns gs with must := must } d) (wd' : Wd σ'), σ'.base = σ.base → At σ' wd' ρ₀ (execs body σ'.env) (RF (fun fl _ => ∃ v, fl = .ret v ∧ Φ v)) X) :
    At σ wd ρ (call (.ref a) vals) (fun val wd' ρ' => ρ' = ρ ∧ ∃ v, Rep wd'.S val v ∧ Φ v) X := fun l Q E hQ hX tk₀ => by
  subst hρ
  have hn : ∀ y ∈ (params.args.map (·.arg)).zip (vals ++ defs), scope.names.lookup y.1 = some .local := fun y hy => by
    have := (hok.lc y.1 (by
      show y.1 ∈ ns
      rw [hns]; exact List.mem_append_left _ (List.of_mem_zip hy).1)).1
    have t : (if y.1 ∈ ([] : List Str) then (scope.names.lookup y.1 = some .cell ∨ scope.names.lookup y.1 = some .free) else scope.names.lookup y.1 = some .local) := this
    rw [if_neg List.not_mem_nil] at t
    exact t
  have hd := σ.hd
  have hu := σ.hu
  refine wpC_call (enter_C (cl := []) wd.B wd.F wd.N wd.T.nolimit rfl rfl σ.hk ((wd.X.keeps wd.F.keep) _ _ ho) rfl (codeRec_of (wd.X.keeps wd.F.keep) hcd) (by show σ.dp < _; omega) (hbind wd.s vals (wd.X.keeps wd.F.keep) rs.length) hn (fun g' L' h₁ FG F' N' B' st _ => ?_) hcell hco hgen hok.hk.1)
  let σ' : Sit g { FIp qual scope a cdv ns gs with must := must } d := ⟨σ.dp + 1, σ.un + 3, σ.gd, σ.fenv :: σ.outer, σ.A, σ.base, g', L', B', σ.XB, σ.TB, ok_must hok, by omega, by omega⟩
  let wd' : Wd σ' := ⟨{ wd.s with heap := h₁, toks := wd.s.toks + ((params.args.map (·.arg)).zip (vals ++ defs)).length }, fun y => ((params.args.map (·.arg)).zip (vals ++ defs)).reverse.lookup y, wd.news, g', .refl, F', N'⟩
  have hL : LocOk wd' ((as ++ dvs).map some ++ List.replicate k none) := ⟨(fun x v hv => by
    have hv' : GetN ns ((as ++ dvs).map some ++ List.replicate k none) x v := hv
    rw [hns] at hv'
    have hz := GetN.zip hlen (fun o ho => List.eq_of_mem_replicate ho) hv'
    have nd := hok.nd
    have nd' : (params.args.map (·.arg)).Nodup := by
      have : ns.Nodup := nd
      rw [hns] at this
      exact (List.nodup_append.mp this).1
    have hlk : ((params.args.map (·.arg)).zip (as ++ dvs)).reverse.lookup x = some v := by
      refine lookup_of_mem ?_ (List.mem_reverse.mpr hz)
      rw [List.map_reverse, List.map_fst_zip (Nat.le_of_eq hlen)]
      unfold List.Nodup
      rw [List.pairwise_reverse]
      exact nd'.imp fun h => h.symm
    have r1 : RepL wd'.S vals as := rs
    have r2 : RepL wd'.S defs dvs := hdef.mono fun a o k _ => .inr (σ.XB _ _ k)
    exact RepP.get (RepP.zip (names := params.args.map (·.arg)) (r1.append r2)).rev hlk), (fun h => by cases h), (fun q hq => by cases hq)⟩
  have stay : ∀ q, Stays { FIp qual scope a cdv ns gs with must := must } q := fun q => .plain rfl rfl q
  refine h σ' wd' rfl hL _ _ (fun fl wd₂ ρ₂ l₂ lo₂ ⟨x, rx, v, ex, hv⟩ => ?_) (fun hx e h' tk' fl => ?_) ⟨by show 0 < wd.s.toks + _; have := tk₀.1; omega, fun q hq => hmust q hq⟩
  · subst ex
    cases rx with
    | ret rv =>
      obtain ⟨h₃, tk₃, e₃⟩ := l₂.st
      have e₃' : wd₂.s = { wd.s with heap := h₃, toks := tk₃ } := e₃
      have full : ∀ q ∈ wd.news, q ∈ wd₂.news := fun q hq => l₂.nw q hq (stay q)
      exact ⟨wd₂.gr, L', wd₂.m, wd₂.news, wd₂.U, wd₂.F, wd₂.N, fun g₃ T3 Fc Nc => hQ _ ⟨wd₂.s, wd.m, wd₂.news, g₃, wd.U.trans T3, Fc, Nc⟩ ρ (.of ⟨h₃, tk₃, e₃'⟩ full) (l.of rfl full) ⟨rfl, v, rv, hv⟩⟩
  · exact wpC_of (far_out (σ := σ) (wd := wd) (σ' := σ') (wd' := wd') (R := fun v s'' => E v s'') FG rfl rfl rfl rfl (fun q hq _ _ => ⟨hq, stay q, by intro h; cases h⟩) fl fun h'' hfar => hX hx e h'' tk' hfar.flies)
theorem fn_enter {name qual : Str} {params : Arguments} {body : List Stmt} {scope : Scope} {dV kV doc pm cdv ct oc : Value} {an od : Option Addr} {osl : Array (Option Value)} {a : Addr}
    {as : List V} {defs : List Value} {dvs : List V} {Φ : V → Prop} (ns gs more : List Str) (k : Nat)
    (ho : g.K.lookup a = some ⟨oc, od, .func (fnOf name qual params body scope dV kV doc pm an cdv ct), osl⟩) (hcd : codeIn g.K cdv qual = true)
    (hbind : ∀ s vals, g.K.In s.heap → vals.length = as.length → BindsTo s (fnOf name qual params body scope dV kV doc pm an cdv ct) ⟨vals, []⟩ ((params.args.map (·.arg)).zip (vals ++ defs)))
    (hns : ns = params.args.map (·.arg) ++ more) (hlen : (params.args.map (·.arg)).length = (as ++ dvs).length)
    (hok : (FIp qual scope a cdv ns gs).Ok)
    (hdef : RepL (fun a o => g.K.lookup a = some o) defs dvs)
    (hco : scope.isCoroutine = false) (hgen : scope.isGenerator = false) (hcell : ∀ x ∈ scope.names, x.2 ≠ .cell)
    {ρ₀ : Loc} (hρ : (as ++ dvs).map some ++ List.replicate k none = ρ₀) (h : Exs g (FIp qual scope a cdv ns gs) d body ρ₀ (fun fl _ => ∃ v, fl = .ret v ∧ Φ v) X) :
    Cl g f (d + 1) (.ref a) as Φ X := fun σ wd ρ vals rs =>
  at_enterB [] ns gs more k rs (fun q hq => by cases hq) ho hcd hbind hns hlen hok hdef hco hgen hcell hρ fun σ' wd' _ => h σ' wd'
theorem fn_enter2 {name qual : Str} {params : Arguments} {body : List Stmt} {scope : Scope} {dV kV doc pm cdv ct oc : Value} {an od : Option Addr} {osl : Array (Option Value)} {a : Addr}
    {as : List V} {defs : List Value} {dvs : List V} {Φ : V → Prop} (ns gs more : List Str) (k : Nat)
    (ho : g.K.lookup a = some ⟨oc, od, .func (fnOf name qual params body scope dV kV doc pm an cdv ct), osl⟩) (hcd : codeIn g.K cdv qual = true)
    (hbind : ∀ s vals, g.K.In s.heap → vals.length = as.length → BindsTo s (fnOf name qual params body scope dV kV doc pm an cdv ct) ⟨vals, []⟩ ((params.args.map (·.arg)).zip (vals ++ defs)))
    (hbind2 : ∀ s vals, g.K.In s.heap → vals.length = (as ++ dvs).length → BindsTo s (fnOf name qual params body scope dV kV doc pm an cdv ct) ⟨vals, []⟩ ((params.args.map (·.arg)).zip (vals ++ [])))
    (hns : ns = params.args.map (·.arg) ++ more) (hlen : (params.args.map (·.arg)).length = (as ++ dvs).length)
    (hok : (FIp qual scope a cdv ns gs).Ok)
    (hdef : RepL (fun a o => g.K.lookup a = some o) defs dvs)
    (hco : scope.isCoroutine = false) (hgen : scope.isGenerator = false) (hcell : ∀ x ∈ scope.names, x.2 ≠ .cell)
    {ρ₀ : Loc} (hρ : (as ++ dvs).map some ++ List.replicate k none = ρ₀) (h : Exs g (FIp qual scope a cdv ns gs) d body ρ₀ (fun fl _ => ∃ v, fl = .ret v ∧ Φ v) X) :
    Cl g f (d + 1) (.ref a) (as ++ dvs) Φ X ∧ Cl g f (d + 1) (.ref a) as Φ X :=
  ⟨fn_enter (as := as ++ dvs) (defs := []) (dvs := []) ns gs more k ho hcd hbind2 hns (by simpa using hlen) hok .nil hco hgen hcell (by simpa using hρ) h,
   fn_enter ns gs more k ho hcd hbind hns hlen hok hdef hco hgen hcell hρ h⟩
def Ent (g : Glo) (a : Addr) (n : Nat) (defs : List Value) (dvs : List V) (fi : FI) (body : List Stmt) : Prop :=
  ∃ (name qual : Str) (params : Arguments) (scope : Scope) (dV kV doc pm cdv ct oc : Value) (an od : Option Addr) (osl : Array (Option Value)) (more : List Str),
    (g.K.lookup a = some ⟨oc, od, .func (fnOf name qual params body scope dV kV doc pm an cdv ct), osl⟩ ∧ codeIn g.K cdv qual = true ∧ fi = FIp qual scope a cdv fi.ns fi.gs) ∧
    (∀ s vals, g.K.In s.heap → vals.length = n → BindsTo s (fnOf name qual params body scope dV kV doc pm an cdv ct) ⟨vals, []⟩ ((params.args.map (·.arg)).zip (vals ++ defs))) ∧
    fi.ns = params.args.map (·.arg) ++ more ∧ (params.args.map (·.arg)).length = n + dvs.length ∧ fi.Ok ∧ RepL (fun a o => g.K.lookup a = some o) defs dvs ∧
    scope.isCoroutine = false ∧ scope.isGenerator = false ∧ (∀ x ∈ scope.names, x.2 ≠ .cell)
theorem Ent.cl {a : Addr} {n : Nat} {defs : List Value} {dvs : List V} {fi : FI} {body : List Stmt} (H : Ent g a n defs dvs fi body) {as : List V} {Φ : V → Prop} (hn : as.length = n) (k : Nat) {ρ₀ : Loc} (hρ : (as ++ dvs).map some ++ List.replicate k none = ρ₀)
    (h : Exs g fi d body ρ₀ (fun fl _ => ∃ v, fl = .ret v ∧ Φ v) X) : Cl g f (d + 1) (.ref a) as Φ X := by
  obtain ⟨name, qual, params, scope, dV, kV, doc, pm, cdv, ct, oc, an, od, osl, more, ⟨h1, h2, h3⟩, h4, h5, h6, h7, h8, h9, h10, h11⟩ := H
  obtain ⟨ns, hns⟩ : ∃ ns, ns = fi.ns := ⟨_, rfl⟩
  obtain ⟨gs, hgs⟩ : ∃ gs, gs = fi.gs := ⟨_, rfl⟩
  rw [← hns, ← hgs] at h3
  subst h3
  exact fn_enter ns gs more k h1 h2 (by rw [hn]; exact h4) h5 (by rw [h6, List.length_append, hn]) h7 h8 h9 h10 h11 hρ h
theorem ent2_intro {P : FI → List Stmt → Prop} {a : Addr} {n n' : Nat} {defs defs' : List Value} {dvs dvs' : List V} (ns gs more : List Str) {name qual : Str} {params : Arguments} {body : List Stmt} {scope : Scope} {dV kV doc pm cdv ct oc : Value} {an od : Option Addr} {osl : Array (Option Value)}
    (ho : g.K.lookup a = some ⟨oc, od, .func (fnOf name qual params body scope dV kV doc pm an cdv ct), osl⟩) (hcd : codeIn g.K cdv qual = true)
    (hbind : ∀ s vals, g.K.In s.heap → vals.length = n → BindsTo s (fnOf name qual params body scope dV kV doc pm an cdv ct) ⟨vals, []⟩ ((params.args.map (·.arg)).zip (vals ++ defs)))
    (hbind2 : ∀ s vals, g.K.In s.heap → vals.length = n' → BindsTo s (fnOf name qual params body scope dV kV doc pm an cdv ct) ⟨vals, []⟩ ((params.args.map (·.arg)).zip (vals ++ defs')))
    (hns : ns = params.args.map (·.arg) ++ more) (hlen : (params.args.map (·.arg)).length = n + dvs.length) (hlen2 : (params.args.map (·.arg)).length = n' + dvs'.length)
    (hok : (FIp qual scope a cdv ns gs).Ok) (hdef : RepL (fun a o => g.K.lookup a = some o) defs dvs) (hdef2 : RepL (fun a o => g.K.lookup a = some o) defs' dvs')
    (hco : scope.isCoroutine = false) (hgen : scope.isGenerator = false) (hcell : ∀ x ∈ scope.names, x.2 ≠ .cell)
    (h : P (FIp qual scope a cdv ns gs) body) : ∃ fi body, Ent g a n defs dvs fi body ∧ Ent g a n' defs' dvs' fi body ∧ P fi body :=
  ⟨_, _, ⟨name, qual, params, scope, dV, kV, doc, pm, cdv, ct, oc, an, od, osl, more, ⟨ho, hcd, rfl⟩, hbind, hns, hlen, hok, hdef, hco, hgen, hcell⟩,
    ⟨name, qual, params, scope, dV, kV, doc, pm, cdv, ct, oc, an, od, osl, more, ⟨ho, hcd, rfl⟩, hbind2, hns, hlen2, hok, hdef2, hco, hgen, hcell⟩, h⟩
end

end
section


def BIG : Nat := 2 ^ 4000
theorem lt_big {a k : Nat} (h : a < 2 ^ k) (hk : k ≤ 4000) : a < BIG := Nat.lt_of_lt_of_le h (Nat.pow_le_pow_right (by decide) hk)
theorem small_lt_big {a : Nat} (h : a < 1000000) : a < BIG := lt_big (k := 20) (by omega) (by decide)
section
variable {g : Glo} {f : FI} {d : Nat} {X : Prop} {Φ : V → Prop}

theorem op2_int {t : Value → Value → Sem Value} {a b c : Int} (h : Φ (.int c))
    (hw : ∀ (A : Around) (s : Shared) (ta tb : Tok) (Q : Value → Shared → Prop) (E), A.handled = none → Q (.int c s.toks) { s with toks := s.toks + 1 } → wpAny g.M A (t (.int a ta) (.int b tb)) Q E s) :
    Op2 t g f d (.int a) (.int b) Φ X := fun σ wd ρ va vb ra rb => by
  cases ra
  cases rb
  exact At.leaf fun Q E q => hw _ _ _ _ _ _ rfl (q _ _ ⟨rfl, _, .int, h⟩)
theorem op2_boolI {t : Value → Value → Sem Value} {a b : Int} {c : Bool} (h : Φ (.bool c))
    (hw : ∀ (A : Around) (s : Shared) (ta tb : Tok) (Q : Value → Shared → Prop) (E), Q (.bool c) s → wpAny g.M A (t (.int a ta) (.int b tb)) Q E s) :
    Op2 t g f d (.int a) (.int b) Φ X := fun σ wd ρ va vb ra rb => by
  cases ra
  cases rb
  exact At.leaf fun Q E q => hw _ _ _ _ _ _ (q _ _ ⟨rfl, _, .bool, h⟩)

theorem op_add {a b : Int} (h : Φ (.int (a + b))) : Op2 (binaryOp .Add) g f d (.int a) (.int b) Φ X := op2_int h fun A s ta tb Q E _ q => add_int q
theorem op_sub {a b : Int} (h : Φ (.int (a - b))) : Op2 (binaryOp .Sub) g f d (.int a) (.int b) Φ X := op2_int h fun A s ta tb Q E _ q => sub_int q
theorem op_iadd {a b : Int} (h : Φ (.int (a + b))) : Op2 (inplaceOp .Add) g f d (.int a) (.int b) Φ X := op2_int h fun A s ta tb Q E _ q => iadd_int q
theorem op_isub {a b : Int} (h : Φ (.int (a - b))) : Op2 (inplaceOp .Sub) g f d (.int a) (.int b) Φ X := op2_int h fun A s ta tb Q E _ q => isub_int q

theorem intBits_le {a : Int} {k : Nat} (h : a.natAbs < 2 ^ k) : Builtin.Int.intBits a ≤ k := by
  unfold Builtin.Int.intBits
  split
  · omega
  · rename_i hn
    have hne : a.natAbs ≠ 0 := by
      intro e
      exact hn (by simpa using Int.natAbs_eq_zero.mp e)
    have := (Nat.log2_lt hne).mpr h
    omega
theorem op_mul {a b : Int} (h : Φ (.int (a * b))) (hb : a.natAbs < BIG) (hb' : b.natAbs < BIG) : Op2 (binaryOp .Mult) g f d (.int a) (.int b) Φ X :=
  op2_int h fun A s ta tb Q E _ q => mul_int q (by
    have h1 := intBits_le hb
    have h2 := intBits_le hb'
    clear hb hb' h q
    unfold IntMulOk Builtin.Int.intTooBig bitsLine
    simp only [Bool.and_eq_true, decide_eq_true_eq, not_and]
    intro _ _
    have : (2:Int) ^ 27 = 134217728 := by decide
    omega)
theorem pylong_ok {a b : Int} (h : b.natAbs < BIG) : Builtin.divisionGoesByPylong a b = false := by
  unfold Builtin.divisionGoesByPylong
  simp only [Bool.and_eq_false_iff, decide_eq_false_iff_not]
  left
  split
  · omega
  · rename_i hn
    have hne : b.natAbs ≠ 0 := by
      intro e
      exact hn (by simpa using Int.natAbs_eq_zero.mp e)
    have := (Nat.log2_lt hne).mpr h
    omega
theorem op_fdiv {a b : Int} (hb : 0 < b) (hb' : b.natAbs < BIG) (h : Φ (.int (a / b))) : Op2 (binaryOp .FloorDiv) g f d (.int a) (.int b) Φ X :=
  op2_int h fun A s ta tb Q E _ q => floordiv_int (by omega) (by rw [Int.fdiv_eq_ediv_of_nonneg a (by omega)]; exact q) (.inl (pylong_ok hb'))
theorem op_mod {a b : Int} (hb : 0 < b) (h : Φ (.int (a % b))) : Op2 (binaryOp .Mod) g f d (.int a) (.int b) Φ X :=
  op2_int h fun A s ta tb Q E _ q => mod_int' (by omega) (by rw [Int.fmod_eq_emod_of_nonneg a (by omega)]; exact q)
theorem op_shl {a n : Int} (hn : 0 ≤ n) (hn' : n ≤ 100000) (ha : a.natAbs < BIG) (h : Φ (.int (a * 2 ^ n.toNat))) : Op2 (binaryOp .LShift) g f d (.int a) (.int n) Φ X :=
  op2_int h fun A s ta tb Q E hh q => lshift_int_or hh (fun h => absurd h (by omega)) (fun _ => by have := intBits_le ha; omega) fun _ => q
theorem op_ishl {a n : Int} (hn : 0 ≤ n) (hn' : n ≤ 100000) (ha : a.natAbs < BIG) (h : Φ (.int (a * 2 ^ n.toNat))) : Op2 (inplaceOp .LShift) g f d (.int a) (.int n) Φ X :=
  op2_int h fun A s ta tb Q E hh q => ilshift_int hn (by have := intBits_le ha; omega) q
theorem op_shr {a n : Int} (hn : 0 ≤ n) (h : Φ (.int (a / 2 ^ n.toNat))) : Op2 (binaryOp .RShift) g f d (.int a) (.int n) Φ X :=
  op2_int h fun A s ta tb Q E hh q => rshift_int hn (by rw [Int.fdiv_eq_ediv_of_nonneg a (Int.le_of_lt (Int.pow_pos (by decide)))]; exact q)
theorem op_ishr {a n : Int} (hn : 0 ≤ n) (h : Φ (.int (a / 2 ^ n.toNat))) : Op2 (inplaceOp .RShift) g f d (.int a) (.int n) Φ X :=
  op2_int h fun A s ta tb Q E hh q => irshift_int hn (by rw [Int.fdiv_eq_ediv_of_nonneg a (Int.le_of_lt (Int.pow_pos (by decide)))]; exact q)
theorem op_and {a b : Int} (h : Φ (.int (Builtin.bitAnd a b))) : Op2 (binaryOp .BitAnd) g f d (.int a) (.int b) Φ X := op2_int h fun A s ta tb Q E _ q => and_int q
theorem op_xor {a b : Int} (h : Φ (.int (Builtin.bitXor a b))) : Op2 (binaryOp .BitXor) g f d (.int a) (.int b) Φ X := op2_int h fun A s ta tb Q E _ q => xor_int q
theorem op_xor0 {a : Int} (h : Φ (.int a)) : Op2 (binaryOp .BitXor) g f d (.int a) (.int 0) Φ X := op_xor (by rw [bitXor_zero]; exact h)
theorem op_ixor0 {a : Int} (h : Φ (.int a)) : Op2 (inplaceOp .BitXor) g f d (.int a) (.int 0) Φ X := op2_int (by rw [bitXor_zero]; exact h) fun A s ta tb Q E _ q => ixor_int q
theorem op_ixor {a b : Int} (h : Φ (.int (Builtin.bitXor a b))) : Op2 (inplaceOp .BitXor) g f d (.int a) (.int b) Φ X := op2_int h fun A s ta tb Q E _ q => ixor_int q
theorem op_ixorG {a b c : Int} (hx : Builtin.bitXor a b = c) (h : Φ (.int c)) : Op2 (inplaceOp .BitXor) g f d (.int a) (.int b) Φ X := op_ixor (hx ▸ h)
theorem op_pow {a n : Int} (hn : 0 ≤ n) (hn' : n ≤ 1000) (ha : a.natAbs < BIG) (h : Φ (.int (a ^ n.toNat))) : Op2 (binaryOp .Pow) g f d (.int a) (.int n) Φ X :=
  op2_int h fun A s ta tb Q E hh q => pow_int hn (by
    have h1 := intBits_le ha
    have h2 : ((Builtin.Int.intBits a : Nat) : Int) ≤ 4000 := by omega
    have h3 : (Builtin.Int.intBits a : Int) * n ≤ 4000 * n := Int.mul_le_mul_of_nonneg_right h2 hn
    omega) q
theorem op_eq {a b : Int} (h : Φ (.bool (a == b))) : Op2 (compareOp .Eq) g f d (.int a) (.int b) Φ X := op2_boolI h fun A s ta tb Q E q => eq_int q
theorem op_ne {a b : Int} (h : Φ (.bool (a != b))) : Op2 (compareOp .NotEq) g f d (.int a) (.int b) Φ X := op2_boolI h fun A s ta tb Q E q => ne_int q
theorem op_lt {a b : Int} (h : Φ (.bool (decide (a < b)))) : Op2 (compareOp .Lt) g f d (.int a) (.int b) Φ X := op2_boolI h fun A s ta tb Q E q => lt_int q
theorem op_le {a b : Int} (h : Φ (.bool (decide (a ≤ b)))) : Op2 (compareOp .LtE) g f d (.int a) (.int b) Φ X := op2_boolI h fun A s ta tb Q E q => le_int q
theorem op_gt {a b : Int} (h : Φ (.bool (decide (b < a)))) : Op2 (compareOp .Gt) g f d (.int a) (.int b) Φ X := op2_boolI h fun A s ta tb Q E q => gt_int q
theorem op_ge {a b : Int} (h : Φ (.bool (decide (b ≤ a)))) : Op2 (compareOp .GtE) g f d (.int a) (.int b) Φ X := op2_boolI h fun A s ta tb Q E q => ge_int q
theorem op_eqS {a b : Str} (h : Φ (.bool (a == b))) : Op2 (compareOp .Eq) g f d (.str a) (.str b) Φ X := fun σ wd ρ va vb ra rb => by
  cases ra
  cases rb
  exact At.leaf fun Q E q => eq_str (q _ _ ⟨rfl, _, .bool, h⟩)
theorem op_neS {a b : Str} (h : Φ (.bool (a != b))) : Op2 (compareOp .NotEq) g f d (.str a) (.str b) Φ X := fun σ wd ρ va vb ra rb => by
  cases ra
  cases rb
  exact At.leaf fun Q E q => ne_str (q _ _ ⟨rfl, _, .bool, h⟩)
theorem op_eqB {a b : Bool} (h : Φ (.bool (a == b))) : Op2 (compareOp .Eq) g f d (.bool a) (.bool b) Φ X := fun σ wd ρ va vb ra rb => by
  cases ra
  cases rb
  exact At.leaf fun Q E q => eq_bool (q _ _ ⟨rfl, _, .bool, h⟩)
theorem op_neg {a : Int} (h : Φ (.int (-a))) : Op1 (unaryOp .USub) g f d (.int a) Φ X := fun σ wd ρ va ra => by
  cases ra
  exact At.leaf fun Q E q => neg_int (q _ _ ⟨rfl, _, .int, h⟩)
theorem op_negneg {a : Int} (h : Φ (.int a)) : Op1 (unaryOp .USub) g f d (.int (-a)) Φ X := op_neg (by rw [Int.neg_neg]; exact h)
theorem op_not {a : V} (h : Tr g f d a (fun c => Φ (.bool !c)) X) : Op1 (unaryOp .Not) g f d a Φ X := fun σ wd ρ va ra l Q E hQ hX tk₀ =>
  wpC_not (h σ wd ρ va ra l _ E (fun c wd' ρ' l' lo ⟨e, q⟩ => hQ _ wd' ρ' l' lo ⟨e, _, .bool, q⟩) hX tk₀)

/-! built-in calls on ints -/
theorem cl_bit_length {a : Int} (h : Φ (.int (Builtin.Int.intBits a))) : Cl g f d (.builtin "int.bit_length") [.int a] Φ X := fun σ wd ρ vals rs => by
  cases rs with
  | cons r rs =>
    cases rs
    cases r
    exact At.leaf fun Q E q => call_int_bit_length (q _ _ ⟨rfl, _, .int, h⟩)
theorem cl_abs {a : Int} (h : Φ (.int (if a < 0 then -a else a))) : Cl g f d (.builtin "abs") [.int a] Φ X := fun σ wd ρ vals rs => by
  cases rs with
  | cons r rs =>
    cases rs
    cases r
    exact At.leaf fun Q E q => call_abs_int fun u tk => (q _ _ ⟨rfl, _, .int, h⟩)
theorem cl_int_int {a : Int} (h : Φ (.int a)) : Cl g f d (.type "int") [.int a] Φ X := fun σ wd ρ vals rs => by
  cases rs with
  | cons r rs =>
    cases rs
    cases r
    exact At.leaf fun Q E q => call_int_int (q _ wd.s.toks ⟨rfl, _, .int, h⟩)
theorem cl_isinstance_int {a : Int} (h : Φ (.bool true)) : Cl g f d (.builtin "isinstance") [.int a, .obj (.type "int")] Φ X := fun σ wd ρ vals rs => by
  cases rs with
  | cons r rs =>
    cases rs with
    | cons r' rs =>
      cases rs
      cases r
      cases r'
      exact At.leaf fun Q E q => call_isinstance_yes (typeIs_int _ _ _) meta_int PySem.isSubtype_int_int (q _ wd.s.toks ⟨rfl, _, .bool, h⟩)
theorem cl_str_int {a : Int} (ha : a.natAbs < 2 ^ 1000) (h : Φ (.str (Str.ofString (toString a)))) : Cl g f d (.type "str") [.int a] Φ X := fun σ wd ρ vals rs => by
  cases rs with
  | cons r rs =>
    cases rs
    cases r
    exact At.leaf fun Q E q => PySem.P.str_of_int (by
      by_cases e : a.natAbs = 0
      · rw [e]; decide
      · have := (Nat.log2_lt e).mpr ha; omega) (q _ _ ⟨rfl, _, .str, h⟩)
theorem cl_max {a b : Int} (h : Φ (.int (if b > a then b else a))) : Cl g f d (.builtin "max") [.int a, .int b] Φ X := fun σ wd ρ vals rs => by
  cases rs with
  | cons r rs =>
    cases rs with
    | cons r' rs =>
      cases rs
      cases r
      cases r'
      intro l Q E hQ hX tk₀
      refine wpC_of ?_
      exact max_two_N rfl wd.F wd.N fun h' tk F' N' => hQ _ (wd.led h' tk F' _ N') ρ (wd.le_led fun _ h => h) (l.led fun _ h => h) ⟨rfl, _, .int, h⟩
theorem cl_min {a b : Int} (h : Φ (.int (if b < a then b else a))) : Cl g f d (.builtin "min") [.int a, .int b] Φ X := fun σ wd ρ vals rs => by
  cases rs with
  | cons r rs =>
    cases rs with
    | cons r' rs =>
      cases rs
      cases r
      cases r'
      intro l Q E hQ hX tk₀
      refine wpC_of ?_
      exact min_two_N rfl wd.F wd.N fun h' tk F' N' => hQ _ (wd.led h' tk F' _ N') ρ (wd.le_led fun _ h => h) (l.led fun _ h => h) ⟨rfl, _, .int, h⟩
theorem cl_divmod {a b : Int} (hb : 0 < b) (hb' : b.natAbs < BIG) (h : Φ (.tup [.int (a / b), .int (a % b)])) : Cl g f d (.builtin "divmod") [.int a, .int b] Φ X := fun σ wd ρ vals rs => by
  cases rs with
  | cons r rs =>
    cases rs with
    | cons r' rs =>
      cases rs
      cases r
      cases r'
      intro l Q E hQ hX tk₀
      refine wpC_of ?_
      refine divmod_N wd.F wd.N (by omega) (fun h' F' N' => hQ _ (wd.led h' _ F' _ N') ρ (wd.le_led fun _ h => .tail _ h) (l.led fun _ h => .tail _ h) ⟨rfl, _, .tup (.inl (.head _)) rfl rfl (.cons .int (.cons .int .nil)), ?_⟩) (.inl (pylong_ok hb'))
      rw [Int.fdiv_eq_ediv_of_nonneg a (by omega), Int.fmod_eq_emod_of_nonneg a (by omega)]
      exact h
end

end
section


section
variable {g : Glo} {f : FI} {d : Nat} {ρ : Loc} {X : Prop} {pos : Pos} {Ψ : V → Loc → Prop} {Φ : V → Prop}

mutual
def V.pd : V → PyData
  | .int i => .int i
  | .str x => .str x
  | .bool b => .bool b
  | .none => .none
  | .obj _ => .none
  | .tup vs => .tuple (V.pds vs)
  | .lst vs => .list (V.pds vs)
def V.pds : List V → List PyData
  | [] => []
  | v :: vs => V.pd v :: V.pds vs
end
mutual
def V.fine : V → Bool
  | .obj _ => false
  | .tup vs => V.fines vs
  | .lst vs => V.fines vs
  | _ => true
def V.fines : List V → Bool
  | [] => true
  | v :: vs => V.fine v && V.fines vs
end
section
variable {σ : Sit g f d} {wd : Wd σ}
mutual
theorem Rep.reads : ∀ {val : Value} {v : V}, Rep wd.S val v → v.fine = true → ∃ as, Reads wd.s.heap val v.pd as
  | _, _, .int, _ => ⟨_, by rw [V.pd]; exact Reads.int _ _⟩
  | _, _, .str, _ => ⟨_, by rw [V.pd]; exact Reads.str _ _⟩
  | _, _, .bool, _ => ⟨_, by rw [V.pd]; exact Reads.bool _⟩
  | _, _, .none, _ => ⟨_, by rw [V.pd]; exact Reads.none⟩
  | _, _, .obj, h => by simp [V.fine] at h
  | _, _, .tup hS hc hd rs, h => by
    obtain ⟨as, q⟩ := RepL.reads rs (by simpa [V.fine] using h)
    rw [V.pd]
    exact ⟨_, reads_tuple_at (Sup.heap wd hS) hc hd (by simpa using q)⟩
  | _, _, .lst hS hc hd rs, h => by
    obtain ⟨as, q⟩ := RepL.reads rs (by simpa [V.fine] using h)
    rw [V.pd]
    exact ⟨_, reads_list_at (Sup.heap wd hS) hc hd (by simpa using q)⟩
theorem RepL.reads : ∀ {vals : List Value} {vs : List V}, RepL wd.S vals vs → V.fines vs = true → ∃ as, ReadsAll wd.s.heap vals (V.pds vs) as
  | _, _, .nil, _ => ⟨_, by rw [V.pds]; exact ReadsAll.nil⟩
  | _, _, .cons r rs, h => by
    simp [V.fines] at h
    obtain ⟨as, q⟩ := Rep.reads r h.1
    obtain ⟨bs, q'⟩ := RepL.reads rs h.2
    rw [V.pds]
    exact ⟨_, ReadsAll.cons q q'⟩
end
end
def V.isRef : V → Bool
  | .tup _ => true
  | .lst _ => true
  | _ => false
theorem op_eqD {a b : V} (ha : a.fine = true) (hb : b.fine = true) (h1 : SeqAt.shaped a.pd = true) (h2 : SeqAt.shaped b.pd = true) (hr : (a.isRef && b.isRef) = true) (h : Φ (.bool (PyData.eqv a.pd b.pd))) : Op2 (compareOp .Eq) g f d a b Φ X := fun σ wd ρ va vb ra rb l Q E hQ _ tk₀ => by
  refine wpC_of ?_
  obtain ⟨as, qa⟩ := ra.reads ha
  obtain ⟨bs, qb⟩ := rb.reads hb
  have := σ.hu
  cases ra <;> simp [V.isRef] at hr <;> cases rb <;> simp [V.isRef] at hr <;> exact eq_dataH qa qb h1 h2 (by show σ.un + 64 < _; omega) (hQ _ wd ρ (.refl _) l ⟨rfl, _, .bool, h⟩)
theorem op_neD {a b : V} (ha : a.fine = true) (hb : b.fine = true) (h1 : SeqAt.shaped a.pd = true) (h2 : SeqAt.shaped b.pd = true) (hr : (a.isRef && b.isRef) = true) (h : Φ (.bool (!PyData.eqv a.pd b.pd))) : Op2 (compareOp .NotEq) g f d a b Φ X := fun σ wd ρ va vb ra rb l Q E hQ _ tk₀ => by
  refine wpC_of ?_
  obtain ⟨as, qa⟩ := ra.reads ha
  obtain ⟨bs, qb⟩ := rb.reads hb
  have := σ.hu
  cases ra <;> simp [V.isRef] at hr <;> cases rb <;> simp [V.isRef] at hr <;> exact ne_dataH qa qb h1 h2 (by show σ.un + 64 < _; omega) (hQ _ wd ρ (.refl _) l ⟨rfl, _, .bool, h⟩)
/-- four ints against four ints -/
theorem op_eq4 {a b c e a' b' c' e' : Int} (h : Φ (.bool (a == a' && (b == b' && (c == c' && e == e'))))) : Op2 (compareOp .Eq) g f d (.tup [.int a, .int b, .int c, .int e]) (.tup [.int a', .int b', .int c', .int e']) Φ X := by
  refine op_eqD rfl rfl (by simp [V.pd, V.pds, SeqAt.shaped, PyData.canLay0, PyData.canLayAll0, PyData.depth, PyData.depthAll]) (by simp [V.pd, V.pds, SeqAt.shaped, PyData.canLay0, PyData.canLayAll0, PyData.depth, PyData.depthAll]) rfl ?_
  have : PyData.eqv (V.tup [.int a, .int b, .int c, .int e]).pd (V.tup [.int a', .int b', .int c', .int e']).pd = (a == a' && (b == b' && (c == c' && e == e'))) := by
    simp [V.pd, V.pds, PyData.eqv, PyData.eqvAll]
  rw [this]; exact h
theorem ev_sub {value slice : Expr} (h : Ev g f d value ρ (fun a ρ₁ => Ev g f d slice ρ₁ (fun b ρ₂ => Op2 (subscriptTail value slice) g f d a b (fun v => Ψ v ρ₂) X) X) X) :
    Ev g f d (.Subscript value slice pos) ρ Ψ X := fun σ wd => by
  show At σ wd ρ (do
    let o ← eval value σ.env
    let i ← PySem.holding [o] (eval slice σ.env)
    PySem.standAt pos
    subscriptTail value slice o i) _ _
  refine .bind ((h σ wd).mono fun va wd₁ ρ₁ l₁ ⟨a, ra, ha⟩ => .bind (.holding ((ha σ wd₁).mono fun vb wd₂ ρ₂ l₂ ⟨b, rb, hb⟩ => .stand ?_)))
  exact (hb σ wd₂ ρ₂ va vb (l₂.rep ra) rb).mono fun v wd₃ ρ₃ l₃ ⟨e, x, rx, hx⟩ => ⟨x, rx, e ▸ hx⟩

theorem sub_tup {value slice : Expr} {vs : List V} {k : Int} {j : Nat} {v : V} (hj : seqIndex? k vs.length = some j) (hv : vs[j]? = some v) (hlo : -(2 ^ 63) ≤ k) (hhi : k < 2 ^ 63) (h : Φ v)
    (hs : ∀ o i, subscripted slice false o i = operate [o, i] (getItem o i) := by intros; with_unfolding_all rfl) :
    Op2 (subscriptTail value slice) g f d (.tup vs) (.int k) Φ X := fun σ wd ρ va vb ra rb l Q E hQ _ tk₀ => by
  refine wpC_of ?_
  cases ra
  cases rb
  rename_i a o items n hS hc hd rs u
  obtain ⟨val, h1, h2⟩ := RepL.get (i := 0) rs hv
  exact item_tupleT ⟨_, Sup.heap wd hS, hc, _, hd⟩ hlo hhi (by rw [rs.length]; exact hj) h1 (hQ val wd ρ (.refl _) l ⟨rfl, v, h2, h⟩) (hs _ _)
theorem sub_lst {value slice : Expr} {vs : List V} {k : Int} {v : V} (hv : vs[k.toNat]? = some v) (hlo : 0 ≤ k) (hhi : k < 2 ^ 63) (h : Φ v)
    (hs : ∀ o i, subscripted slice false o i = operate [o, i] (getItem o i) := by intros; with_unfolding_all rfl) :
    Op2 (subscriptTail value slice) g f d (.lst vs) (.int k) Φ X := fun σ wd ρ va vb ra rb l Q E hQ _ tk₀ => by
  refine wpC_of ?_
  cases ra
  cases rb
  rename_i a o items n hS hc hd rs u
  obtain ⟨val, h1, h2⟩ := RepL.get (i := 0) rs hv
  have hl : wd.s.heap.IsList a items.toArray := ⟨_, Sup.heap wd hS, hc, _, hd⟩
  exact tail_any hl.typeIs slot_list_getitem.lookup (wpAny_getItem_list hl hlo hhi (by simpa using h1) (hQ val wd ρ (.refl _) l ⟨rfl, v, h2, h⟩)) (hs _ _)
theorem sub_str {value slice : Expr} {x : Str} {k : Int} (h1 : -(x.length : Int) ≤ k) (h2 : k < x.length) (h3 : x.length ≤ sizeLine) (h : Φ (.str (Txt.item x k)))
    (hs : ∀ o i, subscripted slice false o i = operate [o, i] (getItem o i) := by intros; with_unfolding_all rfl) :
    Op2 (subscriptTail value slice) g f d (.str x) (.int k) Φ X := fun σ wd ρ va vb ra rb l Q E hQ _ tk₀ => by
  refine wpC_of ?_
  cases ra
  cases rb
  rename_i t u
  rw [sizeLine_eq] at h3
  obtain ⟨T, id, hl, hT, hg⟩ := SBL.item (prog := g.prog) (w := g.w) (A := σ.A) (E := E) (s := wd.s) (t := t) (u := u) (Q := Q) h1 h2 (by omega) fun _ => hQ _ (wd.tok _) ρ (wd.le_tok _) l.tok ⟨rfl, _, .str, h⟩
  exact tail_any hT hl hg (hs _ _)
theorem sub_dictK {value slice : Expr} {a : Addr} {es : Array DictEntry} {n : Nat} {x : Str} {val : Value} {v : V} (hl : g.K.lookup a = some ⟨.type "dict", none, .dict es n, #[]⟩) (hk : KeysLit g.w.params es.toList)
    (e : nsIn g.K a x = some (some val)) (r : KRep g.K val v) (h : Φ v)
    (hs : ∀ o i, subscripted slice false o i = operate [o, i] (getItem o i) := by intros; with_unfolding_all rfl) :
    Op2 (subscriptTail value slice) g f d (.obj (.ref a)) (.str x) Φ X := fun σ wd ρ va vb ra rb l Q E hQ _ tk₀ => by
  refine wpC_of ?_
  cases ra
  cases rb
  exact topItem_K wd.F wd.X hl hk e (hQ _ (wd.tok _) ρ (wd.le_tok _) l.tok ⟨rfl, v, Rep.mono (fun a o k _ => .inr (σ.XB _ _ k)) r, h⟩) (hs _ _)
theorem op_inDictK {a : Addr} {es : Array DictEntry} {n : Nat} {x : Str} {r : Option Value} (hl : g.K.lookup a = some ⟨.type "dict", none, .dict es n, #[]⟩) (hk : KeysLit g.w.params es.toList)
    (e : ∀ y, Value.isStrOf x y = false ∨ True) (hn : findBy Value.isStrOf es x = r) (lo : (a == sysModules) = false) (h : Φ (.bool r.isSome)) :
    Op2 (compareOp .In) g f d (.str x) (.obj (.ref a)) Φ X := fun σ wd ρ va vb ra rb l Q E hQ _ tk₀ => by
  refine wpC_of ?_
  cases ra
  cases rb
  rename_i t
  exact wpAny_in_of (strKind_is g.prog g.w x t) lo (mapOf_K (prog := g.prog) (wd.X.keeps wd.F.keep) hl hk) (by rw [hn]; exact hQ _ (wd.tok _) ρ (wd.le_tok _) l.tok ⟨rfl, _, .bool, h⟩)
end

end
section


section
variable {g : Glo} {f : FI} {d : Nat} {ρ : Loc} {X : Prop} {pos : Pos} {Ψ : V → Loc → Prop} {Φ : V → Prop}
theorem sizeLine_ge : 1048576 ≤ sizeLine := by rw [sizeLine_eq]; decide
theorem op_addS {x y : Str} (hx : x.length ≤ 500000) (hy : y.length ≤ 500000) (h : Φ (.str (x ++ y))) : Op2 (binaryOp .Add) g f d (.str x) (.str y) Φ X := fun σ wd ρ va vb ra rb => by
  cases ra
  cases rb
  exact At.leaf fun Q E q => SB.add (fun t' k => q _ _ ⟨rfl, _, .str, h⟩) (by have := sizeLine_ge; omega)
theorem op_inS {x y : Str} {b : Bool} (e : Txt.contains x y = b) (h : Φ (.bool b)) : Op2 (compareOp .In) g f d (.str y) (.str x) Φ X := fun σ wd ρ va vb ra rb => by
  cases ra
  cases rb
  exact At.leaf fun Q E q => SB.contains (by rw [e]; exact q _ wd.s.toks ⟨rfl, _, .bool, h⟩)
theorem op_notInS {x y : Str} {b : Bool} (e : Txt.contains x y = b) (h : Φ (.bool (!b))) : Op2 (compareOp .NotIn) g f d (.str y) (.str x) Φ X := fun σ wd ρ va vb ra rb => by
  cases ra
  cases rb
  exact At.leaf fun Q E q => SB.notContains (by rw [e]; exact q _ wd.s.toks ⟨rfl, _, .bool, h⟩)
theorem op_mulS {x y : Str} {n : Int} (hn : 0 ≤ n) (hn' : n ≤ 100) (hx : x.length ≤ 100) (e : Txt.mul x n = y) (h : Φ (.str y)) : Op2 (binaryOp .Mult) g f d (.str x) (.int n) Φ X := fun σ wd ρ va vb ra rb => by
  cases ra
  cases rb
  refine At.leaf fun Q E q => SB.mul ⟨?_, fun h1 h2 => ?_, fun h1 h2 => ?_⟩ (fun t' k => by rw [e]; exact q _ _ ⟨rfl, _, .str, h⟩)
  · rw [decide_eq_false (by omega), decide_eq_false (by omega)]; rfl
  · have : (2 ^ 63 - 1) / 100 ≤ ((2 : Int) ^ 63 - 1) / n := by
      have h0 : n * (((2 : Int) ^ 63 - 1) / 100) ≤ 100 * (((2 : Int) ^ 63 - 1) / 100) := Int.mul_le_mul_of_nonneg_right hn' (by decide)
      refine (Int.le_ediv_iff_mul_le (by omega)).mpr ?_
      omega
    have : (x.length : Int) ≤ 100 := by omega
    omega
  · refine decide_eq_false ?_
    rw [sizeLine_eq]
    have : x.length * n.toNat ≤ 100 * 100 := Nat.mul_le_mul hx (by omega)
    omega
theorem tr_str {x : Str} {Φ : Bool → Prop} (hx : x.length ≤ 500000) (h : Φ ((x.length : Int) != 0)) : Tr g f d (.str x) Φ X := fun σ wd ρ va ra => by
  cases ra
  exact At.leaf fun Q E q => SBL.truthy (by omega) (q _ _ ⟨rfl, h⟩)
theorem cl1S {c : Value} {x : Str} {Φ : V → Prop} (h : ∀ (σ : Sit g f d) (wd : Wd σ) (ρ : Loc) (t : Tok), At σ wd ρ (call c [.str x t]) (fun val wd' ρ' => ρ' = ρ ∧ ∃ v, Rep wd'.S val v ∧ Φ v) X) : Cl g f d c [.str x] Φ X := fun σ wd ρ vals rs => by
  cases rs with
  | cons r rs =>
    cases rs
    cases r
    exact h σ wd ρ _
theorem cl2S {c : Value} {x y : Str} {Φ : V → Prop} (h : ∀ (σ : Sit g f d) (wd : Wd σ) (ρ : Loc) (t u : Tok), At σ wd ρ (call c [.str x t, .str y u]) (fun val wd' ρ' => ρ' = ρ ∧ ∃ v, Rep wd'.S val v ∧ Φ v) X) : Cl g f d c [.str x, .str y] Φ X := fun σ wd ρ vals rs => by
  cases rs with
  | cons r rs =>
    cases rs with
    | cons r' rs =>
      cases rs
      cases r
      cases r'
      exact h σ wd ρ _ _
theorem cl_lenS {x : Str} (hx : x.length ≤ 500000) (h : Φ (.int x.length)) : Cl g f d (.builtin "len") [.str x] Φ X := cl1S fun σ wd ρ t =>
  At.leaf fun Q E q => SBL.len (by omega) (q _ _ ⟨rfl, _, .int, h⟩)
theorem cl_lower {x y : Str} (e : Txt.lower x = y) (hx : x.length ≤ 500000) (h : Φ (.str y)) : Cl g f d (.builtin "str.lower") [.str x] Φ X := cl1S fun σ wd ρ t =>
  At.leaf fun Q E q => SCL.lower (by omega) fun _ => (by rw [e]; exact q _ _ ⟨rfl, _, .str, h⟩)
theorem cl_strip {x y : Str} (e : Txt.strip x = y) (hx : x.length ≤ 500000) (h : Φ (.str y)) : Cl g f d (.builtin "str.strip") [.str x] Φ X := cl1S fun σ wd ρ t =>
  At.leaf fun Q E q => SC.strip (fun t' k => by rw [e]; exact q _ _ ⟨rfl, _, .str, h⟩) (by have := sizeLine_ge; omega)
theorem cl_rstripC {x z y : Str} (e : Txt.rstripChars x z = y) (hx : x.length ≤ 500000) (h : Φ (.str y)) : Cl g f d (.builtin "str.rstrip") [.str x, .str z] Φ X := cl2S fun σ wd ρ t u =>
  At.leaf fun Q E q => SC.rstripChars (fun t' k => by rw [e]; exact q _ _ ⟨rfl, _, .str, h⟩) (by have := sizeLine_ge; omega)
theorem cl_find {x z : Str} {i : Int} (e : Txt.find x z = i) (h : Φ (.int i)) : Cl g f d (.builtin "str.find") [.str x, .str z] Φ X := cl2S fun σ wd ρ t u =>
  At.leaf fun Q E q => SC.find (by rw [e]; exact q _ _ ⟨rfl, _, .int, h⟩)
theorem repL_strs {S : Addr → Obj → Prop} : ∀ l : List (Str × Tok), RepL S (strValues l) ((l.map (·.1)).map V.str)
  | [] => .nil
  | (a, t) :: l => .cons .str (repL_strs l)
theorem cl_split {x z : Str} {ys : List Str} (e : Txt.split x z = ys) (hz : (z.length == 0) = false) (hx : x.length ≤ 500000) (h : Φ (.lst (ys.map V.str))) : Cl g f d (.builtin "str.split") [.str x, .str z] Φ X := cl2S fun σ wd ρ t u l Q E hQ hX _ => wpC_of <|
  splitN1 wd.F wd.N hz (fun ws h' k e' F' N' => by
    rw [e] at e'
    exact hQ _ (wd.led h' k F' _ N') ρ (wd.le_led fun _ h => .tail _ h) (l.led fun _ h => .tail _ h) ⟨rfl, _, .lst (.inl (.head _)) rfl rfl (by rw [← e']; exact repL_strs ws), h⟩) (by have := sizeLine_ge; omega)
theorem ev_replace {o : Expr} {apos p1 p2 : Pos} {a b : Str} {k1 k2 : Nat} (h : Ev g f d o ρ (fun v ρ₁ => ∃ x y, v = .str x ∧ Txt.replace x a b = y ∧ x.length ≤ 500000 ∧ Ψ (.str y) ρ₁) X) (hab : (a == b) = false) (hb : b.length ≤ 14)
    (hfew : ∀ env, ((backTo pos (starEach [.Constant (.str a) k1 p1, .Constant (.str b) k2 p2] env)).all (fun x => !x.1) && (backToKw pos (keywordEach [] env)).all (fun x => x.1.isSome)
      && decide ([Expr.Constant (.str a) k1 p1, .Constant (.str b) k2 p2].length + ([] : List Keyword).length + (if ([] : List Keyword).isEmpty then 0 else 1) < 30)) = true := by intro; rfl)
    (hbase : ∀ env, attributeBase o (Str.ofString "replace") env (eval o env) = eval o env := by intro; rfl) (hline : (apos.endLine == pos.line) = true := by rfl) :
    Ev g f d (.Call (.Attribute o (Str.ofString "replace") apos) [.Constant (.str a) k1 p1, .Constant (.str b) k2 p2] [] pos) ρ Ψ X := fun σ wd l Q E hQ hX tk₀ => by
  refine Call_methodC (hbase _) (hfew _) hline PySem.F.plainAttrs_str PySem.F.slot_str_replace PySem.F.type_str_replace ?_
  refine (h σ wd).run l (fun va wd₁ ρ₁ l₁ lo₁ ⟨v, ra, x, y, ev, er, hx, hΨ⟩ tk₁ => ?_) hX tk₀
  subst ev
  cases ra
  refine ⟨typeIs_str _ _ _, (fun a h => by cases h), ?_⟩
  refine callWith_ok (K := g.K) CvOk.blt (by rfl) ?_
  show wpC _ _ (evalArgs _ true [(false, eval (.Constant (.str a) k1 p1) σ.env), (false, eval (.Constant (.str b) k2 p2) σ.env)] []) _ _ _
  refine evalArgs_C (wpC_of (Calls.spliced_cons (Calls.Constant_str (Calls.spliced_cons (Calls.Constant_str (Calls.spliced_nil ?_))))))
  refine ⟨fun b o k => wd₁.F.keep _ _ (wd₁.X _ _ k), ?_⟩
  obtain ⟨h', tk, e'⟩ := l₁.st
  have ht : (0 : Nat) < wd₁.s.toks := tk₁.1
  refine wpC_of ?_
  refine SC.replaceW (Nat.ne_of_gt ht) (Nat.succ_ne_zero _) (Nat.ne_of_lt (Nat.lt_succ_self _)) hab (by omega) hb fun t' k => ?_
  exact hQ _ (wd₁.tok k) ρ₁ (l₁.trans (wd₁.le_tok k)) lo₁.tok ⟨_, .str, er ▸ hΨ⟩
end

end
section


section
variable {g : Glo} {f : FI} {d : Nat} {ρ : Loc} {X : Prop} {pos : Pos} {Ψ : V → Loc → Prop} {Φ : V → Prop} {σ : Sit g f d} {wd : Wd σ}
def ExcO (o : Obj) : Prop := ∃ t, o.cls = .type "ValueError" ∧ o.data = .fields #[t, .none, .none, .none, .bool false, .none]
theorem at_excNew {vals : List Value} (hl : vals.length ≤ sizeLine) :
    At σ wd ρ (call (.type "ValueError") vals) (fun val wd' ρ' => ρ' = ρ ∧ ∃ a o, val = .ref a ∧ (a, o) ∈ wd'.news ∧ ExcO o ∧ ∀ q ∈ wd.news, q.1 ≠ a) X := fun l Q E hQ hX tk => wpC_of (call_exc excClass_ValueError (fun h' e hx => by
  obtain ⟨ob, t, h1, h2, h3⟩ := hx.there
  obtain ⟨oL, es, ep, hL, hLd, hLk, hLf⟩ := wd.F.ns
  refine hQ _ (wd.led h' wd.s.toks (wd.F.keeps hx.keeps) ((e, ob) :: wd.news) ?_) ρ (wd.le_led fun _ h => .tail _ h) (l.led fun _ h => .tail _ h) ⟨rfl, e, ob, rfl, .head _, ⟨t, h2, h3⟩, fun q hq h => ?_⟩
  · intro q hq
    rcases List.mem_cons.mp hq with rfl | hq
    · refine ⟨h1, fun h => ?_, ?_⟩
      · have h : e = σ.L := h
        rw [← h, hx.new] at hL; cases hL
      · cases k : wd.gr.get? e with
        | none => rfl
        | some o => have := wd.F.keep _ _ k; rw [hx.new] at this; cases this
    · exact (wd.N.grown hx.keeps) q hq
  · have := (wd.N q hq).1
    rw [h, hx.new] at this; cases this) hl)
theorem cl_ValueError {vs : List V} (hl : vs.length ≤ 100) (h : ∀ a, Φ (.obj (.ref a))) : Cl g f d (.type "ValueError") vs Φ X := fun σ wd ρ vals rs =>
  (at_excNew (by have := sizeLine_ge; rw [rs.length]; omega)).mono fun val wd' ρ' _ ⟨e, a, o, ev, _⟩ => ⟨e, _, .obj, ev ▸ h a⟩
/-- raising the object that the frame keeps -/
theorem ex_raise_kept {x : Str} {np : Pos} {a : Addr} {o : Obj} {Φ : Fl → Loc → Prop} (hv : GetN f.ns ρ x (.obj (.ref a))) (hm : f.must = [(a, o)]) (hm2 : f.exc = [(a, o)]) (ho : ExcO o) (hx : X) : Ex g f d (.Raise (some (.Name x np)) none pos) ρ Φ X := fun σ wd l Q E hQ hX tk => by
  refine wpC_of ?_
  have hn : (a, o) ∈ wd.news := tk.2 _ (by rw [hm]; exact .head _)
  obtain ⟨k1, k2, k3⟩ := wd.N _ hn
  obtain ⟨t, hc, hd⟩ := ho
  refine Raise_new (show σ.A.handled = none from rfl) (wpAny_Name (load_any l hv fun val r => ?_) (σ.ok.lc x hv.mem).2.1)
  cases r
  refine ⟨a, o, _, "ValueError", _, _, excClass_ValueError, rfl, k1, hc, hd, rfl, ?_⟩
  refine hX hx a wd.s.heap wd.s.toks ⟨wd.s.heap.hide a, wd.m, wd.news.filter (fun q => q.1 != a), wd.gr, wd.U, ⟨?_, fun b ob e => ?_, ?_⟩, fun q hq _ hnm => ?_, .inl ⟨fun q hq => ?_, ⟨fun b ob e => Heap.of_hide e, ?_, ?_⟩⟩⟩
  · obtain ⟨oL, es, ep, hL, hLd, hLk, hLf⟩ := wd.F.ns
    exact ⟨oL, es, ep, (Heap.hide_ne _ (Ne.symm k2)).trans hL, hLd, hLk, hLf⟩
  · exact (Heap.hide_ne _ fun (q : b = a) => by rw [q, k3] at e; cases e).trans (wd.F.keep _ _ e)
  · exact wd.F.above
  · refine List.mem_filter.mpr ⟨hq, ?_⟩
    have : q.1 ≠ a := fun h => hnm (by
      have := (wd.N q hq).1
      rw [h, k1] at this
      cases this
      rw [hm2]
      obtain ⟨q1, q2⟩ := q
      cases h
      exact .head _)
    simpa using this
  · obtain ⟨hq, hqa⟩ := List.mem_filter.mp hq
    obtain ⟨j1, j2, j3⟩ := wd.N q hq
    exact ⟨(Heap.hide_ne _ (by simpa using hqa)).trans j1, j2, j3⟩
  · have := hideAll_none [a] (h := wd.s.heap) (b := a) (.head _)
    exact this
  · exact ⟨o, t, k1, hc, hd⟩
/-- the first row makes the object, the others keep it -/
theorem exs_keep {st : Stmt} {rest : List Stmt} {x : Str} {Φ : Fl → Loc → Prop} (hm : f.exc = []) (ho1 : f.own = false) (ho2 : f.tabs = [])
    (h1 : ∀ (σ : Sit g f d) (wd : Wd σ), At σ wd ρ (exec st σ.env) (fun fl wd' ρ' => fl = .next ∧ ∃ a o, (a, o) ∈ wd'.news ∧ ExcO o ∧ (∀ q ∈ wd.news, q.1 ≠ a) ∧ SetN f.ws ρ x (.obj (.ref a)) ρ') X)
    (h2 : ∀ a o ρ', ExcO o → SetN f.ws ρ x (.obj (.ref a)) ρ' → Exs g { f with must := [(a, o)], exc := [(a, o)] } d rest ρ' Φ X) : Exs g f d (st :: rest) ρ Φ X := fun σ wd l Q E hQ hX tk => by
  show wpC _ _ (do
    match ← exec st σ.env with
    | .next => execs rest σ.env
    | f => Pure.pure f) _ _ _
  refine wpC_bind ((h1 σ wd).run l (fun fl wd₁ ρ₁ l₁ lo₁ ⟨e, a, o, hn, ho, hap, hs⟩ tk₁ => ?_) hX tk)
  subst e
  let σ' : Sit g { f with must := [(a, o)], exc := [(a, o)] } d := ⟨σ.dp, σ.un, σ.gd, σ.outer, σ.A₀, σ.base, σ.h₀, σ.L, σ.B, σ.XB, σ.TB, ⟨σ.ok.hk, σ.ok.nd, σ.ok.lc, σ.ok.gc, fun q _ => .plain ho1 ho2 q, σ.ok.cd, σ.ok.wr, σ.ok.cu⟩, σ.hd, σ.hu⟩
  let wd' : Wd σ' := ⟨wd₁.s, wd₁.m, wd₁.news, wd₁.gr, wd₁.U, wd₁.F, wd₁.N⟩
  have lo' : LocOk wd' ρ₁ := ⟨lo₁.loc, lo₁.cel, lo₁.tab⟩
  refine h2 a o ρ₁ ho hs σ' wd' lo' Q E (fun v wd₂ ρ₂ l₂ lo₂ ⟨y, ry, hy⟩ => ?_) (fun hx e h' tk' fl => ?_) ⟨tk₁.1, fun q hq => by
    obtain rfl : q = (a, o) := by simpa using hq
    exact hn⟩
  · obtain ⟨h₃, tk₃, e₃⟩ := l₂.st
    let wd₃ : Wd σ := ⟨wd₂.s, wd₂.m, wd₂.news, wd₂.gr, wd₂.U, wd₂.F, wd₂.N⟩
    exact hQ v wd₃ ρ₂ (l₁.trans ⟨⟨h₃, tk₃, e₃⟩, l₂.nw, l₂.mm⟩) ⟨lo₂.loc, lo₂.cel, lo₂.tab⟩ ⟨y, ry, hy⟩
  · obtain ⟨h₃, tk₃, e₃⟩ := l₁.st
    obtain ⟨hh, mm, nn, gg, q0, q1, q2, q3⟩ := fl
    have := hX hx e h' tk' ⟨hh, mm, nn, gg, q0, q1, fun q hq hst _ => q2 q (l₁.nw q hq hst) (.plain ho1 ho2 q) (fun hmm => by
      obtain rfl : q = (a, o) := by simpa using hmm
      exact hap _ hq rfl), q3⟩
    show E (.ref e) { wd₁.s with heap := h', toks := tk' }
    rw [e₃]
    exact this
theorem ex_raiseC {x : Str} {np : Pos} {Φ : Fl → Loc → Prop} (b : Bl g.K x (.type "ValueError")) (hm : InL f.gs x) (hx : X) : Ex g f d (.Raise (some (.Name x np)) none pos) ρ Φ X := fun σ wd l Q E hQ hX tk =>
  wpC_of (Raise_classB rfl excClass_ValueError excClass_ValueError.self (blt_any b hm ⟨rfl, rfl⟩) fun h' e hn => hX hx e h' wd.s.toks (.new hn))
theorem cl_int_text {x : Str} {n : Int} (e : PySem.intText? x = some n) (hx : x.length ≤ 640) (h : Φ (.int n)) : Cl g f d (.type "int") [.str x] Φ X := cl1S fun σ wd ρ t =>
  At.leaf fun Q E q => KIN.call_text e hx (q _ _ ⟨rfl, _, .int, h⟩)
end

end
section


section
variable {M : Model} {A : Around} {E : Value → Shared → Prop} {s : Shared}
theorem wpC_run {c : Code} {Q : Flow → Shared → Prop} (hc : codeC M (A.mark none) c (fun r s' => match r with | .ok f => Q f s' | .error e => E e s') s) : wpC M A (run c none) Q E s := fun Γ p hΓ hcl => by
  rw [Sem.wp_run]
  refine hc _ p rfl (hΓ.enter _ none p (by intro x; cases x)) ?_
  simp only [Ctx.enter, List.any_cons]
  exact hcl
end
section
variable {prog : Program} {w : World} {A : Around} {s : Shared} {R : Result → Shared → Prop} {test : Expr} {body : List Stmt} {env : Env}
theorem codeC_while (J : Nat → Shared → Prop) (turn : ∀ n s, J n s → wpC (model prog w) A (isTrue test env (eval test env)) (fun b s₁ =>
      (b = true → wpC (model prog w) A (execs body env) (fun fl s₂ => fl = .next ∧ ∃ m, m < n ∧ J m s₂) (fun _ _ => False) s₁) ∧ (b = false → R (.ok .next) s₁)) (fun _ _ => False) s) :
    ∀ n s, J n s → codeC (model prog w) A (.whileLoop test body [] env) R s := by
  intro n
  induction n using Nat.strongRecOn with
  | ind n ih =>
    intro s hJ
    refine codeC_tree ?_
    rw [Around.under_of_weight (by rfl) (by rfl)]
    show wpC _ A ((whileTurn test body [] env).onRaise _) _ _ s
    have h0 : wpC (model prog w) A (whileTurn test body [] env) (fun fin s' => match fin with | .done f => R (.ok f) s' | .again c' => c'.quiet = true ∧ codeC (model prog w) A c' R s') (fun _ _ => False) s := by
      unfold whileTurn
      refine wpC_bind (wpC_mono (turn n s hJ) (fun b s₁ hb => ?_) fun _ _ x => x)
      cases b with
      | false =>
        simp only [Bool.false_eq_true, if_false]
        exact wpC_bind (wpC_pure (wpC_pure (hb.2 rfl)))
      | true =>
        simp only [if_true]
        refine wpC_bind (wpC_mono (hb.1 rfl) (fun fl s₂ h₂ => ?_) fun _ _ x => x)
        obtain ⟨rfl, m, hm, hJ'⟩ := h₂
        exact wpC_pure ⟨rfl, ih m hm s₂ hJ'⟩
    exact wpC_onRaise (wpC_mono h0 (fun _ _ x => x) fun _ _ x => x.elim)
end
section
variable {g : Glo} {f : FI} {d : Nat} {ρ : Loc} {X : Prop} {pos : Pos} {Ψ : V → Loc → Prop} {Φ : V → Prop}
theorem ex_while {test : Expr} {body : List Stmt} {Φ : Fl → Loc → Prop} (I : Nat → Loc → Prop) {n : Nat} (hI : I n ρ)
    (h : ∀ n ρ, I n ρ → Tst g f d test ρ (fun c ρ₁ => (c = true → Exs g f d body ρ₁ (fun fl ρ₂ => fl = .next ∧ ∃ m, m < n ∧ I m ρ₂) False) ∧ (c = false → Φ .next ρ₁)) False) :
    Ex g f d (.While test body [] pos) ρ Φ X := fun σ wd l Q E hQ hX tk => by
  show wpC _ _ (standAt pos >>= fun _ => runOwn (.whileLoop test body [] σ.env) σ.env) _ _ _
  refine wpC_stand ?_
  unfold runOwn
  refine wpC_onRaise (wpC_mono (E := fun _ _ => False) (wpC_run ?_) (fun _ _ x => x) fun _ _ x => x.elim)
  refine codeC_while (fun n s => ∃ (wd' : Wd σ) (ρ' : Loc), wd.le wd' ∧ LocOk wd' ρ' ∧ wd'.Go ∧ I n ρ' ∧ s = wd'.s) ?_ n wd.s ⟨wd, ρ, .refl _, l, tk, hI, rfl⟩
  rintro n s ⟨wd', ρ', l', lo', tk', hI', rfl⟩
  refine (h n ρ' hI' σ wd').run lo' (fun c wd₁ ρ₁ l₁ lo₁ hc tk₁ => ⟨fun e => ?_, fun e => ?_⟩) (fun x => x.elim) tk'
  · refine (hc.1 e σ wd₁).run lo₁ (fun fl wd₂ ρ₂ l₂ lo₂ ⟨v, rv, ev, m, hm, hI₂⟩ tk₂ => ?_) (fun x => x.elim) tk₁
    subst ev
    cases rv
    exact ⟨rfl, m, hm, wd₂, ρ₂, (l'.trans l₁).trans l₂, lo₂, tk₂, hI₂, rfl⟩
  · exact hQ _ wd₁ ρ₁ (l'.trans l₁) lo₁ ⟨_, .next, hc.2 e⟩
theorem ex_swap2 {x y : Str} {p1 p2 tp : Pos} {k : Nat} {value : Expr} {Φ : Fl → Loc → Prop} (hs : ∀ L, swappedStores [.Tuple [.Name x p1, .Name y p2] k tp] value (f.env L) = pure (some [x, y]))
    (h : Ev g f d value ρ (fun v ρ₁ => ∃ a b, v = .tup [a, b] ∧ ∃ ρ₂, SetN f.ws ρ₁ y b ρ₂ ∧ ∃ ρ₃, SetN f.ws ρ₂ x a ρ₃ ∧ Φ .next ρ₃) X)
    (h1 : ∀ env, swapsWithSole [.Tuple [.Name x p1, .Name y p2] k tp] value pos.line env = pure false) : Ex g f d (.Assign [.Tuple [.Name x p1, .Name y p2] k tp] value pos) ρ Φ X :=
  ex_assign_swap hs (fun σ wd => (h σ wd).mono fun v wd' ρ' l ⟨u, ru, a, b, e, ρ₂, h2, ρ₃, h3, h4⟩ => ⟨u, ru, [a, b], e, rfl, ρ₂, h2, ρ₃, h3, h4⟩) h1
theorem tst_if {t a b : Expr} {Ψ : Bool → Loc → Prop} (h : Tst g f d t ρ (fun c ρ₁ => (c = true → Tst g f d a ρ₁ Ψ X) ∧ (c = false → Tst g f d b ρ₁ Ψ X)) X) : Tst g f d (.IfExp t a b pos) ρ Ψ X := fun σ wd => by
  show At σ wd ρ (do if ← isTrue t σ.env (eval t σ.env) then isTrue a σ.env (eval a σ.env) else isTrue b σ.env (eval b σ.env)) _ _
  refine .bind ((h σ wd).mono fun c wd₁ ρ₁ l₁ hc => ?_)
  cases c with
  | true => exact hc.1 rfl σ wd₁
  | false => exact hc.2 rfl σ wd₁
theorem cl_lenL {vs : List V} (h : Φ (.int vs.length)) (hl : vs.length ≤ 1000000) : Cl g f d (.builtin "len") [.lst vs] Φ X := fun σ wd ρ vals rs => by
  cases rs with
  | cons r rs =>
    cases rs
    cases r
    rename_i a o items n hS hc hd rs
    have := rs.length
    exact At.leaf fun Q E q => len_list ⟨_, Sup.heap wd hS, hc, _, hd⟩ (by rw [List.size_toArray]; omega) (by rw [List.size_toArray, this]; exact q _ _ ⟨rfl, _, .int, h⟩)
end

end
section
open PySem.NumText

open KIN in
theorem gives_text2 {x : PySem.Str} {u v : Tok} {n : Int} (hl : x.length ≤ 640) (hn : PySem.intText? x = some n) : Gives (Builtin.«int.__new__» ⟨[.type "int", .str x u, .int 10 v], []⟩) (.int n) :=
  .of_wp fun M A E s Q h => by
    obtain ⟨hp, g, d, tk, os⟩ := s
    have f1 := F.conv_sub_int
    have f2 := F.madeHere_int
    have f3 := str_int
    have f4 := str_idx
    have f5 := str_trunc
    have f6 : typeOf (.str x u) = pure (.type "str") := rfl
    have hs : (numSeenOf x).length ≤ 640 := Nat.le_trans (seen_length x) hl
    have hr : (int_private% "readNumeral") 0 10 (numSeenOf x) = (int_private% "Numeral.value") n ∧ ((numSeenOf x).length == (numTextOf x).length) = true := by
      rcases read0 x hs with ⟨m, h1, h2, h3⟩ | ⟨h1, _⟩
      · rw [hn] at h1
        injection h1 with h1
        subst h1
        exact ⟨h3, h2⟩
      · rw [hn] at h1
        cases h1
    have hk := Hid.mk (And.intro hs hr)
    clear hs hr hl hn
    repeat (any_goals (first
      | assumption
      | ((with_reducible show wpAny _ _ ((int_private% "intFromText") _ _ _) _ _ _); refine wp_text hk.out.1 hk.out.2.1 hk.out.2.2 ?_)
      | wp_step))
    all_goals exact ⟨_, rfl, h⟩
theorem int_tc2 (a b : Value) : checkTypeCall "int" ⟨[a, b], []⟩ = pure () := by kernel_rfl
theorem int_nc2 (a b : Value) : checkBuiltinCall "int.__new__" ⟨[.type "int", a, b], []⟩ = pure () := by kernel_rfl
theorem int_oi2 (o a b : Value) : argsOk "object.__init__" ⟨[o, a, b], []⟩ := by
  first | exact PySem.F.args_object_init_3 o a b | (unfold argsOk; kernel_rfl) | kernel_rfl
theorem call_text2 {prog : Program} {w : World} {A : Around} {E : Value → Shared → Prop} {s : Shared} {Q : Value → Shared → Prop} {x : PySem.Str} {t u : Tok} {n : Int} (hn : PySem.intText? x = some n) (hl : x.length ≤ 640) (h : Q (.int n s.toks) { s with toks := s.toks + 1 }) :
    wpAny (model prog w) A (call (.type "int") [.str x t, .int 10 u]) Q E s :=
  callType_new F.called_int F.newNe_int (int_tc2 _ _) (int_nc2 _ _) (fun obj => int_oi2 obj _ _) F.entry_int_new (gives_text2 hl hn).meets (show (Made.int n).post _ s from ⟨rfl, h⟩)
theorem cl_int_text2 {g : Glo} {f : FI} {d : Nat} {X : Prop} {Φ : V → Prop} {x : PySem.Str} {n : Int} (e : PySem.intText? x = some n) (hx : x.length ≤ 640) (h : Φ (.int n)) : Cl g f d (.type "int") [.str x, .int 10] Φ X := fun σ wd ρ vals rs => by
  cases rs with
  | cons r rs =>
    cases rs with
    | cons r' rs =>
      cases rs
      cases r
      cases r'
      exact At.leaf fun Q E q => call_text2 e hx (q _ _ ⟨rfl, _, .int, h⟩)

end
section
open PySem.NumText

theorem called_any {Γ : Ctx} {p : Pos} (h : Called Γ) : (((Γ.code, p) :: Γ.below).map (·.1)).any (fun c => match c with | .builtin "claim.caller" _ => true | _ => false) = true := by
  have e : ∀ c : Code, (match c with | .builtin "claim.caller" _ => true | _ => false) = c.isCaller := fun c => by unfold Code.isCaller; rfl
  unfold Called at h
  simp only [List.map_cons, List.any_cons, List.any_map, e]
  simpa [Function.comp_def, e] using h
theorem wpC_mark {M : Model} {A : Around} {E : Value → Shared → Prop} {s : Shared} {own : List String} {e : Value} {Q : Unit → Shared → Prop} (h : Q () s) : wpC M A (markTheRefusal own e) Q E s := fun Γ p hΓ hc => by
  unfold markTheRefusal
  rw [Sem.wp_bind']
  show Sem.wp M Γ (if pythonCodeMadeTheCall own (((Γ.code, p) :: Γ.below).map (·.1)) = true then _ else _) _ _ p s
  have : pythonCodeMadeTheCall own (((Γ.code, p) :: Γ.below).map (·.1)) = false := by
    have key : ∀ a b c : Bool, a = true → (!a && b && c) = false := fun a b c h => by rw [h]; rfl
    unfold pythonCodeMadeTheCall
    exact key _ _ _ (called_any (p := p) hc)
  rw [if_neg (by rw [this]; decide)]
  exact h
section
variable {prog : Program} {w : World} {A : Around} {E : Value → Shared → Prop} {s : Shared}
theorem codeC_builtin {R : Result → Shared → Prop} {id : String} {args : Args} {b : Builtin} (hb : entryFor table id = some b)
    (h : wpC (model prog w) (A.under (.builtin id args)) (b args) (fun fin s' => match fin with | .done f => R (.ok f) s' | .again c' => c'.quiet = true ∧ codeC (model prog w) A c' R s') (fun e s' => R (.error e) s') s) : codeC (model prog w) A (.builtin id args) R s := by
  refine codeC_tree ?_
  show wpC _ _ (match entryFor table id with | some b => b args | none => unsupported ((withoutEnding? id "#data").getD id)) _ _ s
  rw [hb]; exact h
theorem codeC_callBuiltin {R : Result → Shared → Prop} {id : String} {args : Args} (hq : (Code.builtin id args).quiet = true) (hn : checkBuiltinCall id args = pure ()) (h : codeC (model prog w) A (.builtin id args) R s) : codeC (model prog w) A (.call (.builtin id) args) R s := by
  refine codeC_tree ?_
  show wpC _ A.in1 (do checkBuiltinCall id args; again (.builtin id args)) _ _ s
  rw [hn]
  exact wpC_bind (wpC_pure (wpC_pure ⟨hq, h⟩))
theorem call_int_C {args : List Value} {Q : Value → Shared → Prop} (h1 : checkTypeCall "int" ⟨args, []⟩ = pure ()) (h2 : checkBuiltinCall "int.__new__" ⟨.type "int" :: args, []⟩ = pure ())
    (h : wpC (model prog w) A.in1.in1 (Builtin.«int.__new__» ⟨.type "int" :: args, []⟩) (fun _ _ => False) E s) : wpC (model prog w) A (call (.type "int") args) Q E s := by
  have hmro := F.mro_int
  have hmade := F.called_int.made
  have q1 := F.called_int.notType
  have q2 := F.called_int.canCreate
  refine wpC_call (codeC_tree ?_)
  show wpC _ _ (callAny (.type "int") _) _ _ _
  refine wpC_pure ⟨Code.quiet_builtin _ (by decide +kernel), codeC_builtin F.entry_type_call ?_⟩
  rw [Around.under_plain (weight_type_call_type "int" args []) (units_type_call_type "int" args [])]
  have tree : Builtin.«type.__call__» ⟨.type "int" :: args, []⟩ = (holding [.builtin "int.__new__"] (call (.builtin "int.__new__") (.type "int" :: args) []) >>= fun obj => do
      if !(← isInstance obj (.type "int")) then rule "type.call.new-gave-other-type"; return ← ret obj
      match ← holding [obj] (callSpecial? obj "__init__" args []) with
      | none => ret obj
      | some r =>
        if r != .none then
          rule "type.call.init-returned-value"
          raiseError "TypeError" s!"__init__() should return None, not '{← typeNameOf r}'"
        ret obj) := by
    unfold Builtin.«type.__call__»
    dsimp only
    rw [q1, q2, h1, hmro, hmade]
    rfl
  rw [tree]
  refine wpC_bind (wpC_holding (wpC_call (codeC_callBuiltin (Code.quiet_builtin _ (by decide +kernel)) h2 (codeC_builtin F.entry_int_new ?_))))
  have e : (A.in1).under (Code.builtin "int.__new__" ⟨.type "int" :: args, []⟩) = A.in1.in1 := Around.under_plainId (by decide +kernel) _
  rw [e]
  exact wpC_mono h (fun _ _ x => x.elim) fun _ _ x => x
end

end
section
open PySem.NumText

section
variable {prog : Program} {w : World} {A : Around} {E : Value → Shared → Prop} {s : Shared}
theorem delta_C {α : Type} {M : Model} {A : Around} {E : Value → Shared → Prop} {s : Shared} {t t' : Sem α} {Q : α → Shared → Prop} (disc : ∀ (Q : α → Shared → Prop) (E : Value → Shared → Prop), wpAny M A t' Q E s → wpAny M A t Q E s) (h : t = t') (k : wpC M A t' Q E s) : wpC M A t Q E s := h ▸ k
theorem text_fail {Q : Value → Shared → Prop} (hh : A.handled = none) {x : Str} {u : Tok} {text : List Nat} (hs : (text.takeWhile (· != 0)).length ≤ 640)
    (hr : (int_private% "readNumeral") 0 10 (text.takeWhile (· != 0)) = (int_private% "Numeral.invalid")) (hx : (reprText x).length ≤ 300)
    (h : ∀ h' tk e, Heap.NewExc s.heap h' e "ValueError" → E (.ref e) { s with heap := h', toks := tk }) :
    wpC (model prog w) A ((int_private% "intFromText") (.str x u) text 10) Q E s := by
  refine delta_C (by intro Q E hh; wp_delta; exact hh) (by first | rfl | kernel_rfl) ?_
  rw [if_pos hs]
  refine wpC_bind (wpC_pure ?_)
  refine delta_C (by intro Q E hh; wp_delta; exact hh) (by first | rfl | kernel_rfl) ?_
  rw [hr]
  refine delta_C (by intro Q E hh; wp_delta; exact hh) (by first | rfl | kernel_rfl) ?_
  have hb : (int_private% "bytesOf?") (.str x u) = pure none := rfl
  rw [hb]
  refine wpC_bind (wpC_pure ?_)
  rw [if_neg (by simp)]
  refine wpC_bind (wpC_of (wpAny_rule ?_))
  refine wpC_bind (wpC_pure ?_)
  refine delta_C (by intro Q E hh; wp_delta; exact hh) (by first | rfl | kernel_rfl) ?_
  refine wpC_bind (wpC_of (wpAny_pyRepr_str ?_ (by have := sizeLine_ge; omega)))
  have hl : ∀ (a : Str) (b : Str), a.length ≤ 200 → b.length ≤ 300 → (a ++ b).length ≤ sizeLine := fun a b h1 h2 => by
    have e : (a ++ b).length = a.length + b.length := by
      show (a.cps ++ b.cps).size = _
      rw [Array.size_append]; rfl
    have := sizeLine_ge
    omega
  refine wpC_bind (wpC_of (wpAny_mkStr ?_ ?_))
  rotate_left
  · refine hl _ _ (by decide +kernel) ?_
    show ((reprText x).cps.extract 0 200).size ≤ 300
    rw [Array.size_extract]
    omega
  refine wpC_bind (wpC_of ?_)
  unfold newExc newTuple
  refine wpAny_bind (wpAny_newObj_type ?_)
  refine wpAny_bind (m := firstArgMember _ _) (wpAny_of_eq (a := Value.none) (by simp only [firstArgMember, plainExc_ValueError.first]; rfl) ?_)
  rw [plainExc_ValueError.own]
  refine wpAny_newObj_type ?_
  refine wpC_bind (wpC_mark (wpC_of ?_))
  unfold raiseNew
  refine wpAny_bind (wpAny_handled ?_)
  rw [hh]
  first
    | refine wpAny_throw ?_
    | refine wpAny_bind (wpAny_pure (wpAny_throw ?_))
  exact h _ _ _ ⟨fun b o hb => Heap.get?_push_of_some _ (Heap.get?_push_of_some _ hb), Heap.get?_none_of_le (by simp), _, .ref s.heap.objs.size, Heap.get?_push_size _ rfl, rfl, by simp⟩
end

end
section
open PySem.NumText

section
variable {prog : Program} {w : World} {A : Around} {E : Value → Shared → Prop} {s : Shared}
theorem new_fail2 (hh : A.handled = none) {x : Str} {u v : Tok} (hs : ((numTextOf x).takeWhile (· != 0)).length ≤ 640)
    (hr : (int_private% "readNumeral") 0 10 ((numTextOf x).takeWhile (· != 0)) = (int_private% "Numeral.invalid")) (hx : (reprText x).length ≤ 300)
    (h : ∀ h' tk e, Heap.NewExc s.heap h' e "ValueError" → E (.ref e) { s with heap := h', toks := tk }) :
    wpC (model prog w) A (Builtin.«int.__new__» ⟨[.type "int", .str x u, .int 10 v], []⟩) (fun _ _ => False) E s := by
  have f1 := F.conv_sub_int
  have f2 := F.madeHere_int
  refine delta_C (by intro Q E hh; wp_delta; exact hh) (by first | rfl | kernel_rfl) ?_
  refine wpC_bind ?_
  repeat (first
    | exact text_fail hh hs hr hx h
    | (with_reducible refine wpC_bind (wpC_of (wpAny_of_eq (by assumption) ?_)))
    | (with_reducible refine wpC_of (wpAny_of_eq (by assumption) ?_))
    | (with_reducible refine wpC_pure ?_)
    | ((with_reducible refine wpC_bind (m := Builtin.Int.intIndex _ _) (wpC_of ?_)); repeat (any_goals (first | assumption | wp_step)))
    | (with_reducible refine wpC_bind ?_)
    | (rw [if_neg (by first | decide | (simp; done))])
    | (rw [if_pos (by first | decide | (simp; done))])
    | (refine delta_C (by intro Q E hh; wp_delta; exact hh) (by first | rfl | kernel_rfl) ?_))
theorem new_fail1 (hh : A.handled = none) {x : Str} {u : Tok} (hs : ((numTextOf x).takeWhile (· != 0)).length ≤ 640)
    (hr : (int_private% "readNumeral") 0 10 ((numTextOf x).takeWhile (· != 0)) = (int_private% "Numeral.invalid")) (hx : (reprText x).length ≤ 300)
    (h : ∀ h' tk e, Heap.NewExc s.heap h' e "ValueError" → E (.ref e) { s with heap := h', toks := tk }) :
    wpC (model prog w) A (Builtin.«int.__new__» ⟨[.type "int", .str x u], []⟩) (fun _ _ => False) E s := by
  have f1 := F.conv_sub_int
  have f2 := F.madeHere_int
  have f3 := KIN.str_int
  have f4 := KIN.str_idx
  have f5 := KIN.str_trunc
  have f6 : typeOf (.str x u) = pure (.type "str") := rfl
  refine delta_C (by intro Q E hh; wp_delta; exact hh) (by first | rfl | kernel_rfl) ?_
  refine wpC_bind ?_
  repeat (first
    | exact text_fail hh hs hr hx h
    | (with_reducible refine wpC_bind (wpC_of (wpAny_of_eq (by assumption) ?_)))
    | (with_reducible refine wpC_of (wpAny_of_eq (by assumption) ?_))
    | (with_reducible refine wpC_pure ?_)
    | ((with_reducible refine wpC_bind (m := specialOf _ _) (wpC_of ?_)); repeat (any_goals (first | assumption | wp_step)))
    | ((with_reducible refine wpC_bind (m := callSpecial? _ _ _ _) (wpC_of ?_)); repeat (any_goals (first | assumption | wp_step)))
    | (with_reducible refine wpC_bind ?_)
    | (rw [if_neg (by first | decide | (simp; done))])
    | (rw [if_pos (by first | decide | (simp; done))])
    | (refine delta_C (by intro Q E hh; wp_delta; exact hh) (by first | rfl | kernel_rfl) ?_))
end
/-- a text that int refuses -/
structure NoInt (x : Str) : Prop where
  hs : ((numTextOf x).takeWhile (· != 0)).length ≤ 640
  hr : (int_private% "readNumeral") 0 10 ((numTextOf x).takeWhile (· != 0)) = (int_private% "Numeral.invalid")
  hx : (reprText x).length ≤ 300
section
variable {g : Glo} {f : FI} {d : Nat} {X : Prop} {Φ : V → Prop}
theorem cl_int_no1 {x : Str} (n : NoInt x) (hX : X) : Cl g f d (.type "int") [.str x] Φ X := cl1S fun σ wd ρ t l Q E hQ hE tk =>
  call_int_C (F.typeCall_int_1 _) (F.newCall_int_1 _) (new_fail1 rfl n.hs n.hr n.hx fun h' tk' e hn => hE hX e h' tk' (.new hn))
theorem cl_int_no2 {x : Str} (n : NoInt x) (hX : X) : Cl g f d (.type "int") [.str x, .int 10] Φ X := fun σ wd ρ vals rs => by
  cases rs with
  | cons r rs =>
    cases rs with
    | cons r' rs =>
      cases rs
      cases r
      cases r'
      exact fun l Q E hQ hE tk => call_int_C (int_tc2 _ _) (int_nc2 _ _) (new_fail2 rfl n.hs n.hr n.hx fun h' tk' e hn => hE hX e h' tk' (.new hn))
end
theorem noInt_a : NoInt (Str.ofString "") := ⟨by decide +kernel, by kernel_rfl, by decide +kernel⟩
theorem noInt_b : NoInt (Str.ofString "1.2.3") := ⟨by decide +kernel, by kernel_rfl, by decide +kernel⟩
theorem noInt_c : NoInt (Str.ofString "[1;2]") := ⟨by decide +kernel, by kernel_rfl, by decide +kernel⟩

end
section


section
variable {g : Glo} {f : FI} {d : Nat} {X : Prop} {Φ : V → Prop}
theorem op_msg {x : Str} (hx : x.length ≤ 1000000) (h : ∀ y, Φ (.str y)) : Op2 (binaryOp .Mod) g f d (.str (Str.ofString "Improperly formed interval number '%s'")) (.str x) Φ X := fun σ wd ρ va vb ra rb => by
  cases ra
  cases rb
  refine At.leaf fun Q E q => ?_
  refine' KPc.mod_str ?kpcF ?kpcl ?kpcm ?_
  case kpcF => kpc_eq
  case kpcl => exact hx
  case kpcm => kpc_run_s
  intro t' k
  exact q _ _ ⟨rfl, _, .str, h _⟩
end

end
section


theorem sw_loop {M : Model} {A : Around} {E : Value → Shared → Prop} {s : Shared} {x : Str} {a : Addr} {t : Tok} {o : Obj} {n : Nat} {vals : List Value} {ys : List Str} {Q : Fin → Shared → Prop} (ho : s.heap.get? a = some o) (hc : o.cls = .type "tuple") (hd : o.data = .seq vals.toArray n)
    (hv : ∀ v ∈ vals, ∃ y u, v = .str y u ∧ Txt.startswith x y = false) (h : Q (.done (.ret (.bool false))) s) : wpAny M A (Builtin.«str.startswith» ⟨[.str x t, .ref a], []⟩) Q E s := by
  have hT : s.TypeIs (.ref a) "tuple" := ⟨o, ho, hc⟩
  have hsub : isSubtype (.type "tuple") (.type "tuple") = pure true := by rw [isSubtype_type]; kernel_rfl
  obtain ⟨hp, g, dd, tk, os⟩ := s
  repeat (any_goals (first | assumption | wp_step))
  rw [hd]
  repeat (any_goals (first | assumption | wp_step))
  rw [hc]
  repeat (any_goals (first | assumption | wp_step))
  rw [hd]
  repeat (any_goals (first
    | assumption
    | (with_reducible refine PySem.MeetsSeq2.wpAny_forIn_array _ (fun rest b s' => (∀ v ∈ rest, ∃ y u, v = .str y u ∧ Txt.startswith x y = false) ∧ b = (none, ()) ∧ s' = ⟨hp, g, dd, tk, os⟩) _ ?_ ?_ _ _ ?_)
    | wp_step))
  rotate_left 2
  · exact ⟨by simpa using hv, rfl, rfl⟩
  · rintro v rest b s' ⟨hr, rfl, rfl⟩
    obtain ⟨y, u, rfl, hy⟩ := hr _ (.head _)
    refine wpAny_bind (wpAny_of_eq (a := some y) rfl ?_)
    dsimp only
    rw [if_neg (by
      unfold Txt.startswith at hy
      simp at hy ⊢
      exact hy)]
    exact wpAny_pure ⟨fun v hv => hr v (.tail _ hv), rfl, rfl⟩
  · rintro b s' ⟨-, rfl, rfl⟩
    dsimp only
    repeat (any_goals (first | assumption | wp_step))
theorem meets_sw (x : Str) (t : Tok) (a : Addr) : Meets (Builtin.«str.startswith» ⟨[.str x t, .ref a], []⟩) (fun _ R s => (∃ o n vals, s.heap.get? a = some o ∧ o.cls = .type "tuple" ∧ o.data = .seq (List.toArray vals) n ∧ ∀ v ∈ vals, ∃ y u, v = Value.str y u ∧ Txt.startswith x y = false) ∧ R (.ok (.ret (.bool false))) s) :=
  .of_wp fun prog w A R s ⟨⟨o, n, vals, h1, h2, h3, h4⟩, hR⟩ => sw_loop (ys := []) h1 h2 h3 h4 ⟨_, rfl, hR⟩
theorem repL_strs_no {S : Addr → Obj → Prop} {x : Str} : ∀ {items : List Value} {ys : List Str}, RepL S items (ys.map V.str) → (∀ y ∈ ys, Txt.startswith x y = false) → ∀ v ∈ items, ∃ y u, v = Value.str y u ∧ Txt.startswith x y = false
  | [], _, _, _ => fun v hv => by cases hv
  | _ :: _, [], r, _ => by cases r
  | w :: items, y :: ys, .cons r rs, h => fun v hv => by
    cases r
    rcases List.mem_cons.mp hv with rfl | hv
    · exact ⟨y, _, rfl, h y (.head _)⟩
    · exact repL_strs_no rs (fun z hz => h z (.tail _ hz)) v hv
theorem cl_startswith {g : Glo} {f : FI} {d : Nat} {X : Prop} {Φ : V → Prop} {x : Str} {ys : List Str} (hy : ∀ y ∈ ys, Txt.startswith x y = false) (h : Φ (.bool false)) : Cl g f d (.builtin "str.startswith") [.str x, .tup (ys.map V.str)] Φ X := fun σ wd ρ vals rs => by
  cases rs with
  | cons r rs =>
    cases rs with
    | cons r' rs =>
      cases rs
      cases r
      cases r'
      rename_i t a o items n hS hc hd rs
      exact At.leaf fun Q E q => call_meets F.slot_str_startswith (typeIs_str _ _ _) F.entry_str_startswith (F.args_str_startswith_2 _ _) (meets_sw x t a)
        ⟨⟨o, n, items, Sup.heap wd hS, hc, hd, repL_strs_no rs hy⟩, q _ wd.s.toks ⟨rfl, _, .bool, h⟩⟩

end
section


section
variable {g : Glo} {f : FI} {d : Nat} {ρ : Loc} {X : Prop} {pos : Pos} {Ψ : V → Loc → Prop}
theorem ev_slice_to {value upper : Expr} {p : Pos} (h : Ev g f d value ρ (fun a ρ₁ => Ev g f d upper ρ₁ (fun j ρ₂ => ∃ x jj y, a = .str x ∧ j = .int jj ∧ Txt.slice x none (some jj) = y ∧ x.length ≤ 500000 ∧ Ψ (.str y) ρ₂) X) X)
    (hs : ∀ o i, subscripted (.Slice none (some upper) none p) false o i = operate [i, o] (getItem o i) := by intros; with_unfolding_all rfl) (ht : ∀ o r, letTemporaryGo value o r = pure () := by intros; with_unfolding_all rfl) :
    Ev g f d (.Subscript value (.Slice none (some upper) none p) pos) ρ Ψ X := fun σ wd => by
  show At σ wd ρ (do
    let o ← eval value σ.env
    let i ← PySem.holding [o] (eval (.Slice none (some upper) none p) σ.env)
    PySem.standAt pos
    subscriptTail value (.Slice none (some upper) none p) o i) _ _
  refine .bind ((h σ wd).mono fun va wd₁ ρ₁ l₁ ⟨a, ra, ha⟩ => .bind (.holding ?_))
  show At σ wd₁ ρ₁ (do
    let l ← (Pure.pure Value.none : Sem Value)
    let u ← PySem.holding [l] (eval upper σ.env)
    let s ← PySem.holding [l, u] (Pure.pure Value.none : Sem Value)
    newFields "slice" [l, u, s]) _ _
  refine .bind (.pure (.bind (.holding ((ha σ wd₁).mono fun vb wd₂ ρ₂ l₂ ⟨j, rj, x, jj, y, ea, ej, ey, hx, hΨ⟩ => .bind (.holding (.pure ?_))))))
  subst ea
  subst ej
  cases ra
  cases rj
  rename_i t uj rv
  intro l Q E hQ hX tk
  refine wpC_of ?_
  unfold newFields
  refine wpAny_newObj_type ?_
  refine hQ _ (wd₂.grow (wd₂.s.heap.push { cls := .type "slice", data := .fields #[.none, .int jj uj, .none] }) wd₂.s.toks (fun b o e => Heap.get?_push_of_some _ e)) ρ₂ wd₂.le_grow l.grow ?_
  refine .stand ?_
  intro l' Q' E' hQ' hX' tk'
  refine wpC_of (slice_strN_ns_len wd₂.F wd₂.N (fun h' t' k F' N' _ => ?_) (hs _ _) (ht _) (by have := sizeLine_ge; omega))
  rw [ey]
  refine hQ' _ ⟨{ wd₂.s with heap := h', toks := k }, wd₂.m, wd₂.news, wd₂.gr, wd₂.U, F', N'⟩ ρ₂ (.of ⟨_, _, rfl⟩ fun _ h => h) (l.of rfl fun _ h => h) ⟨_, .str, hΨ⟩
theorem ev_slice_from {value lower : Expr} {p : Pos} (h : Ev g f d value ρ (fun a ρ₁ => Ev g f d lower ρ₁ (fun j ρ₂ => ∃ x jj y, a = .str x ∧ j = .int jj ∧ Txt.slice x (some jj) none = y ∧ x.length ≤ 500000 ∧ Ψ (.str y) ρ₂) X) X)
    (hs : ∀ o i, subscripted (.Slice (some lower) none none p) false o i = operate [i, o] (getItem o i) := by intros; with_unfolding_all rfl) (ht : ∀ o r, letTemporaryGo value o r = pure () := by intros; with_unfolding_all rfl) :
    Ev g f d (.Subscript value (.Slice (some lower) none none p) pos) ρ Ψ X := fun σ wd => by
  show At σ wd ρ (do
    let o ← eval value σ.env
    let i ← PySem.holding [o] (eval (.Slice (some lower) none none p) σ.env)
    PySem.standAt pos
    subscriptTail value (.Slice (some lower) none none p) o i) _ _
  refine .bind ((h σ wd).mono fun va wd₁ ρ₁ l₁ ⟨a, ra, ha⟩ => .bind (.holding ?_))
  show At σ wd₁ ρ₁ (do
    let l ← eval lower σ.env
    let u ← PySem.holding [l] (Pure.pure Value.none : Sem Value)
    let s ← PySem.holding [l, u] (Pure.pure Value.none : Sem Value)
    newFields "slice" [l, u, s]) _ _
  refine .bind ((ha σ wd₁).mono fun vb wd₂ ρ₂ l₂ ⟨j, rj, x, jj, y, ea, ej, ey, hx, hΨ⟩ => .bind (.holding (.pure (.bind (.holding (.pure ?_))))))
  subst ea
  subst ej
  cases ra
  cases rj
  rename_i t uj rv
  intro l Q E hQ hX tk
  refine wpC_of ?_
  unfold newFields
  refine wpAny_newObj_type ?_
  refine hQ _ (wd₂.grow (wd₂.s.heap.push { cls := .type "slice", data := .fields #[.int jj uj, .none, .none] }) wd₂.s.toks (fun b o e => Heap.get?_push_of_some _ e)) ρ₂ wd₂.le_grow l.grow ?_
  refine .stand ?_
  intro l' Q' E' hQ' hX' tk'
  refine wpC_of (slice_strN_sn_len wd₂.F wd₂.N (fun h' t' k F' N' _ => ?_) (hs _ _) (ht _) (by have := sizeLine_ge; omega))
  rw [ey]
  refine hQ' _ ⟨{ wd₂.s with heap := h', toks := k }, wd₂.m, wd₂.news, wd₂.gr, wd₂.U, F', N'⟩ ρ₂ (.of ⟨_, _, rfl⟩ fun _ h => h) (l.of rfl fun _ h => h) ⟨_, .str, hΨ⟩
end

end
section


/-- more items than names -/
theorem unpack_many {prog : Program} {w : World} {A : Around} {E : Value → Shared → Prop} {s : Shared} {l : Addr} {items : Array Value} {n : Nat} {Q : List Value → Shared → Prop} (hh : A.handled = none) (hl : s.heap.IsList l items) (h2 : n = 2) (hn : n < items.size)
    (h : ∀ h' tk e, Heap.NewExc s.heap h' e "ValueError" → E (.ref e) { s with heap := h', toks := tk }) : wpAny (model prog w) A (unpackItems (.ref l) n none) Q E s := by
  have hlt : l ≠ s.heap.objs.size := by obtain ⟨o, ho, _⟩ := hl; exact Nat.ne_of_lt (Heap.lt_size ho)
  unfold unpackItems notIterableAtAll
  refine wpAny_bind (wpAny_bind (wpAny_specialOf hl.typeIs slot_list_iter.lookup (wpAny_pure ?_)))
  simp only [Bool.false_eq_true, if_false]
  refine wpAny_bind (wpAny_holding (wpAny_pyIter_list hl ?_))
  refine wpAny_bind (wpAny_holding (kun_draw hlt n 0 _ _ ⟨_, Heap.get?_push_size _ rfl, rfl, rfl⟩ (hl.push _) (by omega) fun h₁ hit₁ hs₁ => ?_))
  have hlen : (List.take n (List.drop 0 items.toList)).length = n := by simp; omega
  rw [if_neg (by rw [hlen]; omega)]
  have hl₁ : h₁.IsList l items := (hl.push _).extBut hs₁.extBut hlt
  refine wpAny_bind (wpAny_holding (wpAny_pyNext_list_item hit₁ hl₁ (x := items[n]) (by simp [hn]) fun h₂ hit₂ hs₂ => ?_))
  simp only [Option.isSome_some, if_true]
  refine wpAny_bind (wpAny_rule (wpAny_bind (wpAny_raiseErrorMade plainExc_ValueError hh (fun h' tk e hx => ?_) ?_)))
  · have hk : ∀ b o, s.heap.get? b = some o → h₂.get? b = some o := fun b o q => by
      have hb : b ≠ s.heap.objs.size := Nat.ne_of_lt (Heap.lt_size q)
      exact hs₂.extBut b o hb (hs₁.extBut b o hb (Heap.get?_push_of_some _ q))
    refine h h' tk e ⟨fun b o q => hx.keeps b o (hk b o q), ?_, hx.there⟩
    cases k : s.heap.get? e with
    | none => rfl
    | some o => have := hk _ _ k; rw [hx.new] at this; cases this
  · subst h2
    have e : (Str.ofString (toString "too many values to unpack (expected " ++ toString 2 ++ toString ")")).length ≤ 1048576 := by decide +kernel
    exact Nat.le_trans e sizeLine_ge
theorem asg_many {g : Glo} {f : FI} {d : Nat} {ρ : Loc} {X : Prop} {pos : Pos} {Φ : Loc → Prop} {a b : Expr} {k : Nat} {vs : List V} (hv : 2 < vs.length) (hX : X)
    (hl : ∀ env, (assignEach [a, b] env).length = 2 := by intro; rfl) (hs : ∀ env, (assignEach [a, b] env).findIdx? (·.1) = none := by intro; rfl) : Asg g f d (.Tuple [a, b] k pos) (.lst vs) ρ Φ X := fun σ wd va r => by
  show At σ wd ρ (do PySem.standAt pos; unpack va (assignEach [a, b] σ.env)) _ _
  refine .stand ?_
  unfold unpack
  rw [hs, hl]
  refine .bind (.holding fun l Q E hQ hE tk => ?_)
  cases r
  rename_i a o items n' hS hc hd rs
  have := rs.length
  exact wpC_of (unpack_many rfl ⟨_, Sup.heap wd hS, hc, _, hd⟩ rfl (by rw [List.size_toArray]; omega) fun h' tk' e hx => hE hX e h' tk' (.new hx))

end
section



def bl (n : Nat) : Nat := if n = 0 then 0 else n.log2 + 1
theorem bl_zero : bl 0 = 0 := rfl
theorem bl_le {n k : Nat} : bl n ≤ k ↔ n < 2 ^ k := by
  unfold bl
  split
  · subst n; simp [Nat.pos_of_ne_zero]
  · rename_i h
    rw [← Nat.log2_lt h]
    omega
theorem bl_lt {n k : Nat} : k < bl n ↔ 2 ^ k ≤ n := by
  have := @bl_le n k
  omega
theorem bl_eq {n k : Nat} (h1 : 2 ^ k ≤ n) (h2 : n < 2 ^ (k + 1)) : bl n = k + 1 := by
  have a := bl_lt.mpr h1
  have b := bl_le.mpr h2
  omega
theorem bl_pos {n : Nat} (h : 0 < n) : 0 < bl n := by
  unfold bl
  rw [if_neg (by omega)]
  omega
theorem lt_bl (n : Nat) : n < 2 ^ bl n := bl_le.mp (Nat.le_refl _)
theorem bl_ge {n : Nat} (h : 0 < n) : 2 ^ (bl n - 1) ≤ n := bl_lt.mp (by have := bl_pos h; omega)
theorem bl_one : bl 1 = 1 := rfl
theorem bl_pow (k : Nat) : bl (2 ^ k) = k + 1 := bl_eq (Nat.le_refl _) (by rw [Nat.pow_succ]; have := Nat.pow_pos (n := k) (show 0 < 2 by decide); omega)
theorem bl_mul_pow {n : Nat} (h : 0 < n) (k : Nat) : bl (n * 2 ^ k) = bl n + k := by
  have h1 := bl_ge h
  have h2 := lt_bl n
  have h3 := bl_pos h
  have e : bl n + k = (bl n - 1 + k) + 1 := by omega
  rw [e]
  refine bl_eq ?_ ?_
  · rw [Nat.pow_add]; exact Nat.mul_le_mul_right _ h1
  · rw [← e, Nat.pow_add]; exact Nat.mul_lt_mul_of_pos_right h2 (Nat.pow_pos (by decide))
theorem bl_mono {a b : Nat} (h : a ≤ b) : bl a ≤ bl b := bl_le.mpr (Nat.lt_of_le_of_lt h (lt_bl b))
theorem intBits_nat (n : Nat) : Builtin.Int.intBits (n : Int) = bl n := by
  unfold Builtin.Int.intBits bl
  by_cases h : n = 0
  · subst h; rfl
  · rw [if_neg (by simpa using h), if_neg h]; rfl
theorem intBits_int (x : Int) : Builtin.Int.intBits x = bl x.natAbs := by
  unfold Builtin.Int.intBits bl
  by_cases h : x = 0
  · subst h; rfl
  · rw [if_neg (by simpa using h), if_neg (by omega)]

def tz (n : Nat) : Nat := if h : n = 0 then 0 else if n % 2 = 1 then 0 else tz (n / 2) + 1
termination_by n
decreasing_by omega
theorem tz_odd {n : Nat} (h : n % 2 = 1) : tz n = 0 := by
  unfold tz
  rw [dif_neg (by omega), if_pos h]
theorem tz_double {n : Nat} (h : 0 < n) : tz (2 * n) = tz n + 1 := by
  rw [tz, dif_neg (by omega), if_neg (by omega), show 2 * n / 2 = n by omega]
theorem tz_mul {o : Nat} (ho : o % 2 = 1) : ∀ k, tz (o * 2 ^ k) = k
  | 0 => by simpa using tz_odd ho
  | k + 1 => by
    rw [show o * 2 ^ (k + 1) = 2 * (o * 2 ^ k) by rw [Nat.pow_succ]; rw [Nat.mul_comm 2, Nat.mul_assoc]]
    rw [tz_double (Nat.mul_pos (by omega) (Nat.pow_pos (by decide))), tz_mul ho k]
theorem tz_spec : ∀ {n : Nat}, 0 < n → ∃ o, o % 2 = 1 ∧ n = o * 2 ^ tz n := by
  intro n
  induction n using Nat.strongRecOn with
  | ind n ih =>
    intro h
    by_cases h1 : n % 2 = 1
    · exact ⟨n, h1, by rw [tz_odd h1]; simp⟩
    · obtain ⟨o, ho, e⟩ := ih (n / 2) (by omega) (by omega)
      refine ⟨o, ho, ?_⟩
      have e2 : n = 2 * (n / 2) := by omega
      have : tz n = tz (n / 2) + 1 := by have := tz_double (n := n / 2) (by omega); rw [← e2] at this; exact this
      rw [this, Nat.pow_succ, ← Nat.mul_assoc, ← e]
      omega
theorem land_double (a b : Nat) : (2 * a) &&& (2 * b + 1) = 2 * (a &&& b) := by
  apply Nat.eq_of_testBit_eq
  intro i
  cases i with
  | zero => simp [Nat.testBit_zero, Nat.testBit_and]
  | succ i =>
    rw [Nat.testBit_and, Nat.testBit_succ, Nat.testBit_succ, Nat.testBit_succ, show 2 * a / 2 = a by omega, show (2 * b + 1) / 2 = b by omega, show 2 * (a &&& b) / 2 = (a &&& b) by omega, Nat.testBit_and]
theorem land_dd (a b : Nat) : (2 * a) &&& (2 * b) = 2 * (a &&& b) := by
  apply Nat.eq_of_testBit_eq
  intro i
  cases i with
  | zero => simp [Nat.testBit_zero]
  | succ i =>
    rw [Nat.testBit_and, Nat.testBit_succ, Nat.testBit_succ, Nat.testBit_succ, show 2 * a / 2 = a by omega, show 2 * b / 2 = b by omega, show 2 * (a &&& b) / 2 = (a &&& b) by omega, Nat.testBit_and]
theorem bitAnd_two {m : Nat} (h : m % 2 = 0) : Builtin.bitAnd (m : Int) 2 = ((2 * (m / 2 % 2) : Nat) : Int) := by
  unfold Builtin.bitAnd
  rw [decide_eq_true (by omega), decide_eq_true (by omega)]
  show (((m : Int).toNat &&& (2 : Int).toNat : Nat) : Int) = _
  rw [Int.toNat_natCast]
  have : m &&& 2 = 2 * (m / 2 % 2) := by
    calc m &&& 2 = (2 * (m / 2)) &&& (2 * 1) := by congr 1; omega
      _ = 2 * ((m / 2) &&& 1) := land_dd _ _
      _ = _ := by rw [Nat.and_one_is_mod]
  show ((m &&& 2 : Nat) : Int) = _
  rw [this]
theorem land_odd (a : Nat) : (2 * a + 1) &&& (2 * a) = 2 * a := by
  rw [Nat.and_comm, land_double, Nat.and_self]
theorem land_pred : ∀ {n : Nat}, 0 < n → n &&& (n - 1) = n - 2 ^ tz n := by
  intro n
  induction n using Nat.strongRecOn with
  | ind n ih =>
    intro h
    by_cases h1 : n % 2 = 1
    · rw [tz_odd h1]
      have e : n = 2 * (n / 2) + 1 := by omega
      have : (2 * (n / 2) + 1) &&& (2 * (n / 2)) = 2 * (n / 2) := land_odd _
      rw [show n - 1 = 2 * (n / 2) by omega]
      calc n &&& (2 * (n / 2)) = (2 * (n / 2) + 1) &&& (2 * (n / 2)) := by rw [← e]
        _ = _ := by rw [this]
    · have e : n = 2 * (n / 2) := by omega
      have hz : tz n = tz (n / 2) + 1 := by have := tz_double (n := n / 2) (by omega); rw [← e] at this; exact this
      have := ih (n / 2) (by omega) (by omega)
      have k : n &&& (n - 1) = 2 * ((n / 2) &&& (n / 2 - 1)) := by
        rw [← land_double]
        rw [← e]
        congr 1
        omega
      obtain ⟨o, ho, e2⟩ := tz_spec (n := n / 2) (by omega)
      rw [k, this, hz, Nat.pow_succ]
      omega
theorem bitAnd_neg {n : Nat} (h : 0 < n) : Builtin.bitAnd (n : Int) (-(n : Int)) = ((2 ^ tz n : Nat) : Int) := by
  unfold Builtin.bitAnd
  rw [decide_eq_true (by omega), decide_eq_false (by omega)]
  have e : (Builtin.bitNot (-(n : Int))).toNat = n - 1 := by unfold Builtin.bitNot; omega
  show (n : Int) - (((n : Int).toNat &&& (Builtin.bitNot (-(n : Int))).toNat : Nat) : Int) = _
  rw [e, Int.toNat_natCast, land_pred h]
  have : 2 ^ tz n ≤ n := by
    obtain ⟨o, ho, e2⟩ := tz_spec h
    calc 2 ^ tz n = 1 * 2 ^ tz n := by omega
      _ ≤ o * 2 ^ tz n := Nat.mul_le_mul_right _ (by omega)
      _ = n := e2.symm
  omega
theorem trailing_eq {n : Nat} (h : 0 < n) : (Builtin.Int.intBits (Builtin.bitAnd (n : Int) (-(n : Int))) : Int) - 1 = (tz n : Int) := by
  rw [bitAnd_neg h, intBits_nat, bl_pow]
  omega

/-- the four of a number -/
def tup4 (s m e b : Int) : V := .tup [.int s, .int m, .int e, .int b]
def odd (m : Nat) : Nat := m / 2 ^ tz m
theorem odd_spec {m : Nat} (h : 0 < m) : odd m % 2 = 1 ∧ m = odd m * 2 ^ tz m := by
  obtain ⟨o, ho, e⟩ := tz_spec h
  have : odd m = o := by
    unfold odd
    conv => lhs; lhs; rw [e]
    exact Nat.mul_div_cancel _ (Nat.pow_pos (by decide))
  rw [this]; exact ⟨ho, e⟩
def canon (s : Int) (m : Nat) (e : Int) : V := if m = 0 then tup4 0 0 0 0 else tup4 s (odd m) (e + tz m) (bl (odd m))
theorem canon_pos {s e : Int} {m : Nat} (h : 0 < m) : canon s m e = V.tup [.int s, .int (odd m : Nat), .int (e + tz m), .int (bl (odd m) : Nat)] := by
  unfold canon tup4
  rw [if_neg (by omega)]
theorem canon_zero {s e : Int} : canon s 0 e = V.tup [.int 0, .int 0, .int 0, .int 0] := rfl
theorem odd_mul {m k : Nat} (h : 0 < m) : odd (m * 2 ^ k) = odd m ∧ tz (m * 2 ^ k) = tz m + k := by
  obtain ⟨ho, e⟩ := odd_spec h
  have e2 : m * 2 ^ k = odd m * 2 ^ (tz m + k) := by
    conv => lhs; rw [e]
    rw [Nat.mul_assoc, ← Nat.pow_add]
  have hz : tz (m * 2 ^ k) = tz m + k := by rw [e2, tz_mul ho]
  refine ⟨?_, hz⟩
  unfold odd
  rw [hz]
  have : m * 2 ^ k / 2 ^ (tz m + k) = odd m := by
    rw [e2]; exact Nat.mul_div_cancel _ (Nat.pow_pos (by decide))
  exact this
theorem canon_mul (s : Int) (m k : Nat) (e : Int) : canon s (m * 2 ^ k) e = canon s m (e + k) := by
  unfold canon
  by_cases h : m = 0
  · subst h; simp
  · rw [if_neg h, if_neg (by
      intro h2
      have := Nat.mul_pos (Nat.pos_of_ne_zero h) (Nat.pow_pos (n := k) (show 0 < 2 by decide))
      omega)]
    obtain ⟨a, b⟩ := odd_mul (k := k) (Nat.pos_of_ne_zero h)
    rw [a, b]
    congr 1
    omega
def rdn (dn : Bool) (m k : Nat) : Nat := if dn then m / 2 ^ k else (m + 2 ^ k - 1) / 2 ^ k
def norm (dn : Bool) (s : Int) (m : Nat) (e : Int) (prec : Nat) : V := canon s (rdn dn m (bl m - prec)) (e + (bl m - prec : Nat))
theorem norm_zero (dn : Bool) (s e : Int) (prec : Nat) : norm dn s 0 e prec = V.tup [.int 0, .int 0, .int 0, .int 0] := by
  unfold norm rdn canon tup4
  cases dn <;> simp [bl_zero]
theorem rd_down (m k : Nat) : (m : Int) / 2 ^ k = ((m / 2 ^ k : Nat) : Int) := by
  rw [Int.natCast_ediv, Int.natCast_pow]; rfl
theorem rd_up (m k : Nat) : -(-(m : Int) / 2 ^ k) = (((m + 2 ^ k - 1) / 2 ^ k : Nat) : Int) := by
  have hp : 0 < 2 ^ k := Nat.pow_pos (n := k) (show 0 < 2 by decide)
  have e : (2 : Int) ^ k = ((2 ^ k : Nat) : Int) := by rw [Int.natCast_pow]; rfl
  rw [e]
  generalize 2 ^ k = p at *
  have h1 : (m + p - 1) / p * p ≤ m + p - 1 := Nat.div_mul_le_self _ _
  have h2 : m + p - 1 < ((m + p - 1) / p + 1) * p := by
    have := Nat.lt_div_mul_add hp (a := m + p - 1)
    rw [Nat.add_mul]; omega
  generalize (m + p - 1) / p = q at *
  have h3 : -(m : Int) / (p : Int) = -(q : Int) := by
    have : -(m : Int) = (p : Int) * (-(q : Int)) + ((q * p : Nat) - (m : Int)) := by
      rw [Int.natCast_mul, Int.mul_neg, Int.mul_comm (p : Int)]; omega
    rw [this, Int.add_comm, Int.add_mul_ediv_left _ _ (by omega)]
    rw [Int.ediv_eq_zero_of_lt]
    · omega
    · rw [Nat.add_mul] at h2; omega
    · omega
  omega
theorem down_bl {m k P : Nat} (hk : bl m = k + P) (hP : 1 ≤ P) : 0 < m / 2 ^ k ∧ bl (m / 2 ^ k) = P := by
  have hm : 0 < m := by
    rcases Nat.eq_zero_or_pos m with h | h
    · subst h; rw [bl_zero] at hk; omega
    · exact h
  have h1 := bl_ge hm
  have h2 := lt_bl m
  have a : 2 ^ (P - 1) ≤ m / 2 ^ k := by
    rw [Nat.le_div_iff_mul_le (Nat.pow_pos (by decide)), ← Nat.pow_add]
    have : P - 1 + k = bl m - 1 := by omega
    rw [this]; exact h1
  have b : m / 2 ^ k < 2 ^ P := by
    rw [Nat.div_lt_iff_lt_mul (Nat.pow_pos (by decide)), ← Nat.pow_add]
    have : P + k = bl m := by omega
    rw [this]; exact h2
  have hp := Nat.pow_pos (n := P - 1) (show 0 < 2 by decide)
  refine ⟨by omega, ?_⟩
  have : P = (P - 1) + 1 := by omega
  rw [this] at b ⊢
  exact bl_eq a b
theorem up_bl {m k P : Nat} (hk : bl m = k + P) (hP : 1 ≤ P) : 0 < (m + 2 ^ k - 1) / 2 ^ k ∧ (bl ((m + 2 ^ k - 1) / 2 ^ k) = P ∨ (m + 2 ^ k - 1) / 2 ^ k = 2 ^ P) := by
  obtain ⟨h0, hd⟩ := down_bl hk hP
  have hp : 0 < 2 ^ k := Nat.pow_pos (by decide)
  have h2 := lt_bl m
  have le1 : m / 2 ^ k ≤ (m + 2 ^ k - 1) / 2 ^ k := Nat.div_le_div_right (by omega)
  have le2 : (m + 2 ^ k - 1) / 2 ^ k ≤ 2 ^ P := by
    have : (m + 2 ^ k - 1) / 2 ^ k < 2 ^ P + 1 := by
      rw [Nat.div_lt_iff_lt_mul hp, Nat.add_mul, ← Nat.pow_add, show P + k = bl m by omega]
      omega
    omega
  refine ⟨by omega, ?_⟩
  rcases Nat.lt_or_ge ((m + 2 ^ k - 1) / 2 ^ k) (2 ^ P) with h | h
  · left
    have a := bl_mono le1
    have b := bl_le.mpr h
    omega
  · right; omega
theorem leaf_fin {s x y z e : Int} {M : Nat} {B : Int} (hM : 0 < M) (hB : B = bl M ∨ (0 ≤ B ∧ M = 2 ^ B.toNat)) (hx : x = (odd M : Nat)) (hy : y = e + tz M) (hz : (x = 1 ∧ z = 1) ∨ (x ≠ 1 ∧ z = B - tz M)) :
    V.tup [.int s, .int x, .int y, .int z] = canon s M e := by
  unfold canon
  rw [if_neg (by omega)]
  subst hx
  subst hy
  obtain ⟨ho, he⟩ := odd_spec hM
  have hb : z = bl (odd M) := by
    rcases hz with ⟨h1, h2⟩ | ⟨h1, h2⟩
    · have : odd M = 1 := by omega
      rw [this]; exact h2
    · rcases hB with h | ⟨h, h'⟩
      · have : bl M = bl (odd M) + tz M := by
          conv => lhs; rw [he]
          exact bl_mul_pow (by omega) _
        omega
      · exfalso
        have : odd M = 1 := by
          rw [h']
          have e1 : (2 : Nat) ^ B.toNat = 1 * 2 ^ B.toNat := by omega
          rw [e1]
          have := (odd_mul (m := 1) (k := B.toNat) (by omega)).1
          rw [this]
          have := odd_spec (m := 1) (by omega)
          unfold odd
          rw [tz_odd rfl]
        exact h1 (by omega)
  subst hb
  rfl

end
section


@[reducible] noncomputable def GG (w : World) (p : Program) (loose : List Str) (mean : ExcName → Option Value) (mg mb : Str → Option Value) : Glo :=
  ⟨PySem.Challenge.rw_bw0032_01.row.prog, w, hd.heap_39 w.params, p, loose, mean, mg, mb⟩

abbrev nstrailing : List Str := [Str.ofString "n"]
abbrev gstrailing : List Str := []
abbrev nsu_normalize : List Str := [Str.ofString "sign", Str.ofString "man", Str.ofString "exp", Str.ofString "bc", Str.ofString "prec", Str.ofString "rnd", Str.ofString "n", Str.ofString "t"]
abbrev gsu_normalize : List Str := [Str.ofString "fzero", Str.ofString "round_nearest", Str.ofString "MPZ_ONE", Str.ofString "shifts_down", Str.ofString "trailing"]
abbrev nsnormalize : List Str := [Str.ofString "sign", Str.ofString "man", Str.ofString "exp", Str.ofString "bc", Str.ofString "prec", Str.ofString "rnd"]
abbrev gsnormalize : List Str := [Str.ofString "_normalize"]
abbrev nsfrom_man_exp : List Str := [Str.ofString "man", Str.ofString "exp", Str.ofString "prec", Str.ofString "rnd", Str.ofString "sign", Str.ofString "bc", Str.ofString "t"]
abbrev gsfrom_man_exp : List Str := [Str.ofString "isinstance", Str.ofString "int", Str.ofString "TypeError", Str.ofString "fzero", Str.ofString "trailing", Str.ofString "normalize"]
abbrev nsfrom_int : List Str := [Str.ofString "n", Str.ofString "prec", Str.ofString "rnd"]
abbrev gsfrom_int : List Str := [Str.ofString "from_man_exp", Str.ofString "int"]
abbrev nsfrom_rational : List Str := [Str.ofString "p", Str.ofString "q", Str.ofString "prec", Str.ofString "rnd"]
abbrev gsfrom_rational : List Str := [Str.ofString "mpf_div", Str.ofString "from_int"]
abbrev nsmpf_cmp : List Str := [Str.ofString "s", Str.ofString "t", Str.ofString "ssign", Str.ofString "sman", Str.ofString "sexp", Str.ofString "sbc", Str.ofString "tsign", Str.ofString "tman", Str.ofString "texp", Str.ofString "tbc", Str.ofString "a", Str.ofString "b", Str.ofString "delta"]
abbrev gsmpf_cmp : List Str := [Str.ofString "fzero", Str.ofString "mpf_sign", Str.ofString "fnan", Str.ofString "finf", Str.ofString "fninf", Str.ofString "mpf_sub", Str.ofString "round_floor"]
abbrev nsmpf_lt : List Str := [Str.ofString "s", Str.ofString "t"]
abbrev gsmpf_lt : List Str := [Str.ofString "fnan", Str.ofString "mpf_cmp"]
abbrev nsmpf_le : List Str := [Str.ofString "s", Str.ofString "t"]
abbrev gsmpf_le : List Str := [Str.ofString "fnan", Str.ofString "mpf_cmp"]
abbrev nsmpf_gt : List Str := [Str.ofString "s", Str.ofString "t"]
abbrev gsmpf_gt : List Str := [Str.ofString "fnan", Str.ofString "mpf_cmp"]
abbrev nsmpf_ge : List Str := [Str.ofString "s", Str.ofString "t"]
abbrev gsmpf_ge : List Str := [Str.ofString "fnan", Str.ofString "mpf_cmp"]
abbrev nsmpf_pos : List Str := [Str.ofString "s", Str.ofString "prec", Str.ofString "rnd", Str.ofString "sign", Str.ofString "man", Str.ofString "exp", Str.ofString "bc"]
abbrev gsmpf_pos : List Str := [Str.ofString "normalize"]
abbrev nsmpf_neg : List Str := [Str.ofString "s", Str.ofString "prec", Str.ofString "rnd", Str.ofString "sign", Str.ofString "man", Str.ofString "exp", Str.ofString "bc"]
abbrev gsmpf_neg : List Str := [Str.ofString "finf", Str.ofString "fninf", Str.ofString "normalize"]
abbrev nsmpf_abs : List Str := [Str.ofString "s", Str.ofString "prec", Str.ofString "rnd", Str.ofString "sign", Str.ofString "man", Str.ofString "exp", Str.ofString "bc"]
abbrev gsmpf_abs : List Str := [Str.ofString "fninf", Str.ofString "finf", Str.ofString "normalize"]
abbrev nsmpf_sign : List Str := [Str.ofString "s", Str.ofString "sign", Str.ofString "man", Str.ofString "exp", Str.ofString "bc"]
abbrev gsmpf_sign : List Str := [Str.ofString "finf", Str.ofString "fninf"]
abbrev nsmpf_add : List Str := [Str.ofString "s", Str.ofString "t", Str.ofString "prec", Str.ofString "rnd", Str.ofString "_sub", Str.ofString "ssign", Str.ofString "sman", Str.ofString "sexp", Str.ofString "sbc", Str.ofString "tsign", Str.ofString "tman", Str.ofString "texp", Str.ofString "tbc", Str.ofString "offset", Str.ofString "delta", Str.ofString "man", Str.ofString "bc"]
abbrev gsmpf_add : List Str := [Str.ofString "normalize", Str.ofString "mpf_neg", Str.ofString "fnan"]
abbrev nsmpf_sub : List Str := [Str.ofString "s", Str.ofString "t", Str.ofString "prec", Str.ofString "rnd"]
abbrev gsmpf_sub : List Str := [Str.ofString "mpf_add"]
abbrev nsmpf_mul : List Str := [Str.ofString "s", Str.ofString "t", Str.ofString "prec", Str.ofString "rnd", Str.ofString "ssign", Str.ofString "sman", Str.ofString "sexp", Str.ofString "sbc", Str.ofString "tsign", Str.ofString "tman", Str.ofString "texp", Str.ofString "tbc", Str.ofString "sign", Str.ofString "man", Str.ofString "bc", Str.ofString "s_special", Str.ofString "t_special"]
abbrev gsmpf_mul : List Str := [Str.ofString "normalize", Str.ofString "fzero", Str.ofString "fnan", Str.ofString "finf", Str.ofString "fninf", Str.ofString "mpf_sign"]
abbrev nsmpf_shift : List Str := [Str.ofString "s", Str.ofString "n", Str.ofString "sign", Str.ofString "man", Str.ofString "exp", Str.ofString "bc"]
abbrev gsmpf_shift : List Str := []
abbrev nsmpf_div : List Str := [Str.ofString "s", Str.ofString "t", Str.ofString "prec", Str.ofString "rnd", Str.ofString "ssign", Str.ofString "sman", Str.ofString "sexp", Str.ofString "sbc", Str.ofString "tsign", Str.ofString "tman", Str.ofString "texp", Str.ofString "tbc", Str.ofString "s_special", Str.ofString "t_special", Str.ofString "sign", Str.ofString "extra", Str.ofString "quot", Str.ofString "rem", Str.ofString "bc"]
abbrev gsmpf_div : List Str := [Str.ofString "fzero", Str.ofString "ZeroDivisionError", Str.ofString "fnan", Str.ofString "finf", Str.ofString "fninf", Str.ofString "mpf_sign", Str.ofString "normalize", Str.ofString "max", Str.ofString "divmod"]
abbrev nsmpf_pow_int : List Str := [Str.ofString "s", Str.ofString "n", Str.ofString "prec", Str.ofString "rnd", Str.ofString "sign", Str.ofString "man", Str.ofString "exp", Str.ofString "bc", Str.ofString "_", Str.ofString "inverse", Str.ofString "result_sign", Str.ofString "rounds_down", Str.ofString "workprec", Str.ofString "pm", Str.ofString "pe", Str.ofString "pbc"]
abbrev gsmpf_pow_int : List Str := [Str.ofString "finf", Str.ofString "fone", Str.ofString "fzero", Str.ofString "fninf", Str.ofString "fnan", Str.ofString "int", Str.ofString "mpf_pos", Str.ofString "MPZ_ONE", Str.ofString "normalize", Str.ofString "mpf_div", Str.ofString "mpf_pow_int", Str.ofString "reciprocal_rnd", Str.ofString "round_nearest", Str.ofString "shifts_down"]
abbrev nsstr_to_man_exp : List Str := [Str.ofString "x", Str.ofString "base", Str.ofString "sep", Str.ofString "e2", Str.ofString "parts", Str.ofString "exp", Str.ofString "a", Str.ofString "b"]
abbrev gsstr_to_man_exp : List Str := [Str.ofString "pow", Str.ofString "len", Str.ofString "int", Str.ofString "ValueError"]
abbrev nsfrom_str : List Str := [Str.ofString "x", Str.ofString "prec", Str.ofString "rnd", Str.ofString "base", Str.ofString "p", Str.ofString "q", Str.ofString "man", Str.ofString "exp", Str.ofString "s", Str.ofString "e2"]
abbrev gsfrom_str : List Str := [Str.ofString "special_str", Str.ofString "from_rational", Str.ofString "int", Str.ofString "str_to_man_exp", Str.ofString "abs", Str.ofString "from_int", Str.ofString "mpf_mul", Str.ofString "mpf_pow_int", Str.ofString "ften", Str.ofString "pow", Str.ofString "from_man_exp", Str.ofString "NotImplementedError"]
abbrev nsmpi_lt : List Str := [Str.ofString "s", Str.ofString "t", Str.ofString "sa", Str.ofString "sb", Str.ofString "ta", Str.ofString "tb"]
abbrev gsmpi_lt : List Str := [Str.ofString "mpf_lt", Str.ofString "mpf_ge", Str.ofString "ValueError"]
abbrev nsmpi_le : List Str := [Str.ofString "s", Str.ofString "t", Str.ofString "sa", Str.ofString "sb", Str.ofString "ta", Str.ofString "tb"]
abbrev gsmpi_le : List Str := [Str.ofString "mpf_le", Str.ofString "mpf_gt", Str.ofString "ValueError"]
abbrev nsmpi_gt : List Str := [Str.ofString "s", Str.ofString "t"]
abbrev gsmpi_gt : List Str := [Str.ofString "mpi_lt"]
abbrev nsmpi_ge : List Str := [Str.ofString "s", Str.ofString "t"]
abbrev gsmpi_ge : List Str := [Str.ofString "mpi_le"]
abbrev nsmpi_delta : List Str := [Str.ofString "s", Str.ofString "prec", Str.ofString "sa", Str.ofString "sb"]
abbrev gsmpi_delta : List Str := [Str.ofString "mpf_sub", Str.ofString "round_up"]
abbrev nsmpi_mid : List Str := [Str.ofString "s", Str.ofString "prec", Str.ofString "sa", Str.ofString "sb"]
abbrev gsmpi_mid : List Str := [Str.ofString "mpf_shift", Str.ofString "mpf_add", Str.ofString "round_nearest"]
abbrev nsMAX : List Str := [Str.ofString "x", Str.ofString "y"]
abbrev gsMAX : List Str := [Str.ofString "mpf_ge"]
abbrev nsmpi_from_str_a_b : List Str := [Str.ofString "x", Str.ofString "y", Str.ofString "percent", Str.ofString "prec", Str.ofString "wp", Str.ofString "xa", Str.ofString "xb", Str.ofString "a", Str.ofString "b"]
abbrev gsmpi_from_str_a_b : List Str := [Str.ofString "from_str", Str.ofString "round_floor", Str.ofString "round_ceiling", Str.ofString "mpf_ge", Str.ofString "fzero", Str.ofString "mpf_mul", Str.ofString "MAX", Str.ofString "mpf_abs", Str.ofString "mpf_div", Str.ofString "from_int", Str.ofString "mpf_sub", Str.ofString "mpf_add"]
abbrev nsmpi_from_str : List Str := [Str.ofString "s", Str.ofString "prec", Str.ofString "e", Str.ofString "wp", Str.ofString "x", Str.ofString "y", Str.ofString "percent", Str.ofString "a", Str.ofString "b", Str.ofString "z"]
abbrev gsmpi_from_str : List Str := [Str.ofString "ValueError", Str.ofString "mpi_from_str_a_b", Str.ofString "from_str", Str.ofString "round_floor", Str.ofString "round_ceiling"]
abbrev nsu_law_number : List Str := [Str.ofString "script", Str.ofString "at"]
abbrev gsu_law_number : List Str := [Str.ofString "len"]
abbrev nsu_law_told : List Str := [Str.ofString "whole", Str.ofString "power", Str.ofString "size", Str.ofString "side"]
abbrev gsu_law_told : List Str := [Str.ofString "abs"]
abbrev nsu_law_end : List Str := [Str.ofString "top", Str.ofString "below", Str.ofString "most", Str.ofString "way", Str.ofString "size", Str.ofString "power", Str.ofString "above", Str.ofString "under", Str.ofString "whole", Str.ofString "rest"]
abbrev gsu_law_end : List Str := [Str.ofString "abs", Str.ofString "_law_told"]
abbrev nsu_law_decimal : List Str := [Str.ofString "script", Str.ofString "at", Str.ofString "is_signed", Str.ofString "digits", Str.ofString "behind", Str.ofString "side", Str.ofString "text"]
abbrev gsu_law_decimal : List Str := [Str.ofString "str", Str.ofString "_law_number", Str.ofString "max", Str.ofString "len", Str.ofString "int"]
abbrev nsu_law_scaled : List Str := [Str.ofString "whole", Str.ofString "behind", Str.ofString "more"]
abbrev gsu_law_scaled : List Str := []
abbrev nsu_law_valued : List Str := [Str.ofString "number", Str.ofString "side", Str.ofString "size", Str.ofString "power", Str.ofString "bits", Str.ofString "whole"]
abbrev gsu_law_valued : List Str := []
abbrev nsu_law_is_near : List Str := [Str.ofString "told", Str.ofString "top", Str.ofString "below", Str.ofString "total", Str.ofString "most", Str.ofString "is_low", Str.ofString "one", Str.ofString "two", Str.ofString "gap"]
abbrev gsu_law_is_near : List Str := [Str.ofString "_law_valued"]
abbrev nsu_law_outcome : List Str := [Str.ofString "call", Str.ofString "found"]
abbrev gsu_law_outcome : List Str := [Str.ofString "ValueError"]
abbrev nsu_law_read : List Str := [Str.ofString "script", Str.ofString "way", Str.ofString "most", Str.ofString "blank", Str.ofString "text", Str.ofString "whole", Str.ofString "behind", Str.ofString "more", Str.ofString "tail", Str.ofString "one", Str.ofString "other", Str.ofString "next_whole", Str.ofString "places", Str.ofString "two", Str.ofString "told", Str.ofString "low", Str.ofString "high", Str.ofString "ends", Str.ofString "below", Str.ofString "total"]
abbrev gsu_law_read : List Str := [Str.ofString "_law_number", Str.ofString "_law_decimal", Str.ofString "str", Str.ofString "_law_scaled", Str.ofString "mpi_from_str", Str.ofString "_law_end", Str.ofString "min", Str.ofString "max", Str.ofString "abs", Str.ofString "_law_is_near"]
abbrev nsu_law_compared : List Str := [Str.ofString "script", Str.ofString "ends", Str.ofString "one", Str.ofString "two", Str.ofString "left", Str.ofString "right", Str.ofString "told", Str.ofString "points", Str.ofString "good", Str.ofString "most", Str.ofString "middle"]
abbrev gsu_law_compared : List Str := [Str.ofString "sorted", Str.ofString "tuple", Str.ofString "_law_outcome", Str.ofString "_law_number", Str.ofString "_law_end", Str.ofString "mpi_mid", Str.ofString "mpi_delta"]
abbrev nslaw : List Str := [Str.ofString "script", Str.ofString "odds", Str.ofString "odd"]
abbrev gslaw : List Str := [Str.ofString "_law_number", Str.ofString "len", Str.ofString "_law_read", Str.ofString "_law_compared", Str.ofString "_law_outcome"]
theorem gltrailing (P) : Gl (hd.heap_39 P) (Str.ofString "trailing") (.obj (.ref 21)) := ⟨⟨.ref 21, by k_is, .obj⟩⟩
theorem glu_normalize (P) : Gl (hd.heap_39 P) (Str.ofString "_normalize") (.obj (.ref 39)) := ⟨⟨.ref 39, by k_is, .obj⟩⟩
theorem glnormalize (P) : Gl (hd.heap_39 P) (Str.ofString "normalize") (.obj (.ref 46)) := ⟨⟨.ref 46, by k_is, .obj⟩⟩
theorem glfrom_man_exp (P) : Gl (hd.heap_39 P) (Str.ofString "from_man_exp") (.obj (.ref 54)) := ⟨⟨.ref 54, by k_is, .obj⟩⟩
theorem glfrom_int (P) : Gl (hd.heap_39 P) (Str.ofString "from_int") (.obj (.ref 62)) := ⟨⟨.ref 62, by k_is, .obj⟩⟩
theorem glfrom_rational (P) : Gl (hd.heap_39 P) (Str.ofString "from_rational") (.obj (.ref 70)) := ⟨⟨.ref 70, by k_is, .obj⟩⟩
theorem glmpf_cmp (P) : Gl (hd.heap_39 P) (Str.ofString "mpf_cmp") (.obj (.ref 77)) := ⟨⟨.ref 77, by k_is, .obj⟩⟩
theorem glmpf_lt (P) : Gl (hd.heap_39 P) (Str.ofString "mpf_lt") (.obj (.ref 84)) := ⟨⟨.ref 84, by k_is, .obj⟩⟩
theorem glmpf_le (P) : Gl (hd.heap_39 P) (Str.ofString "mpf_le") (.obj (.ref 91)) := ⟨⟨.ref 91, by k_is, .obj⟩⟩
theorem glmpf_gt (P) : Gl (hd.heap_39 P) (Str.ofString "mpf_gt") (.obj (.ref 98)) := ⟨⟨.ref 98, by k_is, .obj⟩⟩
theorem glmpf_ge (P) : Gl (hd.heap_39 P) (Str.ofString "mpf_ge") (.obj (.ref 105)) := ⟨⟨.ref 105, by k_is, .obj⟩⟩
theorem glmpf_pos (P) : Gl (hd.heap_39 P) (Str.ofString "mpf_pos") (.obj (.ref 113)) := ⟨⟨.ref 113, by k_is, .obj⟩⟩
theorem glmpf_neg (P) : Gl (hd.heap_39 P) (Str.ofString "mpf_neg") (.obj (.ref 121)) := ⟨⟨.ref 121, by k_is, .obj⟩⟩
theorem glmpf_abs (P) : Gl (hd.heap_39 P) (Str.ofString "mpf_abs") (.obj (.ref 129)) := ⟨⟨.ref 129, by k_is, .obj⟩⟩
theorem glmpf_sign (P) : Gl (hd.heap_39 P) (Str.ofString "mpf_sign") (.obj (.ref 136)) := ⟨⟨.ref 136, by k_is, .obj⟩⟩
theorem glmpf_add (P) : Gl (hd.heap_39 P) (Str.ofString "mpf_add") (.obj (.ref 144)) := ⟨⟨.ref 144, by k_is, .obj⟩⟩
theorem glmpf_sub (P) : Gl (hd.heap_39 P) (Str.ofString "mpf_sub") (.obj (.ref 152)) := ⟨⟨.ref 152, by k_is, .obj⟩⟩
theorem glmpf_mul (P) : Gl (hd.heap_39 P) (Str.ofString "mpf_mul") (.obj (.ref 160)) := ⟨⟨.ref 160, by k_is, .obj⟩⟩
theorem glmpf_shift (P) : Gl (hd.heap_39 P) (Str.ofString "mpf_shift") (.obj (.ref 167)) := ⟨⟨.ref 167, by k_is, .obj⟩⟩
theorem glmpf_div (P) : Gl (hd.heap_39 P) (Str.ofString "mpf_div") (.obj (.ref 175)) := ⟨⟨.ref 175, by k_is, .obj⟩⟩
theorem glmpf_pow_int (P) : Gl (hd.heap_39 P) (Str.ofString "mpf_pow_int") (.obj (.ref 184)) := ⟨⟨.ref 184, by k_is, .obj⟩⟩
theorem glstr_to_man_exp (P) : Gl (hd.heap_39 P) (Str.ofString "str_to_man_exp") (.obj (.ref 192)) := ⟨⟨.ref 192, by k_is, .obj⟩⟩
theorem glfrom_str (P) : Gl (hd.heap_39 P) (Str.ofString "from_str") (.obj (.ref 201)) := ⟨⟨.ref 201, by k_is, .obj⟩⟩
theorem glmpi_lt (P) : Gl (hd.heap_39 P) (Str.ofString "mpi_lt") (.obj (.ref 208)) := ⟨⟨.ref 208, by k_is, .obj⟩⟩
theorem glmpi_le (P) : Gl (hd.heap_39 P) (Str.ofString "mpi_le") (.obj (.ref 215)) := ⟨⟨.ref 215, by k_is, .obj⟩⟩
theorem glmpi_gt (P) : Gl (hd.heap_39 P) (Str.ofString "mpi_gt") (.obj (.ref 222)) := ⟨⟨.ref 222, by k_is, .obj⟩⟩
theorem glmpi_ge (P) : Gl (hd.heap_39 P) (Str.ofString "mpi_ge") (.obj (.ref 229)) := ⟨⟨.ref 229, by k_is, .obj⟩⟩
theorem glmpi_delta (P) : Gl (hd.heap_39 P) (Str.ofString "mpi_delta") (.obj (.ref 236)) := ⟨⟨.ref 236, by k_is, .obj⟩⟩
theorem glmpi_mid (P) : Gl (hd.heap_39 P) (Str.ofString "mpi_mid") (.obj (.ref 243)) := ⟨⟨.ref 243, by k_is, .obj⟩⟩
theorem glMAX (P) : Gl (hd.heap_39 P) (Str.ofString "MAX") (.obj (.ref 250)) := ⟨⟨.ref 250, by k_is, .obj⟩⟩
theorem glmpi_from_str_a_b (P) : Gl (hd.heap_39 P) (Str.ofString "mpi_from_str_a_b") (.obj (.ref 257)) := ⟨⟨.ref 257, by k_is, .obj⟩⟩
theorem glmpi_from_str (P) : Gl (hd.heap_39 P) (Str.ofString "mpi_from_str") (.obj (.ref 264)) := ⟨⟨.ref 264, by k_is, .obj⟩⟩
theorem glu_law_number (P) : Gl (hd.heap_39 P) (Str.ofString "_law_number") (.obj (.ref 271)) := ⟨⟨.ref 271, by k_is, .obj⟩⟩
theorem glu_law_told (P) : Gl (hd.heap_39 P) (Str.ofString "_law_told") (.obj (.ref 278)) := ⟨⟨.ref 278, by k_is, .obj⟩⟩
theorem glu_law_end (P) : Gl (hd.heap_39 P) (Str.ofString "_law_end") (.obj (.ref 285)) := ⟨⟨.ref 285, by k_is, .obj⟩⟩
theorem glu_law_decimal (P) : Gl (hd.heap_39 P) (Str.ofString "_law_decimal") (.obj (.ref 292)) := ⟨⟨.ref 292, by k_is, .obj⟩⟩
theorem glu_law_scaled (P) : Gl (hd.heap_39 P) (Str.ofString "_law_scaled") (.obj (.ref 299)) := ⟨⟨.ref 299, by k_is, .obj⟩⟩
theorem glu_law_valued (P) : Gl (hd.heap_39 P) (Str.ofString "_law_valued") (.obj (.ref 306)) := ⟨⟨.ref 306, by k_is, .obj⟩⟩
theorem glu_law_is_near (P) : Gl (hd.heap_39 P) (Str.ofString "_law_is_near") (.obj (.ref 313)) := ⟨⟨.ref 313, by k_is, .obj⟩⟩
theorem glu_law_outcome (P) : Gl (hd.heap_39 P) (Str.ofString "_law_outcome") (.obj (.ref 320)) := ⟨⟨.ref 320, by k_is, .obj⟩⟩
theorem glu_law_read (P) : Gl (hd.heap_39 P) (Str.ofString "_law_read") (.obj (.ref 325)) := ⟨⟨.ref 325, by k_is, .obj⟩⟩
theorem glu_law_compared (P) : Gl (hd.heap_39 P) (Str.ofString "_law_compared") (.obj (.ref 330)) := ⟨⟨.ref 330, by k_is, .obj⟩⟩
theorem gllaw (P) : Gl (hd.heap_39 P) (Str.ofString "law") (.obj (.ref 337)) := ⟨⟨.ref 337, by k_is, .obj⟩⟩
theorem glshifts_down (P) : Gl (hd.heap_39 P) (Str.ofString "shifts_down") (.obj (.ref 28)) := ⟨⟨.ref 28, by k_is, .obj⟩⟩
theorem glspecial_str (P) : Gl (hd.heap_39 P) (Str.ofString "special_str") (.obj (.ref 193)) := ⟨⟨.ref 193, by k_is, .obj⟩⟩
theorem glMPZ_ZERO (P) : Gl (hd.heap_39 P) (Str.ofString "MPZ_ZERO") (.int 0) := ⟨⟨.int 0 187, by k_is, .int⟩⟩
theorem glMPZ_ONE (P) : Gl (hd.heap_39 P) (Str.ofString "MPZ_ONE") (.int 1) := ⟨⟨.int 1 189, by k_is, .int⟩⟩
theorem glMPZ_FIVE (P) : Gl (hd.heap_39 P) (Str.ofString "MPZ_FIVE") (.int 5) := ⟨⟨.int 5 191, by k_is, .int⟩⟩
theorem glround_nearest (P) : Gl (hd.heap_39 P) (Str.ofString "round_nearest") (.str (Str.ofString "n")) := ⟨⟨.str (Str.ofString "n") 204, by k_is, .str⟩⟩
theorem glround_floor (P) : Gl (hd.heap_39 P) (Str.ofString "round_floor") (.str (Str.ofString "f")) := ⟨⟨.str (Str.ofString "f") 206, by k_is, .str⟩⟩
theorem glround_ceiling (P) : Gl (hd.heap_39 P) (Str.ofString "round_ceiling") (.str (Str.ofString "c")) := ⟨⟨.str (Str.ofString "c") 208, by k_is, .str⟩⟩
theorem glround_up (P) : Gl (hd.heap_39 P) (Str.ofString "round_up") (.str (Str.ofString "u")) := ⟨⟨.str (Str.ofString "u") 210, by k_is, .str⟩⟩
theorem glround_down (P) : Gl (hd.heap_39 P) (Str.ofString "round_down") (.str (Str.ofString "d")) := ⟨⟨.str (Str.ofString "d") 212, by k_is, .str⟩⟩
theorem glround_fast (P) : Gl (hd.heap_39 P) (Str.ofString "round_fast") (.str (Str.ofString "d")) := ⟨⟨.str (Str.ofString "d") 212, by k_is, .str⟩⟩
theorem glfzero (P) : Gl (hd.heap_39 P) (Str.ofString "fzero") (.tup [.int (0), .int (0), .int (0), .int (0)]) := ⟨⟨.ref 22, by k_is, .tup (by (show List.lookup _ (hd.heap_39 P) = _); k_is) rfl rfl (.cons .int (.cons .int (.cons .int (.cons .int .nil))))⟩⟩
theorem glfone (P) : Gl (hd.heap_39 P) (Str.ofString "fone") (.tup [.int (0), .int (1), .int (0), .int (1)]) := ⟨⟨.ref 23, by k_is, .tup (by (show List.lookup _ (hd.heap_39 P) = _); k_is) rfl rfl (.cons .int (.cons .int (.cons .int (.cons .int .nil))))⟩⟩
theorem glften (P) : Gl (hd.heap_39 P) (Str.ofString "ften") (.tup [.int (0), .int (5), .int (1), .int (3)]) := ⟨⟨.ref 24, by k_is, .tup (by (show List.lookup _ (hd.heap_39 P) = _); k_is) rfl rfl (.cons .int (.cons .int (.cons .int (.cons .int .nil))))⟩⟩
theorem glfnan (P) : Gl (hd.heap_39 P) (Str.ofString "fnan") (.tup [.int (0), .int (0), .int (-123), .int (-1)]) := ⟨⟨.ref 25, by k_is, .tup (by (show List.lookup _ (hd.heap_39 P) = _); k_is) rfl rfl (.cons .int (.cons .int (.cons .int (.cons .int .nil))))⟩⟩
theorem glfinf (P) : Gl (hd.heap_39 P) (Str.ofString "finf") (.tup [.int (0), .int (0), .int (-456), .int (-2)]) := ⟨⟨.ref 26, by k_is, .tup (by (show List.lookup _ (hd.heap_39 P) = _); k_is) rfl rfl (.cons .int (.cons .int (.cons .int (.cons .int .nil))))⟩⟩
theorem glfninf (P) : Gl (hd.heap_39 P) (Str.ofString "fninf") (.tup [.int (1), .int (0), .int (-789), .int (-3)]) := ⟨⟨.ref 27, by k_is, .tup (by (show List.lookup _ (hd.heap_39 P) = _); k_is) rfl rfl (.cons .int (.cons .int (.cons .int (.cons .int .nil))))⟩⟩
theorem bllen (P) : Bl (hd.heap_39 P) (Str.ofString "len") (.builtin "len") := ⟨by k_is, PyProof.Rows.Boot.«len», by decide⟩
theorem blabs (P) : Bl (hd.heap_39 P) (Str.ofString "abs") (.builtin "abs") := ⟨by k_is, PyProof.Rows.Boot.«abs», by decide⟩
theorem blmax (P) : Bl (hd.heap_39 P) (Str.ofString "max") (.builtin "max") := ⟨by k_is, PyProof.Rows.Boot.«max», by decide⟩
theorem blmin (P) : Bl (hd.heap_39 P) (Str.ofString "min") (.builtin "min") := ⟨by k_is, PyProof.Rows.Boot.«min», by decide⟩
theorem bldivmod (P) : Bl (hd.heap_39 P) (Str.ofString "divmod") (.builtin "divmod") := ⟨by k_is, PyProof.Rows.Boot.«divmod», by decide⟩
theorem blpow (P) : Bl (hd.heap_39 P) (Str.ofString "pow") (.builtin "pow") := ⟨by k_is, PyProof.Rows.Boot.«pow», by decide⟩
theorem blisinstance (P) : Bl (hd.heap_39 P) (Str.ofString "isinstance") (.builtin "isinstance") := ⟨by k_is, PyProof.Rows.Boot.«isinstance», by decide⟩
theorem blsorted (P) : Bl (hd.heap_39 P) (Str.ofString "sorted") (.builtin "sorted") := ⟨by k_is, PyProof.Rows.Boot.«sorted», by decide⟩
theorem blint (P) : Bl (hd.heap_39 P) (Str.ofString "int") (.type "int") := ⟨by k_is, PyProof.Rows.Boot.«int», by decide⟩
theorem blstr (P) : Bl (hd.heap_39 P) (Str.ofString "str") (.type "str") := ⟨by k_is, PyProof.Rows.Boot.«str», by decide⟩
theorem bltuple (P) : Bl (hd.heap_39 P) (Str.ofString "tuple") (.type "tuple") := ⟨by k_is, PyProof.Rows.Boot.«tuple», by decide⟩
theorem blValueError (P) : Bl (hd.heap_39 P) (Str.ofString "ValueError") (.type "ValueError") := ⟨by k_is, PyProof.Rows.Boot.«ValueError», by decide⟩

end
section
open PySem.NumText

abbrev T (l : List Nat) : Str := ⟨l.toArray⟩
theorem T_app (a b : List Nat) : T a ++ T b = T (a ++ b) := Str.ext' (by simp [Str.cps_append])
theorem T_len (a : List Nat) : (T a).length = a.length := by simp [Str.length]
theorem T_toList (a : List Nat) : (T a).cps.toList = a := by simp
theorem T_inj {a b : List Nat} (h : T a = T b) : a = b := by
  have := congrArg (fun x : Str => x.cps.toList) h
  simpa using this
theorem T_of {x : Str} {l : List Nat} (h : x.cps.toList = l) : x = T l := StrLaws.mk_of_toList h

/-! one sign -/
theorem contains_one (l : List Nat) (c : Nat) : Txt.contains (T l) (T [c]) = decide (c ∈ l) := by
  have := StrLaws.found_one (T l) c
  simpa [Txt.contains] using this
theorem join_cons_list (c : Nat) (p q : Str) (r : List Str) : (Str.join (T [c]) (p :: q :: r)).cps.toList = p.cps.toList ++ c :: (Str.join (T [c]) (q :: r)).cps.toList := by
  show (p ++ T [c] ++ Str.join (T [c]) (q :: r)).cps.toList = _
  simp [Str.cps_append]
theorem free_unique {c : Nat} : ∀ (a b a' b' : List Nat), c ∉ a → c ∉ a' → a ++ c :: b = a' ++ c :: b' → a = a' ∧ b = b'
  | [], b, [], b', _, _, h => ⟨rfl, by simpa using h⟩
  | [], b, x :: a', b', _, h', h => by
    simp only [List.nil_append, List.cons_append, List.cons.injEq] at h
    exact absurd (h.1 ▸ List.mem_cons_self) h'
  | x :: a, b, [], b', h1, _, h => by
    simp only [List.nil_append, List.cons_append, List.cons.injEq] at h
    exact absurd (h.1 ▸ List.mem_cons_self) h1
  | x :: a, b, y :: a', b', h1, h2, h => by
    simp only [List.cons_append, List.cons.injEq] at h
    obtain ⟨e1, e2⟩ := free_unique a b a' b' (fun k => h1 (.tail _ k)) (fun k => h2 (.tail _ k)) h.2
    exact ⟨by rw [h.1, e1], e2⟩
theorem parts_unique {c : Nat} : ∀ (ps qs : List Str), ps ≠ [] → qs ≠ [] → (∀ p ∈ ps, c ∉ p.cps.toList) → (∀ p ∈ qs, c ∉ p.cps.toList) → (Str.join (T [c]) ps).cps.toList = (Str.join (T [c]) qs).cps.toList → ps = qs
  | [], _, h, _, _, _, _ => absurd rfl h
  | _ :: _, [], _, h, _, _, _ => absurd rfl h
  | [p], [q], _, _, _, _, h => by
    have h : p.cps.toList = q.cps.toList := h
    rw [T_of h, T_of (x := q) rfl]
  | [p], q :: q' :: qs, _, _, h1, h2, h => by
    rw [join_cons_list] at h
    have h : p.cps.toList = _ := h
    exact absurd (by rw [h]; simp) (h1 p (.head _))
  | p :: p' :: ps, [q], _, _, h1, h2, h => by
    rw [join_cons_list] at h
    have h : _ = q.cps.toList := h
    exact absurd (by rw [← h]; simp) (h2 q (.head _))
  | p :: p' :: ps, q :: q' :: qs, _, _, h1, h2, h => by
    rw [join_cons_list, join_cons_list] at h
    obtain ⟨e1, e2⟩ := free_unique _ _ _ _ (h1 p (.head _)) (h2 q (.head _)) h
    have e3 := parts_unique (p' :: ps) (q' :: qs) (by simp) (by simp) (fun x hx => h1 x (.tail _ hx)) (fun x hx => h2 x (.tail _ hx)) e2
    rw [e3, T_of e1, T_of (x := q) rfl]
theorem split_ne (x : Str) (c : Nat) : Txt.split x (T [c]) ≠ [] := by
  unfold Txt.split
  split
  · simp
  · split
    · simp
    · rw [StrLaws.partsBetween_eq]
      obtain ⟨p, r, e⟩ := StrLaws.partsFrom_ne x (T [c]).length 0 (Builtin.Str.occurrences x (T [c]) 0 x.length (x.length + 1))
      rw [e]; simp
theorem split_is {x : Str} {c : Nat} {ps : List Str} (hne : ps ≠ []) (hf : ∀ p ∈ ps, c ∉ p.cps.toList) (h : (Str.join (T [c]) ps).cps.toList = x.cps.toList) : Txt.split x (T [c]) = ps :=
  parts_unique _ _ (split_ne x c) hne (StrLaws.split_free x c) hf (by rw [StrLaws.join_split, h])
theorem split0 {a : List Nat} {c : Nat} (h : c ∉ a) : Txt.split (T a) (T [c]) = [T a] := split_is (by simp) (by simpa using h) rfl
theorem split1 {a b : List Nat} {c : Nat} (h : c ∉ a) (h' : c ∉ b) : Txt.split (T (a ++ c :: b)) (T [c]) = [T a, T b] :=
  split_is (by simp) (by simp [h, h']) (by rw [join_cons_list]; simp [Str.join])
theorem replace0 {a : List Nat} {c : Nat} {z : Str} (h : c ∉ a) : Txt.replace (T a) (T [c]) z = T a := by
  rw [StrLaws.replace_one, split0 h]; rfl
theorem replace_del (l : List Nat) (c : Nat) : Txt.replace (T l) (T [c]) (T []) = T (l.filter (· != c)) := by
  rw [StrLaws.replace_one]
  have key : ∀ ps : List Str, ps ≠ [] → (∀ p ∈ ps, c ∉ p.cps.toList) → (Str.join (T []) ps).cps.toList = ((Str.join (T [c]) ps).cps.toList).filter (· != c) := by
    intro ps
    induction ps with
    | nil => intro h; exact absurd rfl h
    | cons p ps ih =>
      intro _ hf
      have hp : p.cps.toList.filter (· != c) = p.cps.toList := List.filter_eq_self.mpr fun a ha => by
        have := hf p (.head _)
        simp only [bne_iff_ne, ne_eq]
        exact fun e => this (e ▸ ha)
      cases ps with
      | nil => show p.cps.toList = p.cps.toList.filter _; exact hp.symm
      | cons q qs =>
        rw [join_cons_list, List.filter_append, hp]
        show (p ++ T [] ++ Str.join (T []) (q :: qs)).cps.toList = _
        have e := ih (by simp) (fun x hx => hf x (.tail _ hx))
        rw [List.filter_cons_of_neg (by simp), ← e]
        simp [Str.cps_append]
  exact T_of (by rw [key _ (split_ne _ _) (StrLaws.split_free _ _), StrLaws.join_split])

/-! the sign +- -/
theorem at_pm {a b : List Nat} (ha : 43 ∉ a) (hb : 43 ∉ b) {k : Nat} : StrLaws.At (T (a ++ 43 :: 45 :: b)) (T [43, 45]) (T (a ++ 43 :: 45 :: b)).length k ↔ k = a.length := by
  unfold StrLaws.At
  rw [StrLaws.subAt_eq, T_toList, T_toList]
  have e2 : (T [43, 45]).length = 2 := rfl
  rw [e2, T_len]
  constructor
  · rintro ⟨h1, h2⟩
    have h3 : (List.drop k (a ++ 43 :: 45 :: b)).take 2 = [43, 45] := by simpa using h2
    have h4 : (a ++ 43 :: 45 :: b)[k]? = some 43 := by
      have : ((List.drop k (a ++ 43 :: 45 :: b)).take 2)[0]? = some 43 := by rw [h3]; rfl
      simpa [List.getElem?_take, List.getElem?_drop] using this
    rcases Nat.lt_trichotomy k a.length with hk | hk | hk
    · rw [List.getElem?_append_left hk] at h4
      exact absurd (List.mem_of_getElem? h4) ha
    · exact hk
    · rw [List.getElem?_append_right (Nat.le_of_lt hk)] at h4
      obtain ⟨j, hj⟩ : ∃ j, k - a.length = j + 1 := ⟨k - a.length - 1, by omega⟩
      rw [hj, List.getElem?_cons_succ] at h4
      cases j with
      | zero => simp at h4
      | succ j =>
        rw [List.getElem?_cons_succ] at h4
        exact absurd (List.mem_of_getElem? h4) hb
  · rintro rfl
    simp
theorem split_pm {a b : List Nat} (ha : 43 ∉ a) (hb : 43 ∉ b) : Txt.split (T (a ++ 43 :: 45 :: b)) (T [43, 45]) = [T a, T b] ∧ Txt.contains (T (a ++ 43 :: 45 :: b)) (T [43, 45]) = true := by
  have hat := fun k => @at_pm a b ha hb k
  have e2 : (T [43, 45]).length = 2 := rfl
  refine ⟨?_, ?_⟩
  · obtain ⟨f, hG, hn⟩ := StrLaws.occ_tight (T (a ++ 43 :: 45 :: b)) (T [43, 45]) (by decide)
    have hocc : Builtin.Str.occurrences (T (a ++ 43 :: 45 :: b)) (T [43, 45]) 0 (T (a ++ 43 :: 45 :: b)).length ((T (a ++ 43 :: 45 :: b)).length + 1) = [a.length] := by
      generalize hO : Builtin.Str.occurrences (T (a ++ 43 :: 45 :: b)) (T [43, 45]) 0 (T (a ++ 43 :: 45 :: b)).length ((T (a ++ 43 :: 45 :: b)).length + 1) = O at hG
      cases O with
      | nil =>
        have ef : f = 0 := hG
        exact absurd ((hat _).mpr rfl) (hn a.length (by omega))
      | cons c r =>
        obtain ⟨-, h2, -, h4⟩ := hG
        have ec := (hat _).mp h2
        subst ec
        cases r with
        | nil => rfl
        | cons c' r =>
          obtain ⟨q1, q2, -, -⟩ := h4
          have := (hat _).mp q2
          omega
    unfold Txt.split
    rw [hocc, if_neg, if_neg (by simp), StrLaws.partsBetween_eq]
    · show [Builtin.Str.strSub _ 0 a.length, Builtin.Str.strSub _ (a.length + 2) _] = _
      have s1 := StrLaws.strSub_toList (T (a ++ 43 :: 45 :: b)) 0 a.length
      have s2 := StrLaws.strSub_toList (T (a ++ 43 :: 45 :: b)) (a.length + 2) (T (a ++ 43 :: 45 :: b)).length
      rw [T_toList] at s1 s2
      have t1 : Builtin.Str.strSub (T (a ++ 43 :: 45 :: b)) 0 a.length = T _ := T_of s1
      have t2 : Builtin.Str.strSub (T (a ++ 43 :: 45 :: b)) (a.length + 2) (T (a ++ 43 :: 45 :: b)).length = T _ := T_of s2
      rw [t1, t2, T_len]
      congr 2
      · simp
      · congr 2
        rw [List.drop_append, List.drop_eq_nil_of_le (by omega)]
        have : a.length + 2 - a.length = 2 := by omega
        rw [this]
        simp
        rw [List.take_of_length_le (by omega)]
    · have k1 : Builtin.Str.strKind (T [43, 45]) = 1 := by decide +kernel
      have k2 : ∀ x, 1 ≤ Builtin.Str.strKind x := fun x => by unfold Builtin.Str.strKind; split <;> (try split) <;> (try split) <;> decide
      have := k2 (T (a ++ 43 :: 45 :: b))
      rw [k1, T_len, e2]
      simp
      omega
  · unfold Txt.contains
    exact (StrLaws.found_iff _ _).mpr ⟨a.length, (hat _).mpr rfl⟩
theorem contains_pm_no {l : List Nat} (h : 43 ∉ l) : Txt.contains (T l) (T [43, 45]) = false := by
  cases e : Txt.contains (T l) (T [43, 45]) with
  | false => rfl
  | true =>
    obtain ⟨i, h1, h2⟩ := (StrLaws.found_iff _ _).mp e
    rw [StrLaws.subAt_eq, T_toList] at h2
    have e2 : (T [43, 45]).length = 2 := rfl
    rw [e2] at h2
    have h3 : (List.drop i l).take 2 = [43, 45] := by simpa using h2
    have h4 : l[i]? = some 43 := by
      have : ((List.drop i l).take 2)[0]? = some 43 := by rw [h3]; rfl
      simpa [List.getElem?_take, List.getElem?_drop] using this
    exact absurd (List.mem_of_getElem? h4) h

/-! stripping -/
theorem rstrip_none {l : List Nat} {c : Nat} (h : l.getLast? ≠ some c) : Txt.rstripChars (T l) (T [c]) = T l := by
  unfold Txt.rstripChars Txt.stripBy
  rw [if_pos]
  unfold stripSame stripLo stripHi
  simp only [Bool.false_eq_true, if_false, if_true, List.drop_zero, T_toList, T_len]
  cases e : l.reverse with
  | nil => simp
  | cons x r =>
    have : l = r.reverse ++ [x] := by have := congrArg List.reverse e; simpa using this
    rw [this, List.getLast?_append] at h
    simp at h
    simp [List.takeWhile_cons, h]
theorem rstrip_some {l : List Nat} {c : Nat} (h : l.getLast? ≠ some c) (k : Nat) : Txt.rstripChars (T (l ++ List.replicate k c)) (T [c]) = T l := by
  cases k with
  | zero => simpa using rstrip_none h
  | succ k =>
    unfold Txt.rstripChars Txt.stripBy
    have hh : stripHi (T [c]).cps.contains true (T (l ++ List.replicate (k + 1) c)) 0 = l.length := by
      unfold stripHi
      simp only [if_true, List.drop_zero, T_toList, T_len, List.reverse_append, List.reverse_replicate]
      have : ((List.replicate (k + 1) c ++ l.reverse).takeWhile (T [c]).cps.contains) = List.replicate (k + 1) c := by
        rw [List.takeWhile_append_of_pos (by intro a ha; simp [List.eq_of_mem_replicate ha])]
        cases e : l.reverse with
        | nil => simp
        | cons x r =>
          have : l = r.reverse ++ [x] := by have := congrArg List.reverse e; simpa using this
          rw [this, List.getLast?_append] at h
          simp at h
          simp [List.takeWhile_cons, h]
      rw [this]
      simp
    rw [if_neg]
    · unfold PySem.stripped
      have s1 := StrLaws.strSub_toList (T (l ++ List.replicate (k + 1) c)) 0 l.length
      have lo : stripLo (T [c]).cps.contains false (T (l ++ List.replicate (k + 1) c)) = 0 := rfl
      rw [lo, hh]
      exact T_of (by rw [s1]; simp)
    · unfold stripSame
      have lo : stripLo (T [c]).cps.contains false (T (l ++ List.replicate (k + 1) c)) = 0 := rfl
      rw [lo, hh, T_len]
      simp
theorem strip_tail (c : Nat) : ∀ l : List Nat, ∃ l' k, l = l' ++ List.replicate k c ∧ l'.getLast? ≠ some c := by
  intro l
  induction hn : l.length generalizing l with
  | zero => exact ⟨[], 0, by simpa using hn, by simp⟩
  | succ n ih =>
    by_cases h : l.getLast? = some c
    · obtain ⟨l₁, rfl⟩ : ∃ l₁, l = l₁ ++ [c] := by
        have := List.getLast?_eq_some_iff.mp h
        exact this
      obtain ⟨l', k, e, hl⟩ := ih l₁ (by simpa using hn)
      exact ⟨l', k + 1, by rw [e, List.replicate_succ', List.append_assoc], hl⟩
    · exact ⟨l, 0, by simp, h⟩

/-! values of digits -/
theorem digitsVal_foldl (cs : List Nat) : ∀ n : Nat, cs.foldl (fun acc c => acc * 10 + (c - 48)) n = n * 10 ^ cs.length + digitsVal cs := by
  unfold digitsVal
  induction cs with
  | nil => intro n; simp
  | cons c cs ih =>
    intro n
    rw [List.foldl_cons, ih, List.foldl_cons, ih (0 * 10 + (c - 48)), List.length_cons, Nat.pow_succ, Nat.add_mul, Nat.zero_mul, Nat.zero_add, Nat.add_assoc, Nat.mul_assoc, Nat.mul_comm 10]
theorem digitsVal_app (a b : List Nat) : digitsVal (a ++ b) = digitsVal a * 10 ^ b.length + digitsVal b := by
  show (a ++ b).foldl _ 0 = _
  rw [List.foldl_append, digitsVal_foldl b]
  rfl
theorem digitsVal_zeros (k : Nat) : digitsVal (List.replicate k 48) = 0 := by
  induction k with
  | zero => rfl
  | succ k ih => rw [List.replicate_succ', digitsVal_app, ih]; simp [digitsVal]
theorem AllDigits.app {a b : List Nat} (ha : AllDigits a) (hb : AllDigits b) : AllDigits (a ++ b) := fun c hc => (List.mem_append.mp hc).elim (ha c) (hb c)
theorem AllDigits.zeros (k : Nat) : AllDigits (List.replicate k 48) := fun c hc => by rw [List.eq_of_mem_replicate hc]; decide
theorem AllDigits.sub {a b : List Nat} (h : AllDigits b) (k : ∀ c ∈ a, c ∈ b) : AllDigits a := fun c hc => h c (k c hc)
def dg (n : Nat) : List Nat := (Nat.toDigits 10 n).map Char.toNat
theorem dg_digits (n : Nat) : AllDigits (dg n) := by
  intro c hc
  obtain ⟨ch, hch, e⟩ := List.mem_map.mp hc
  have r := PyProof.Rows.digit_range (Nat.isDigit_of_mem_toDigits (by decide) (by decide) hch)
  rw [← e]
  exact r
theorem dg_ne (n : Nat) : dg n ≠ [] := fun e => by
  have := KIN.val_back n
  by_cases h : n = 0
  · subst h; exact absurd e (by decide)
  · have e' : (Nat.toDigits 10 n).map Char.toNat = [] := e
    rw [e'] at this
    exact h this.symm
theorem dg_val (n : Nat) : digitsVal (dg n) = n := KIN.val_back n
theorem dg_str (n : Nat) : Str.ofString (toString (n : Int)) = T (dg n) := T_of (KIN.signs_num n)
theorem dg_len {n k : Nat} (h : n < 10 ^ k) (hk : 1 ≤ k) : (dg n).length ≤ k := by
  have := toString_length_le (v := (n : Int)) (by omega) hk (by exact_mod_cast h)
  rw [dg_str, T_len] at this
  exact this
theorem intText_pos {l : List Nat} (h : AllDigits l) (h1 : l ≠ []) (h2 : l.length ≤ 4300) : PySem.intText? (T l) = some ((digitsVal l : Nat) : Int) := by
  have := intText_digits (x := T l) (by rw [T_toList]; exact h) (by rw [T_toList]; exact h1) (by rw [T_len]; exact h2)
  rwa [T_toList] at this
theorem intText_min {l : List Nat} (h : AllDigits l) (h1 : l ≠ []) (h2 : l.length ≤ 4000) : PySem.intText? (T (45 :: l)) = some (-((digitsVal l : Nat) : Int)) :=
  intText_neg (x := T (45 :: l)) rfl h h1 (by rw [T_len]; simp; omega)
def sgn (neg : Bool) : List Nat := if neg then [45] else []
theorem intText_sgn {neg : Bool} {l : List Nat} (h : AllDigits l) (h1 : l ≠ []) (h2 : l.length ≤ 4000) : PySem.intText? (T (sgn neg ++ l)) = some (if neg then -((digitsVal l : Nat) : Int) else ((digitsVal l : Nat) : Int)) := by
  cases neg
  · exact intText_pos (l := l) h h1 (by omega)
  · exact intText_min h h1 h2

end
section


theorem entry_powT : entryFor table "pow" = some Builtin.«pow» := entryFor_of_fast (by kernel_rfl)
theorem kind_powT : builtinKind "pow" = none := by decide +kernel
theorem plain_powT : plainId "pow" = true := by decide +kernel
theorem args_pow2 (a b : Value) : argsOk "pow" ⟨[a, b], []⟩ := by unfold argsOk; kernel_rfl
theorem bind_pow2 (a b : Value) : Builtin.Builtins.bindParams "pow" ["base", "exp", "mod"] 2 ⟨[a, b], []⟩ = pure [some a, some b, none] := by kernel_rfl
section
variable {g : Glo} {f : FI} {d : Nat} {X : Prop} {Φ : V → Prop}
theorem cl_pow {a n : Int} (hn : 0 ≤ n) (hn' : n ≤ 1000) (ha : a.natAbs < BIG) (h : Φ (.int (a ^ n.toNat))) : Cl g f d (.builtin "pow") [.int a, .int n] Φ X := fun σ wd ρ vals rs => by
  cases rs with
  | cons r rs =>
    cases rs with
    | cons r' rs =>
      cases rs
      cases r
      cases r'
      refine At.leaf fun Q E q => ?_
      refine Calls.call_function_entry kind_powT plain_powT entry_powT (args_pow2 _ _) ?_
      unfold Builtin.«pow»
      rw [bind_pow2]
      refine wpAny_bind (wpAny_pure ?_)
      refine wpAny_bind (pow_int hn (by
        have h1 := intBits_le ha
        have h2 : ((Builtin.Int.intBits a : Nat) : Int) ≤ 4000 := by omega
        have h3 : (Builtin.Int.intBits a : Int) * n ≤ 4000 * n := Int.mul_le_mul_of_nonneg_right h2 hn
        omega) ?_)
      exact wpAny_pure ⟨_, rfl, q _ _ ⟨rfl, _, .int, h⟩⟩
end
theorem cl_bl10 {g : Glo} {f : FI} {d : Nat} {X : Prop} {Φ : V → Prop} (h : Φ (.int 4)) : Cl g f d (.builtin "int.bit_length") [.int 10] Φ X := cl_bit_length (by
  have e : Builtin.Int.intBits 10 = 4 := by decide +kernel
  rw [e]; exact h)
theorem cl_split_1 {g : Glo} {f : FI} {d : Nat} {X : Prop} {Φ : V → Prop} {x z a : Str} (e : Txt.split x z = [a]) (hz : (z.length == 0) = false) (hx : x.length ≤ 500000) (h : Φ (.lst [.str a])) : Cl g f d (.builtin "str.split") [.str x, .str z] Φ X := cl_split e hz hx h
theorem cl_split_2 {g : Glo} {f : FI} {d : Nat} {X : Prop} {Φ : V → Prop} {x z a b : Str} (e : Txt.split x z = [a, b]) (hz : (z.length == 0) = false) (hx : x.length ≤ 500000) (h : Φ (.lst [.str a, .str b])) : Cl g f d (.builtin "str.split") [.str x, .str z] Φ X := cl_split e hz hx h
theorem cl_split_3 {g : Glo} {f : FI} {d : Nat} {X : Prop} {Φ : V → Prop} {x z a b c : Str} (e : Txt.split x z = [a, b, c]) (hz : (z.length == 0) = false) (hx : x.length ≤ 500000) (h : Φ (.lst [.str a, .str b, .str c])) : Cl g f d (.builtin "str.split") [.str x, .str z] Φ X := cl_split e hz hx h


end
section


section
variable {g : Glo} {f : FI} {d : Nat} {ρ : Loc} {X : Prop} {pos : Pos} {Ψ : V → Loc → Prop}
theorem sub_strE {value slice : Expr} {x y : Str} {k : Int} {Φ : V → Prop} (e : Txt.item x k = y) (h1 : -(x.length : Int) ≤ k) (h2 : k < x.length) (h3 : x.length ≤ 500000) (h : Φ (.str y))
    (hs : ∀ o i, subscripted slice false o i = operate [o, i] (getItem o i) := by intros; with_unfolding_all rfl) :
    Op2 (subscriptTail value slice) g f d (.str x) (.int k) Φ X := sub_str h1 h2 (by have := sizeLine_ge; omega) (e ▸ h) hs
theorem at_call_exc {σ : Sit g f d} {wd : Wd σ} {x : Str} {np : Pos} {e : Expr} (ho1 : f.own = false) (ho2 : f.tabs = []) (b : Bl g.K x (.type "ValueError")) (hm : InL f.gs x) (h : Ev g f d e ρ (fun v ρ₁ => ρ₁ = ρ) X)
    (he : ∀ env, starEach [e] env = (false, eval e env) :: starEach [] env := by intro; rfl) (hp : ∀ env, (starEach [e] env).any (·.1) = false := by intro; rfl) :
    At σ wd ρ (eval (.Call (.Name x np) [e] [] pos) σ.env) (fun val wd' ρ' => ρ' = ρ ∧ ∃ a o, val = .ref a ∧ (a, o) ∈ wd'.news ∧ ExcO o ∧ ∀ q ∈ wd.news, q.1 ≠ a) X := by
  show At σ wd ρ (do callWith pos (← eval (.Name x np) σ.env) [] (backTo pos (starEach [e] σ.env)) []) _ _
  refine .bind ((ev_builtin (Φ := fun c ρ₁ => c = .obj (.type "ValueError") ∧ ρ₁ = ρ) b hm ⟨rfl, rfl⟩ σ wd).mono fun va wd₁ ρ₁ l₁ ⟨a, ra, ea, eρ⟩ => ?_)
  subst ea
  subst eρ
  cases ra
  intro l Q E hQ hX tk₀
  have hv : Evs g f d pos [e] ρ₁ (fun vs ρ₂ => vs.length = 1 ∧ ρ₂ = ρ₁) X := evs_cons (fun σ wd => (h σ wd).mono fun va wd₁ ρ₂ l₁ ⟨v, rv, e⟩ => ⟨v, rv, evs_nil ⟨rfl, e⟩⟩) he
  refine callWith_ok (K := g.K) CvOk.typ (hp _) ((at_args (c := .type "ValueError") (first := []) hv he).run l (fun a wd₂ ρ₂ l₂ lo₂ ⟨ek, vs, rs, hl, hρ⟩ tk₂ => ⟨fun b o k => wd₂.F.keep _ _ (wd₂.X _ _ k), ?_⟩) hX tk₀)
  subst hρ
  rw [ek]
  obtain ⟨h', tk, e'⟩ := l₂.st
  refine at_excNew (X := X) (vals := [] ++ a.pos) (by have := sizeLine_ge; have := rs.length; simp; omega) lo₂ Q E (fun v wd₃ ρ₃ l₃ lo₃ ⟨eρ, a', o, ev, hn, ho, hq⟩ => hQ v wd₃ ρ₃ (l₂.trans l₃) lo₃ ⟨eρ, a', o, ev, hn, ho, fun q hq' => hq q (l₂.nw q (l₁.nw q hq' (.plain ho1 ho2 q)) (.plain ho1 ho2 q))⟩) (fun hx e h'' tk' fl => ?_) tk₂
  rw [e']
  exact hX hx e h'' tk' (fl.of_le l₂)
/-- the row that makes the object, and the rows that keep it -/
theorem exs_excOf {t : Str} {tp : Pos} {x : Str} {np cp : Pos} {e : Expr} {rest : List Stmt} {Φ : Fl → Loc → Prop} (hm : f.exc = []) (ho1 : f.own = false) (ho2 : f.tabs = []) (nd : f.ws.Nodup) (b : Bl g.K x (.type "ValueError")) (hg : InL f.gs x) {ρs : V → Loc} (hs : ∀ v, SetN f.ws ρ t v (ρs v))
    (h : Ev g f d e ρ (fun v ρ₁ => ρ₁ = ρ) X) (h2 : ∀ a o, ExcO o → Exs g { f with must := [(a, o)], exc := [(a, o)] } d rest (ρs (.obj (.ref a))) Φ X)
    (h1 : ∀ env, swapsWithSole [.Name t tp] (.Call (.Name x np) [e] [] cp) pos.line env = pure false := by intro; rfl) (h3 : ∀ L, swappedStores [.Name t tp] (.Call (.Name x np) [e] [] cp) (f.env L) = pure none := by intro; rfl)
    (he : ∀ env, starEach [e] env = (false, eval e env) :: starEach [] env := by intro; rfl) (hp : ∀ env, (starEach [e] env).any (·.1) = false := by intro; rfl) :
    Exs g f d (.Assign [.Name t tp] (.Call (.Name x np) [e] [] cp) pos :: rest) ρ Φ X := by
  refine exs_keep (x := t) hm ho1 ho2 (fun σ wd => ?_) (fun a o ρ' ho hs' => ?_)
  · show At σ wd ρ (do
      PySem.standAt pos
      if ← swapsWithSole [.Name t tp] (.Call (.Name x np) [e] [] cp) pos.line σ.env then do
        evalThenUse (.Call (.Name x np) [e] [] cp) σ.env fun v => assignAll v ((assignEach [.Name t tp] σ.env).map (·.2))
        Pure.pure .next
      else do
        let v ← eval (.Call (.Name x np) [e] [] cp) σ.env
        assignStores σ.env v (← swappedStores [.Name t tp] (.Call (.Name x np) [e] [] cp) σ.env) ((assignEach [.Name t tp] σ.env).map (·.2))) _ _
    rw [h1, h3]
    refine .stand (.bind (.pure ?_))
    show At σ wd ρ (do
        let v ← eval (.Call (.Name x np) [e] [] cp) σ.env
        assignStores σ.env v (← (Pure.pure none : Sem (Option (List Str)))) [assign (.Name t tp) σ.env]) _ _
    refine .bind ((at_call_exc (pos := cp) ho1 ho2 b hg h he hp).mono fun va wd₁ ρ₁ l₁ ⟨eρ, a, o, ev, hn, ho, hq⟩ => .bind (.pure ?_))
    subst eρ
    subst ev
    show At σ wd₁ ρ₁ (do assignAll (.ref a) [assign (.Name t tp) σ.env]; Pure.pure Flow.next) _ _
    have hA : At σ wd₁ ρ₁ (assign (.Name t tp) σ.env (.ref a)) (fun _ wd' ρ' => ρ' = ρs (.obj (.ref a)) ∧ (a, o) ∈ wd'.news) X := by
      show At σ wd₁ ρ₁ (do PySem.standAt tp; bindName σ.env t (.ref a)) _ _
      exact .stand (at_bind (a := .obj (.ref a)) .obj (hs _) fun wd' l' => ⟨rfl, l'.nw _ hn (.plain ho1 ho2 _)⟩)
    have hA2 : At σ wd₁ ρ₁ (assignAll (.ref a) [assign (.Name t tp) σ.env]) (fun _ wd' ρ' => ρ' = ρs (.obj (.ref a)) ∧ (a, o) ∈ wd'.news) X := hA
    exact .bind (hA2.mono fun _ wd₂ ρ₂ l₂ ⟨e2, hn2⟩ => .pure ⟨rfl, a, o, hn2, ho, hq, e2 ▸ hs _⟩)
  · have : ρ' = ρs (.obj (.ref a)) := by
      have key : ∀ {ns : List Str} {ρ ρ1 ρ2 : Loc} {x : Str} {v : V}, ns.Nodup → SetN ns ρ x v ρ1 → SetN ns ρ x v ρ2 → ρ1 = ρ2 := by
        intro ns ρ ρ1 ρ2 x v nd h1
        induction h1 generalizing ρ2 with
        | here =>
          intro h2
          cases h2 with
          | here => rfl
          | there h2 => exact absurd h2.mem (List.nodup_cons.mp nd).1
        | there h1 ih =>
          intro h2
          cases h2 with
          | here => exact absurd h1.mem (List.nodup_cons.mp nd).1
          | there h2 => rw [ih (List.nodup_cons.mp nd).2 h2]
      exact key nd hs' (hs _)
    rw [this]
    exact h2 a o ho
end

end
section


/-! comprehensions over short rows -/
mutual
def V.flat : V → Bool
  | .lst _ => false
  | .tup vs => V.flats vs
  | _ => true
def V.flats : List V → Bool
  | [] => true
  | v :: vs => V.flat v && V.flats vs
end
def TupO (o : Obj) : Prop := o.cls = .type "tuple" ∧ SeqO o
section
variable {S S' : Addr → Obj → Prop}
mutual
theorem Rep.flat (h : ∀ a o, S a o → TupO o → S' a o) : ∀ {v x}, Rep S v x → x.flat = true → Rep S' v x
  | _, _, .int, _ => .int
  | _, _, .str, _ => .str
  | _, _, .bool, _ => .bool
  | _, _, .none, _ => .none
  | _, _, .obj, _ => .obj
  | _, _, .tup a b c d, e => .tup (h _ _ a ⟨b, _, _, c⟩) b c (RepL.flat h d (by simpa [V.flat] using e))
  | _, _, .lst a b c d, e => by simp [V.flat] at e
theorem RepL.flat (h : ∀ a o, S a o → TupO o → S' a o) : ∀ {vs xs}, RepL S vs xs → V.flats xs = true → RepL S' vs xs
  | _, _, .nil, _ => .nil
  | _, _, .cons a b, e => by
    simp only [V.flats, Bool.and_eq_true] at e
    exact .cons (Rep.flat h a e.1) (RepL.flat h b e.2)
end
end
section
variable {g : Glo} {f : FI} {d : Nat} {σ : Sit g f d} {wd : Wd σ}
theorem fr_poke {h₀ h h' : Heap} {L c : Addr} {m : Str → Option Value} (F : Fr h₀ L h m) (hL : c ≠ L) (hc : h₀.get? c = none) (hk : ∀ b ob, b ≠ c → h.get? b = some ob → h'.get? b = some ob) : Fr h₀ L h' m :=
  ⟨F.ns.at' fun o e => hk L o (Ne.symm hL) e, fun b o e => hk b o (fun q => by rw [q, hc] at e; cases e) (F.keep b o e), F.above⟩
theorem news_poke {h₀ h h' : Heap} {L c : Addr} {l : Led} {o o' : Obj} (N : News h₀ L h l) (hm : (c, o) ∈ l) (hk : ∀ b ob, b ≠ c → h.get? b = some ob → h'.get? b = some ob) (ho : h'.get? c = some o') : News h₀ L h' (putAt c o' l) := fun q hq => by
  have hc := N _ hm
  rcases List.mem_cons.mp hq with rfl | hq
  · exact ⟨ho, hc.2⟩
  · obtain ⟨hq, hn⟩ := List.mem_filter.mp hq
    have hn : q.1 ≠ c := by simpa using hn
    exact ⟨hk _ _ hn (N q hq).1, (N q hq).2⟩
def cut (c : Addr) (l : Led) : Led := l.filter fun q => q.1 != c
theorem cut_mem {c : Addr} {l : Led} {q : Addr × Obj} (h : q ∈ l) (hn : q.1 ≠ c) : q ∈ cut c l := List.mem_filter.mpr ⟨h, by simpa using hn⟩
theorem news_cut {h₀ h h' : Heap} {L c : Addr} {l : Led} (N : News h₀ L h l) (hk : ∀ b ob, b ≠ c → h.get? b = some ob → h'.get? b = some ob) : News h₀ L h' (cut c l) := fun q hq => by
  obtain ⟨hq, hn⟩ := List.mem_filter.mp hq
  have hn : q.1 ≠ c := by simpa using hn
  exact ⟨hk _ _ hn (N q hq).1, (N q hq).2⟩
/-- the world with another object at one place of the ledger -/
abbrev Wd.put (wd : Wd σ) {c : Addr} {o : Obj} (o' : Obj) (h' : Heap) (tk : Nat) (hm : (c, o) ∈ wd.news) (hk : ∀ b ob, b ≠ c → wd.s.heap.get? b = some ob → h'.get? b = some ob) (ho : h'.get? c = some o') : Wd σ :=
  ⟨{ wd.s with heap := h', toks := tk }, wd.m, putAt c o' wd.news, wd.gr, wd.U, fr_poke wd.F (wd.N _ hm).2.1 (wd.N _ hm).2.2 hk, news_poke wd.N hm hk ho⟩
theorem news_fun {h₀ h : Heap} {L c : Addr} {l : Led} {o o' : Obj} (N : News h₀ L h l) (h1 : (c, o) ∈ l) (h2 : (c, o') ∈ l) : o = o' := by
  have a := (N _ h1).1
  have b := (N _ h2).1
  have a' : h.get? c = some o := a
  have b' : h.get? c = some o' := b
  rw [a'] at b'; exact Option.some.inj b'
end
theorem sup_put {base h₀ h : Heap} {L c : Addr} {l : Led} {o o' : Obj} (N : News h₀ L h l) (hm : (c, o) ∈ l) (ht : ¬ TupO o) : ∀ a ob, Sup base l a ob → TupO ob → Sup base (putAt c o' l) a ob := fun a ob hS hT => hS.imp (fun hS => putAt_mem hS fun e => by
  have e : a = c := e
  subst e
  exact ht (news_fun N hm hS ▸ hT)) id
/-- the frame of a comprehension's rows -/
abbrev FI.inner (f : FI) (sc : Scope) (cl : List (Str × Addr)) (C : Addr) (ns gs : List Str) : FI :=
  { cn := f.cn, cs := f.cs, a := f.a, ccd := f.ccd, cl := f.cl, ns := ns, gs := gs, comp := some (sc, cl, C) }
section
variable {g : Glo} {f : FI} {d : Nat} {σ : Sit g f d} {sc : Scope} {cl : List (Str × Addr)} {C : Addr} {ns gs : List Str}
theorem inner_stays (q : Addr × Obj) : Stays (f.inner sc cl C ns gs) q := .plain rfl rfl q
abbrev Sit.inner (σ : Sit g f d) (hok : (f.inner sc cl C ns gs).Ok) : Sit g (f.inner sc cl C ns gs) d :=
  ⟨σ.dp, σ.un, σ.gd, σ.outer, σ.A₀, σ.base, σ.h₀, σ.L, σ.B, σ.XB, σ.TB, hok, σ.hd, σ.hu⟩
abbrev Wd.inner {hok : (f.inner sc cl C ns gs).Ok} (wd : Wd σ) : Wd (σ.inner hok) := ⟨wd.s, wd.m, wd.news, wd.gr, wd.U, wd.F, wd.N⟩
abbrev Wd.outer {hok : (f.inner sc cl C ns gs).Ok} (wd : Wd (σ.inner hok)) : Wd σ := ⟨wd.s, wd.m, wd.news, wd.gr, wd.U, wd.F, wd.N⟩
abbrev lstO (vals : List Value) : Obj := { cls := .type "list", data := .seq vals.toArray vals.length }
/-- the comprehension's state: D has the row so far -/
structure CSt {hok : (f.inner sc cl C ns gs).Ok} (wd₀ : Wd σ) (C D : Addr) (fx : List (Str × Int)) (wd : Wd (σ.inner hok)) (ys : List V) : Prop where
  st : ∃ h tk, wd.s = { wd₀.s with heap := h, toks := tk }
  mm : wd.m = wd₀.m
  keep : ∀ q ∈ wd₀.news, q ∈ wd.news
  ns : ∃ oC m, (C, oC) ∈ wd.news ∧ NsO oC m ∧ ∀ q ∈ fx, ∃ t, m q.1 = some (.int q.2 t)
  acc : ∃ vals, (D, lstO vals) ∈ wd.news ∧ RepL wd.S vals ys
  flat : V.flats ys = true
  go : wd.Go
  hC : ∀ q ∈ wd₀.news, q.1 ≠ C
  hD : ∀ q ∈ wd₀.news, q.1 ≠ D
  ne : C ≠ D
end

section
variable {prog : Program} {w : World} {A : Around} {s : Shared} {R : Result → Shared → Prop} {elt : Expr} {gens : List Comprehension} {scope : Scope} {pos : Pos} {dp : Nat} {it acc : Value} {env : Env}
theorem codeC_compLoop (J : Nat → Shared → Prop)
    (turn : ∀ n s, J n s → wpC (model prog w) A (compTurn (.ListComp elt gens scope pos) dp it acc env) (fun fin s' => match fin with | .done f => R (.ok f) s' | .again c' => c' = .compLoop (.ListComp elt gens scope pos) dp it acc env ∧ ∃ m, m < n ∧ J m s') (fun _ _ => False) s) :
    ∀ n s, J n s → codeC (model prog w) A (.compLoop (.ListComp elt gens scope pos) dp it acc env) R s := by
  intro n
  induction n using Nat.strongRecOn with
  | ind n ih =>
    intro s hJ
    refine codeC_tree ?_
    rw [Around.under_of_weight (by rfl) (by rfl)]
    show wpC _ A ((compTurn (.ListComp elt gens scope pos) dp it acc env).onRaise _) _ _ s
    refine wpC_onRaise (wpC_mono (turn n s hJ) (fun fin s' h => ?_) fun _ _ x => x.elim)
    cases fin with
    | done f => exact h
    | again c' =>
      obtain ⟨rfl, m, hm, hJ'⟩ := h
      exact ⟨rfl, ih m hm s' hJ'⟩
theorem codeC_compStart (has : ((clausesOf (.ListComp elt gens scope pos))[dp]?).elim false (·.is_async != 0) = false) (h0 : codeC (model prog w) A (.compLoop (.ListComp elt gens scope pos) dp it acc env) R s)
    (hself : wpAny (model prog w) A (pyIter it) (fun v s' => v = it ∧ s' = s) (fun _ _ => False) s) : codeC (model prog w) A (.compStart (.ListComp elt gens scope pos) dp it acc env) R s := by
  refine codeC_tree ?_
  rw [Around.under_of_weight (by rfl) (by rfl)]
  show wpC _ A ((compStart (.ListComp elt gens scope pos) dp it acc env).onRaise _) _ _ s
  refine wpC_onRaise (wpC_mono (Q := fun fin s' => fin = .again (.compLoop (.ListComp elt gens scope pos) dp it acc env) ∧ s' = s) (E := fun _ _ => False) ?_ (fun fin s' h => ?_) fun _ _ x => x.elim)
  · refine wpC_of ?_
    unfold compStart
    rw [has]
    simp only [Bool.false_eq_true, if_false]
    refine wpAny_bind (wpAny_askSetting ?_)
    split
    · first
        | exact wpAny_pure ⟨rfl, rfl⟩
        | exact wpAny_bind (wpAny_pure (wpAny_pure ⟨rfl, rfl⟩))
    · refine wpAny_bind (wpAny_rule ?_)
      split
      · refine wpAny_bind (wpAny_standAt ?_)
        refine wpAny_bind (wpAny_mono hself (fun v s' h => ?_) fun _ _ x => x)
        obtain ⟨rfl, rfl⟩ := h
        exact wpAny_pure ⟨rfl, rfl⟩
      · refine wpAny_bind (wpAny_mono hself (fun v s' h => ?_) fun _ _ x => x)
        obtain ⟨rfl, rfl⟩ := h
        exact wpAny_pure ⟨rfl, rfl⟩
  · obtain ⟨rfl, rfl⟩ := h
    exact ⟨rfl, h0⟩
end

/-- what a walk over a row needs of its iterator -/
structure ItS (prog : Program) (w : World) (A : Around) (I ax : Addr) (items : List Value) (St : Nat → Heap → Prop) : Prop where
  W : Walks prog w A I [I, ax] [I] items.length (fun i v => items[i]? = some v) St
  go : ∀ target i v (s : Shared) (Q : Unit → Shared → Prop) (E : Value → Shared → Prop), St i s.heap → Q () s → wpAny (model prog w) A (letOwnedTupleGo target (.ref I) v) Q E s
  obj : ∀ i h, St i h → ∃ o, h.get? I = some o ∧ ¬ TupO o
theorem its_list {prog : Program} {w : World} {A : Around} {I ax : Addr} {items : List Value} (hh : A.handled = none) (hne : ax ≠ I) : ItS prog w A I ax items (fun i h => h.IsListIter I ax i ∧ h.IsList ax items.toArray) where
  W := by
    have := Walks.list (prog := prog) (w := w) hh I ax hne items.toArray
    simpa using this
  go := fun target i v s Q E st q => letGo_listiter st.1 q
  obj := fun i h st => by
    obtain ⟨o, h1, h2, _⟩ := st.1
    exact ⟨o, h1, fun t => by have := t.1; rw [h2] at this; exact absurd this (by decide)⟩
theorem its_tuple {prog : Program} {w : World} {A : Around} {I ax : Addr} {items : List Value} (hh : A.handled = none) (hne : ax ≠ I) : ItS prog w A I ax items (fun i h => h.IsTupleIter I ax i ∧ h.IsTuple ax items.toArray) where
  W := by
    have := Walks.tuple (prog := prog) (w := w) hh I ax hne items.toArray
    simpa using this
  go := fun target i v s Q E st q => letGo_tupleiter st.1 q
  obj := fun i h st => by
    obtain ⟨o, h1, h2, _⟩ := st.1
    exact ⟨o, h1, fun t => by have := t.1; rw [h2] at this; exact absurd this (by decide)⟩
section
variable {g : Glo} {f : FI} {d : Nat} {σ : Sit g f d} {sc : Scope} {cl : List (Str × Addr)} {C D I ax : Addr} {ns gs : List Str} {hok : (f.inner sc cl C ns gs).Ok}
/-- the state stays as other places of the ledger change -/
theorem CSt.put {wd₀ : Wd σ} {fx : List (Str × Int)} {wd : Wd (σ.inner hok)} {ys : List V} {c : Addr} {o o' : Obj} {h' : Heap} {tk : Nat} (X : CSt wd₀ C D fx wd ys) (hm : (c, o) ∈ wd.news) (hk : ∀ b ob, b ≠ c → wd.s.heap.get? b = some ob → h'.get? b = some ob) (ho : h'.get? c = some o')
    (hC : C ≠ c) (hD : D ≠ c) (h₀ : ∀ q ∈ wd₀.news, q.1 ≠ c) (ht : ¬ TupO o) (hk' : wd.s.toks ≤ tk) : CSt wd₀ C D fx (wd.put o' h' tk hm hk ho) ys := by
  obtain ⟨h, tk0, e⟩ := X.st
  obtain ⟨oC, m, k1, k2, k3⟩ := X.ns
  obtain ⟨vals, j1, j2⟩ := X.acc
  refine ⟨⟨h', tk, by show ({ wd.s with heap := h', toks := tk } : Shared) = _; rw [e]⟩, X.mm, fun q hq => putAt_mem (X.keep q hq) (h₀ q hq), ⟨oC, m, putAt_mem k1 hC, k2, k3⟩, ⟨vals, putAt_mem j1 hD, RepL.flat (fun a ob hS hT => ?_) j2 X.flat⟩, X.flat,
    ⟨Nat.lt_of_lt_of_le X.go.1 hk', fun q hq => by cases hq⟩, X.hC, X.hD, X.ne⟩
  exact hS.imp (fun hS => putAt_mem hS fun e => by
    have : (c, ob) ∈ wd.news := by rw [← show (a, ob).1 = c from e]; exact hS
    exact ht (news_fun wd.N hm this ▸ hT)) id
/-- a loop of a comprehension -/
theorem comp_loop {elt : Expr} {gens : List Comprehension} {scope : Scope} {pos p : Pos} {dp : Nat} {target : Expr} {body : Sem Unit} {items : List Value} {St : Nat → Heap → Prop} {wd₀ : Wd σ} {fx : List (Str × Int)} {wdS : Wd (σ.inner hok)} {ys0 : List V} {oax oI : Obj}
    (em : Nat → List V) {env : Env}
    (hT : compTurn (.ListComp elt gens scope pos) dp (.ref I) (.ref D) env = (standAt p >>= fun _ => pyNext (.ref I) >>= fun r => match r with
      | none => pure (.done .next)
      | some v => letOwnedTupleGo target (.ref I) v >>= fun _ => assign target env v >>= fun _ => body >>= fun _ => again (.compLoop (.ListComp elt gens scope pos) dp (.ref I) (.ref D) env)))
    (it : ItS g.prog g.w σ.A I ax items St) (hax : Sup σ.base wd₀.news ax oax) (h₀ : ∀ q ∈ wd₀.news, q.1 ≠ I) (hIC : I ≠ C) (hID : I ≠ D)
    (step : ∀ i val (wd : Wd (σ.inner hok)) ys, items[i]? = some val → ys = ys0 ++ ((List.range i).map em).flatten → CSt wd₀ C D fx wd ys → wpC g.M σ.A (assign target env val) (fun _ s1 => wpC g.M σ.A body (fun _ s2 => ∃ wd' : Wd (σ.inner hok), s2 = wd'.s ∧ CSt wd₀ C D fx wd' (ys ++ em i) ∧
      ∀ q ∈ wd.news, q.1 ≠ C → q.1 ≠ D → q ∈ wd'.news) (fun _ _ => False) s1) (fun _ _ => False) wd.s)
    (X : CSt wd₀ C D fx wdS ys0) (hI : (I, oI) ∈ wdS.news) (h0 : St 0 wdS.s.heap) {R : Result → Shared → Prop}
    (hR : ∀ wd' : Wd (σ.inner hok), CSt wd₀ C D fx wd' (ys0 ++ ((List.range items.length).map em).flatten) → (∀ q ∈ wdS.news, q.1 ≠ C → q.1 ≠ D → q.1 ≠ I → q ∈ wd'.news) → R (.ok .next) wd'.s) :
    codeC g.M σ.A (.compLoop (.ListComp elt gens scope pos) dp (.ref I) (.ref D) env) R wdS.s := by
  refine codeC_compLoop (fun n s => ∃ (wd : Wd (σ.inner hok)) (i : Nat) (o : Obj), s = wd.s ∧ i ≤ items.length ∧ n = items.length + 1 - i ∧ CSt wd₀ C D fx wd (ys0 ++ ((List.range i).map em).flatten) ∧ (I, o) ∈ wd.news ∧ St i wd.s.heap ∧
    ∀ q ∈ wdS.news, q.1 ≠ C → q.1 ≠ D → q.1 ≠ I → q ∈ wd.news) ?_ (items.length + 1) wdS.s ⟨wdS, 0, oI, rfl, by omega, by omega, by simpa using X, hI, h0, fun q hq _ _ _ => hq⟩
  rintro n s ⟨wd, i, o, rfl, hi, rfl, Xi, hIi, hSt, hkeep⟩
  rw [hT]
  refine wpC_stand ?_
  have hnoT : ¬ TupO o := by
    obtain ⟨o', k1, k2⟩ := it.obj _ _ hSt
    have : wd.s.heap.get? I = some o := (wd.N _ hIi).1
    rw [k1] at this
    cases this
    exact k2
  by_cases hlt : i < items.length
  · refine wpC_bind (wpC_mono (wpC_toks (Q := fun r s' => ∃ val h' tk, r = some val ∧ s' = { wd.s with heap := h', toks := tk } ∧ items[i]? = some val ∧ St (i + 1) h' ∧ ∀ b ob, b ∉ [I] → wd.s.heap.get? b = some ob → h'.get? b = some ob) (E := fun _ _ => False)
      (wpC_of (it.W.item i wd.s _ _ hlt hSt fun v h' tk e1 e2 e3 => ⟨v, h', tk, rfl, rfl, e1, e2, e3⟩))) (fun r s' h => ?_) fun _ _ x => x.1)
    obtain ⟨⟨val, h', tk, rfl, rfl, e1, e2, e3⟩, htk⟩ := h
    have hk : ∀ b ob, b ≠ I → wd.s.heap.get? b = some ob → h'.get? b = some ob := fun b ob hb e => e3 b ob (by simpa using hb) e
    obtain ⟨oI', k1, k2⟩ := it.obj _ _ e2
    have X1 := Xi.put hIi hk k1 (Ne.symm hIC) (Ne.symm hID) h₀ hnoT htk
    let wd1 : Wd (σ.inner hok) := wd.put oI' h' tk hIi hk k1
    show wpC _ _ (letOwnedTupleGo target (.ref I) val >>= _) _ _ wd1.s
    refine wpC_bind (wpC_of (it.go target (i + 1) val wd1.s _ _ e2 ?_))
    refine wpC_bind (wpC_mono (step i val wd1 _ e1 rfl X1) (fun _ s1 hb => wpC_bind (wpC_mono hb (fun _ s2 h => ?_) fun _ _ x => x)) fun _ _ x => x)
    obtain ⟨wd2, rfl, X2, hk2⟩ := h
    have hI2 : (I, oI') ∈ wd2.news := hk2 _ (.head _) hIC hID
    have hax1 : ∀ {wd : Wd (σ.inner hok)} {ys : List V}, CSt wd₀ C D fx wd ys → wd.s.heap.get? ax = some oax := fun {wd} {_} Xc => hax.elim (fun h => (Wd.N _ _ (Xc.keep _ h)).1) fun h => (Wd.F wd).keep _ _ ((Wd.B wd).stays _ _ h)
    have hSt2 : St (i + 1) wd2.s.heap := it.W.frame _ _ _ e2 fun b hb ob e => by
      simp only [List.mem_cons, List.not_mem_nil, or_false] at hb
      rcases hb with rfl | rfl
      · have e' : wd1.s.heap.get? b = some ob := e
        have := (wd1.N (b, oI') (.head _)).1
        rw [e'] at this
        cases this
        exact (wd2.N _ hI2).1
      · have e' : wd1.s.heap.get? b = some ob := e
        rw [hax1 X1] at e'
        cases e'
        exact hax1 X2
    refine wpC_pure ⟨rfl, items.length + 1 - (i + 1), by omega, wd2, i + 1, oI', rfl, hlt, rfl, ?_, hI2, hSt2, fun q hq hC hD hIq => hk2 q (putAt_mem (hkeep q hq hC hD hIq) hIq) hC hD⟩
    rw [List.range_succ, List.map_append, List.flatten_append, ← List.append_assoc]
    simpa using X2
  · obtain rfl : i = items.length := by omega
    refine wpC_bind (wpC_mono (wpC_toks (Q := fun r s' => ∃ h' tk, r = none ∧ s' = { wd.s with heap := h', toks := tk } ∧ ∀ b ob, b ∉ [I] → wd.s.heap.get? b = some ob → h'.get? b = some ob) (E := fun _ _ => False)
      (wpC_of (it.W.done wd.s _ _ hSt fun h' tk e3 => ⟨h', tk, rfl, rfl, e3⟩))) (fun r s' h => ?_) fun _ _ x => x.1)
    obtain ⟨⟨h', tk, rfl, rfl, e3⟩, htk⟩ := h
    have hk : ∀ b ob, b ≠ I → wd.s.heap.get? b = some ob → h'.get? b = some ob := fun b ob hb e => e3 b ob (by simpa using hb) e
    refine wpC_pure ?_
    let wd' : Wd (σ.inner hok) := ⟨{ wd.s with heap := h', toks := tk }, wd.m, cut I wd.news, wd.gr, wd.U, fr_poke wd.F (wd.N _ hIi).2.1 (wd.N _ hIi).2.2 hk, news_cut wd.N hk⟩
    refine hR wd' ?_ fun q hq hC hD hIq => cut_mem (hkeep q hq hC hD hIq) hIq
    obtain ⟨h, tk0, e⟩ := Xi.st
    obtain ⟨oC, m, k1, k2, k3⟩ := Xi.ns
    obtain ⟨vals, j1, j2⟩ := Xi.acc
    refine ⟨⟨h', tk, by show ({ wd.s with heap := h', toks := tk } : Shared) = _; rw [e]⟩, Xi.mm, fun q hq => cut_mem (Xi.keep q hq) (h₀ q hq), ⟨oC, m, cut_mem k1 (Ne.symm hIC), k2, k3⟩, ⟨vals, cut_mem j1 (Ne.symm hID), RepL.flat (fun a ob hS hT => ?_) j2 Xi.flat⟩, Xi.flat,
      ⟨Nat.lt_of_lt_of_le Xi.go.1 htk, fun q hq => by cases hq⟩, Xi.hC, Xi.hD, Xi.ne⟩
    exact hS.imp (fun hS => cut_mem hS fun e => by
      have : (I, ob) ∈ wd.news := by rw [← show (a, ob).1 = I from e]; exact hS
      exact hnoT (news_fun wd.N hIi this ▸ hT)) id
end

section
variable {α : Type} {M : Model} {A : Around} {E : Value → Shared → Prop} {s : Shared}
theorem wpC_attempt {m : Sem α} {Q : Except Value α → Shared → Prop} (h : wpC M A m (fun a => Q (.ok a)) (fun e => Q (.error e)) s) : wpC M A m.attempt Q E s := fun Γ p hΓ hc => by
  rw [Sem.wp_attempt]; exact h Γ p hΓ hc
end
section
variable {g : Glo} {f : FI} {d : Nat} {σ : Sit g f d} {sc : Scope} {cl : List (Str × Addr)} {C D : Addr} {ns gs : List Str} {hok : (f.inner sc cl C ns gs).Ok}
theorem wpCq_bind {α β : Type} {M : Model} {A : Around} {s : Shared} {m : Sem α} {k : α → Sem β} {P : α → Shared → Prop} {Q : β → Shared → Prop} (h : wpC M A m P (fun _ _ => False) s) (hk : ∀ a s', P a s' → wpC M A (k a) Q (fun _ _ => False) s') : wpC M A (m >>= k) Q (fun _ _ => False) s :=
  wpC_bind (wpC_mono h hk fun _ _ x => x)
/-- a comprehension's name gets a value -/
theorem comp_bind {wd₀ : Wd σ} {fx : List (Str × Int)} {wd : Wd (σ.inner hok)} {ys : List V} {x : Str} {val : Value} {oC : Obj} {m : Str → Option Value} (X : CSt wd₀ C D fx wd ys) (hC : (C, oC) ∈ wd.news) (hN : NsO oC m) (hfx : ∀ q ∈ fx, ∃ t, m q.1 = some (.int q.2 t)) (hxf : ∀ q ∈ fx, q.1 ≠ x) (hx : sc.names.lookup x = some .local) :
    wpC g.M σ.A (bindName (σ.inner hok).env x val) (fun _ s1 => ∃ (wd' : Wd (σ.inner hok)) (oC' : Obj), s1 = wd'.s ∧ CSt wd₀ C D fx wd' ys ∧ (C, oC') ∈ wd'.news ∧ NsO oC' (upd m x val) ∧ ∀ q ∈ wd.news, q.1 ≠ C → q ∈ wd'.news) (fun _ _ => False) wd.s := by
  obtain ⟨es, ep, k1, k2, k3⟩ := hN
  have hn : wd.s.heap.Ns C m := ⟨oC, es, ep, (wd.N _ hC).1, k1, k2, k3⟩
  refine wpC_bindName (wpC_of (wpAny_storeName_local (env := (σ.inner hok).env) (m := m) hx hn (fun h' hn' hs => ?_) ?_))
  · obtain ⟨oC', es', ep', j1, j2, j3, j4⟩ := hn'
    have hk : ∀ b ob, b ≠ C → wd.s.heap.get? b = some ob → h'.get? b = some ob := fun b ob hb e => (hs.2 b hb).trans e
    have hnt : ¬ TupO oC := fun t => by obtain ⟨_, _, _, e⟩ := t; rw [k1] at e; cases e
    refine ⟨wd.put oC' h' (wd.s.toks + 1) hC hk j1, oC', rfl, ?_, .head _, ⟨es', ep', j2, j3, j4⟩, fun q hq hn => putAt_mem hq hn⟩
    obtain ⟨h, tk0, e⟩ := X.st
    obtain ⟨vals, i1, i2⟩ := X.acc
    refine ⟨⟨h', wd.s.toks + 1, by show ({ wd.s with heap := h', toks := _ } : Shared) = _; rw [e]⟩, X.mm, fun q hq => putAt_mem (X.keep q hq) (X.hC q hq), ⟨oC', upd m x val, .head _, ⟨es', ep', j2, j3, j4⟩, fun q hq => by
      obtain ⟨t, e⟩ := hfx q hq
      exact ⟨t, by unfold upd; rw [if_neg (hxf q hq)]; exact e⟩⟩, ⟨vals, putAt_mem i1 (Ne.symm X.ne), RepL.flat (sup_put wd.N hC hnt) i2 X.flat⟩, X.flat,
      ⟨Nat.lt_succ_of_lt X.go.1, fun q hq => by cases hq⟩, X.hC, X.hD, X.ne⟩
  · have : (σ.inner hok).env.scope.kind = .function := (σ.inner hok).kind
    show ((σ.inner hok).env.scope.kind == .class || ((σ.inner hok).env.scope.kind == .module && _)) = false
    rw [this]; rfl
/-- a comprehension's row takes one more -/
theorem comp_emit {wd₀ : Wd σ} {fx : List (Str × Int)} {wd : Wd (σ.inner hok)} {ys : List V} {elt : Expr} {ρ' : Loc} {Y : V} (X : CSt wd₀ C D fx wd ys) (hl : LocOk wd ρ') (he : Ev g (f.inner sc cl C ns gs) d elt ρ' (fun y _ => y = Y) False) (hY : Y.flat = true) (hn : ys.length ≤ 1000000) :
    wpC g.M σ.A (eval elt (σ.inner hok).env >>= fun x => call (.builtin "list.append") [.ref D, x] >>= fun _ => pure ()) (fun _ s2 => ∃ wd' : Wd (σ.inner hok), s2 = wd'.s ∧ CSt wd₀ C D fx wd' (ys ++ [Y]) ∧
      ∀ q ∈ wd.news, q.1 ≠ C → q.1 ≠ D → q ∈ wd'.news) (fun _ _ => False) wd.s := by
  refine wpC_bind ((he (σ.inner hok) wd).run hl (fun val wd1 ρ1 l1 lo1 ⟨v, rv, ev⟩ tk1 => ?_) (fun x => x.elim) X.go)
  subst ev
  have full : ∀ q ∈ wd.news, q ∈ wd1.news := fun q hq => l1.nw q hq (inner_stays q)
  obtain ⟨h, tk0, e⟩ := X.st
  obtain ⟨h1, tk1', e1⟩ := l1.st
  obtain ⟨oC, m, k1, k2, k3⟩ := X.ns
  obtain ⟨vals, i1, i2⟩ := X.acc
  have hD1 := full _ i1
  have hsz : vals.length ≤ sizeLine := by have := i2.length; have := sizeLine_ge; omega
  refine wpC_bind (wpC_of (append_at (D := D) (its := vals.toArray) (n := vals.length) (wd1.N _ hD1).1 (fun h' hs hg => ?_) (by rw [List.size_toArray]; exact hsz)))
  have hk : ∀ b ob, b ≠ D → wd1.s.heap.get? b = some ob → h'.get? b = some ob := fun b ob hb e => (hs.2 b hb).trans e
  have hobj : h'.get? D = some (lstO (vals ++ [val])) := by
    rw [hg]
    show some ({ cls := .type "list", data := .seq (vals.toArray.push val) (vals.length + 1) } : Obj) = some { cls := .type "list", data := .seq (vals ++ [val]).toArray (vals ++ [val]).length }
    rw [List.length_append, List.length_singleton, List.push_toArray]
  refine wpC_pure ⟨wd1.put (lstO (vals ++ [val])) h' wd1.s.toks hD1 hk hobj, rfl, ?_, fun q hq _ hn => putAt_mem (full q hq) hn⟩
  have hnt : ¬ TupO (lstO vals) := fun t => absurd t.1 (by show ¬ Value.type "list" = Value.type "tuple"; decide)
  have sub : ∀ a ob, wd1.S a ob → TupO ob → Sup σ.base (putAt D (lstO (vals ++ [val])) wd1.news) a ob := sup_put wd1.N hD1 hnt
  refine ⟨⟨h', wd1.s.toks, by show ({ wd1.s with heap := h', toks := _ } : Shared) = _; rw [e1, e]⟩, (l1.mm rfl).trans X.mm, fun q hq => putAt_mem (full _ (X.keep q hq)) (X.hD q hq), ⟨oC, m, putAt_mem (full _ k1) X.ne, k2, k3⟩,
    ⟨vals ++ [val], .head _, (RepL.flat sub (l1.repL i2) X.flat).append (.cons (Rep.flat sub rv hY) .nil)⟩, ?_, ⟨tk1.1, fun q hq => by cases hq⟩, X.hC, X.hD, X.ne⟩
  have : ∀ (a b : List V), V.flats a = true → V.flats b = true → V.flats (a ++ b) = true := fun a b ha hb => by
    induction a with
    | nil => exact hb
    | cons x a ih =>
      simp only [V.flats, Bool.and_eq_true] at ha
      simp only [List.cons_append, V.flats, Bool.and_eq_true]
      exact ⟨ha.1, ih ha.2⟩
  exact this _ _ X.flat (by simp [V.flats, hY])
end

section
variable {g : Glo} {f : FI} {d : Nat} {X : Prop} {ρ : Loc} {Ψ : V → Loc → Prop} {sc : Scope} {cl : List (Str × Addr)} {ns gs : List Str}
/-- the three new objects of a comprehension: iterator, row, names -/
theorem comp_world {σ : Sit g f d} {C D : Addr} {hok : (f.inner sc cl C ns gs).Ok} (wd : Wd σ) (tk : wd.Go) {oI : Obj} (hfr : oI.isFreed = false) {h₁ : Heap} {tk₁ : Nat} {mC : Str → Option Value} (hC : C = wd.s.heap.objs.size + 2) (hD : D = wd.s.heap.objs.size + 1)
    (hns : h₁.Ns C mC) (hsb : ∀ b ob, b ≠ C → ((wd.s.heap.push oI).push (lstO [])).get? b = some ob → h₁.get? b = some ob) (htk : wd.s.toks ≤ tk₁) :
    ∃ wdS : Wd (σ.inner hok), wdS.s = { wd.s with heap := h₁, toks := tk₁ } ∧ CSt wd C D [] wdS [] ∧ (wd.s.heap.objs.size, oI) ∈ wdS.news ∧ (∀ q ∈ wd.news, q.1 ≠ wd.s.heap.objs.size) := by
  obtain ⟨oC, es, ep, k0, k1, k2, k3⟩ := hns
  have lt : ∀ {b : Addr} {o : Obj}, wd.s.heap.get? b = some o → b < wd.s.heap.objs.size := fun e => Heap.lt_size e
  have old : ∀ b o, wd.s.heap.get? b = some o → h₁.get? b = some o := fun b o e => hsb b o (by show b ≠ C; rw [hC]; exact Nat.ne_of_lt (Nat.lt_of_lt_of_le (lt e) (by omega))) (Heap.get?_push_of_some _ (Heap.get?_push_of_some _ e))
  have hL : σ.L < wd.s.heap.objs.size := wd.F.ns.lt
  have fresh : ∀ a, wd.s.heap.objs.size ≤ a → wd.gr.get? a = none := fun a ha => by
    cases e : wd.gr.get? a with
    | none => rfl
    | some o => have := lt (wd.F.keep _ _ e); exact absurd this (Nat.not_lt.mpr ha)
  have gI : h₁.get? wd.s.heap.objs.size = some oI := hsb _ _ (by show _ ≠ C; rw [hC]; exact Nat.ne_of_lt (by omega)) (Heap.get?_push_of_some _ (Heap.get?_push_size _ hfr))
  have gD : h₁.get? D = some (lstO []) := hsb _ _ (by show D ≠ C; rw [hC, hD]; exact Nat.ne_of_lt (by omega)) (by
    have e : (wd.s.heap.push oI).objs.size = wd.s.heap.objs.size + 1 := Heap.size_push ..
    rw [hD, ← e]
    exact Heap.get?_push_size _ rfl)
  have hn : ∀ q ∈ wd.news, q.1 < wd.s.heap.objs.size := fun q hq => lt (wd.N q hq).1
  refine ⟨⟨{ wd.s with heap := h₁, toks := tk₁ }, wd.m, (wd.s.heap.objs.size, oI) :: (C, oC) :: (D, lstO []) :: wd.news, wd.gr, wd.U, wd.F.keeps old, fun q hq => ?_⟩, rfl, ?_, .head _, fun q hq => Nat.ne_of_lt (hn q hq)⟩
  · rcases List.mem_cons.mp hq with rfl | hq
    · exact ⟨gI, Nat.ne_of_gt hL, fresh _ (Nat.le_refl _)⟩
    · rcases List.mem_cons.mp hq with rfl | hq
      · exact ⟨k0, by show C ≠ σ.L; rw [hC]; exact Nat.ne_of_gt (Nat.lt_of_lt_of_le hL (by omega)), fresh _ (by rw [hC]; omega)⟩
      · rcases List.mem_cons.mp hq with rfl | hq
        · exact ⟨gD, by show D ≠ σ.L; rw [hD]; exact Nat.ne_of_gt (Nat.lt_of_lt_of_le hL (by omega)), fresh _ (by rw [hD]; omega)⟩
        · exact ⟨old _ _ (wd.N q hq).1, (wd.N q hq).2⟩
  · refine ⟨⟨_, _, rfl⟩, rfl, fun q hq => .tail _ (.tail _ (.tail _ hq)), ⟨oC, mC, .tail _ (.head _), ⟨es, ep, k1, k2, k3⟩, fun q hq => by cases hq⟩, ⟨[], .tail _ (.tail _ (.head _)), .nil⟩, rfl, ⟨Nat.lt_of_lt_of_le tk.1 htk, fun q hq => by cases hq⟩, fun q hq => ?_, fun q hq => ?_, ?_⟩
    · rw [hC]; exact Nat.ne_of_lt (Nat.lt_of_lt_of_le (hn q hq) (by omega))
    · rw [hD]; exact Nat.ne_of_lt (Nat.lt_of_lt_of_le (hn q hq) (by omega))
    · rw [hC, hD]; exact Nat.ne_of_gt (by omega)
theorem at_comp {σ : Sit g f d} {wd : Wd σ} {elt iter target : Expr} {more : List Comprehension} {scope : Scope} {pos : Pos} {vs ys : List V}
    (hiter : Ev g f d iter ρ (fun v ρ₁ => ρ₁ = ρ ∧ (v = .tup vs ∨ v = .lst vs)) X) (hcomp : f.comp = none)
    (hclos : closureFor scope σ.env = pure cl) (hrel : relabel scope σ.env = sc) (hcell : ∀ y ∈ scope.names, y.2 ≠ .cell) (hkind : scope.kind = .function)
    (hnames : ∀ y ∈ scope.names, y.2 = .local → scope.names.lookup y.1 = some .local) (hok : ∀ C, (f.inner sc cl C ns gs).Ok)
    (hrun : ∀ (wd₀ : Wd σ) (C D I ax : Addr) (items : List Value) (St : Nat → Heap → Prop) (oax oI : Obj) (wdS : Wd (σ.inner (hok C))), ItS g.prog g.w σ.A I ax items St → LocOk wd₀ ρ → Sup σ.base wd₀.news ax oax → RepL wd₀.S items vs →
      (∀ q ∈ wd₀.news, q.1 ≠ I) → I ≠ C → I ≠ D → CSt wd₀ C D [] wdS [] → (I, oI) ∈ wdS.news → St 0 wdS.s.heap → ∀ R : Result → Shared → Prop, (∀ wd' : Wd (σ.inner (hok C)), CSt wd₀ C D [] wd' ys → R (.ok .next) wd'.s) →
      codeC g.M σ.A (.compLoop (.ListComp elt (⟨target, iter, [], 0⟩ :: more) scope pos) 0 (.ref I) (.ref D) (σ.inner (hok C)).env) R wdS.s)
    (h : Ψ (.lst ys) ρ) (hs : ∀ env x, foldedSetIterable iter env x = pure x) :
    At σ wd ρ (eval (.ListComp elt (⟨target, iter, [], 0⟩ :: more) scope pos) σ.env) (RV Ψ) X := fun l Q E hQ hX tk => by
  have eenv : σ.env = σ.fenv := by unfold Sit.env FI.env; rw [hcomp]
  rw [eval_ListComp]
  unfold comprehension
  rw [hclos]
  show wpC _ _ (eval iter σ.env >>= _) _ _ _
  refine wpC_bind ((hiter σ wd).run l (fun vx wd₁ ρ₁ l₁ lo₁ ⟨v, rv, e, hv⟩ tk₁ => ?_) hX tk)
  subst e
  refine wpC_stand ?_
  show wpC _ _ (foldedSetIterable iter σ.env vx >>= _) _ _ _
  rw [hs]
  refine wpC_bind (wpC_pure ?_)
  refine wpC_bind (wpC_holding (wpC_mono (Q := fun itv s' => ∃ (ax : Addr) (oax oI : Obj) (items : List Value) (St : Nat → Heap → Prop), itv = .ref wd₁.s.heap.objs.size ∧ s' = { wd₁.s with heap := wd₁.s.heap.push oI } ∧ oI.isFreed = false ∧ Sup σ.base wd₁.news ax oax ∧ RepL wd₁.S items vs ∧
    ItS g.prog g.w σ.A wd₁.s.heap.objs.size ax items St ∧ ∀ h', (∀ b ob, (wd₁.s.heap.push oI).get? b = some ob → h'.get? b = some ob) → St 0 h') (E := E) ?_ (fun itv s' hf => ?_) fun _ _ x => x))
  · refine wpC_of ?_
    rcases hv with rfl | rfl
    · obtain ⟨a, o, items, n, rfl, hS, hc, hd, rs⟩ : ∃ a o items n, vx = .ref a ∧ wd₁.S a o ∧ o.cls = .type "tuple" ∧ o.data = .seq (List.toArray items) n ∧ RepL wd₁.S items vs := by
        cases rv with
        | tup h1 h2 h3 h4 => exact ⟨_, _, _, _, rfl, h1, h2, h3, h4⟩
      have hT : wd₁.s.heap.IsTuple a items.toArray := ⟨_, Sup.heap wd₁ hS, hc, _, hd⟩
      have hlt : a ≠ wd₁.s.heap.objs.size := Nat.ne_of_lt (Heap.lt_size (Sup.heap wd₁ hS))
      refine wpAny_pyIter_tuple hT ⟨a, o, _, items, _, rfl, rfl, rfl, hS, rs, its_tuple (show σ.A.handled = none from rfl) hlt, fun h' hk => ⟨⟨_, hk _ _ (Heap.get?_push_size _ rfl), rfl, rfl⟩, ?_⟩⟩
      exact ⟨_, hk _ _ (Heap.get?_push_of_some _ (Sup.heap wd₁ hS)), hc, _, hd⟩
    · obtain ⟨a, o, items, n, rfl, hS, hc, hd, rs⟩ : ∃ a o items n, vx = .ref a ∧ wd₁.S a o ∧ o.cls = .type "list" ∧ o.data = .seq (List.toArray items) n ∧ RepL wd₁.S items vs := by
        cases rv with
        | lst h1 h2 h3 h4 => exact ⟨_, _, _, _, rfl, h1, h2, h3, h4⟩
      have hT : wd₁.s.heap.IsList a items.toArray := ⟨_, Sup.heap wd₁ hS, hc, _, hd⟩
      have hlt : a ≠ wd₁.s.heap.objs.size := Nat.ne_of_lt (Heap.lt_size (Sup.heap wd₁ hS))
      refine wpAny_pyIter_list hT ⟨a, o, _, items, _, rfl, rfl, rfl, hS, rs, its_list (show σ.A.handled = none from rfl) hlt, fun h' hk => ⟨⟨_, hk _ _ (Heap.get?_push_size _ rfl), rfl, rfl⟩, ?_⟩⟩
      exact ⟨_, hk _ _ (Heap.get?_push_of_some _ (Sup.heap wd₁ hS)), hc, _, hd⟩
  obtain ⟨ax, oax, oI, items, St, rfl, rfl, hfr, hax, hrep, it, hSt⟩ := hf
  simp only [Option.isSome_none, Bool.false_eq_true, if_false]
  refine wpC_bind (wpC_of (wpAny_newObj_type ?_))
  refine wpC_bind (wpC_pure ?_)
  refine wpC_bind (wpC_of (wpAny_newFunctionEnv hcell (by intro y hy; cases hy) (fun h₁ hns hsb => ?_) hkind))
  have eC : ((wd₁.s.heap.push oI).push (lstO [])).objs.size = wd₁.s.heap.objs.size + 2 := by rw [Heap.size_push, Heap.size_push]
  have eD : (wd₁.s.heap.push oI).objs.size = wd₁.s.heap.objs.size + 1 := Heap.size_push ..
  obtain ⟨wdS, e1, X0, hI, h₀⟩ := comp_world (sc := sc) (cl := cl) (ns := ns) (gs := gs) (hok := hok ((wd₁.s.heap.push oI).push (lstO [])).objs.size) (mC := fun x => ([] : List (Str × Value)).reverse.lookup x) (h₁ := h₁) (tk₁ := wd₁.s.toks) wd₁ tk₁ hfr eC eD hns (fun b ob hb e => hsb.extBut b ob hb (Heap.get?_push_of_some _ e)) (Nat.le_refl _)
  dsimp only
  have henv : ({ newEnv scope ((wd₁.s.heap.push oI).push (lstO [])).objs.size σ.env.globals cl σ.env.qual none .none (some σ.env) 0 with scope := relabel scope σ.env } : Env) = (σ.inner (hok ((wd₁.s.heap.push oI).push (lstO [])).objs.size)).env := by rw [hrel, eenv]; rfl
  have es : ({ wd₁.s with heap := h₁, toks := wd₁.s.toks } : Shared) = wdS.s := e1.symm
  have hIC : wd₁.s.heap.objs.size ≠ ((wd₁.s.heap.push oI).push (lstO [])).objs.size := by rw [eC]; exact Nat.ne_of_lt (by omega)
  have hID : wd₁.s.heap.objs.size ≠ (wd₁.s.heap.push oI).objs.size := by rw [eD]; exact Nat.ne_of_lt (by omega)
  have hSt0 : St 0 wdS.s.heap := by
    rw [e1]
    exact hSt h₁ fun b ob e => hsb.extBut b ob (Nat.ne_of_lt (Nat.lt_of_lt_of_le (Heap.lt_size e) (by
      show (wd₁.s.heap.push oI).objs.size ≤ ((wd₁.s.heap.push oI).push (lstO [])).objs.size
      rw [eC, Heap.size_push]; omega))) (Heap.get?_push_of_some _ (Heap.get?_push_of_some _ e))
  refine wpC_holding (wpC_bind (wpC_attempt (wpC_holding ?_)))
  refine wpC_mono (Q := fun fl s' => ∃ wd' : Wd (σ.inner (hok ((wd₁.s.heap.push oI).push (lstO [])).objs.size)), s' = wd'.s ∧ CSt wd₁ ((wd₁.s.heap.push oI).push (lstO [])).objs.size (wd₁.s.heap.push oI).objs.size [] wd' ys) (E := fun _ _ => False) (wpC_run ?_) (fun fl s' hh => ?_) (fun _ _ x => x.elim)
  · have := codeC_compStart (prog := g.prog) (w := g.w) (A := σ.A) (s := wdS.s) (R := fun r s' => match r with | .ok f => ∃ wd' : Wd (σ.inner (hok ((wd₁.s.heap.push oI).push (lstO [])).objs.size)), s' = wd'.s ∧ CSt wd₁ ((wd₁.s.heap.push oI).push (lstO [])).objs.size (wd₁.s.heap.push oI).objs.size [] wd' ys | .error e => False) (elt := elt) (gens := ⟨target, iter, [], 0⟩ :: more) (scope := scope) (pos := pos) (dp := 0) (it := .ref wd₁.s.heap.objs.size) (acc := .ref (wd₁.s.heap.push oI).objs.size) (env := (σ.inner (hok ((wd₁.s.heap.push oI).push (lstO [])).objs.size)).env) rfl
      (hrun wd₁ _ _ _ ax items St oax oI wdS it lo₁ hax hrep h₀ hIC hID X0 hI hSt0 _ fun wd' hX => ⟨wd', rfl, hX⟩) (it.W.self 0 _ _ _ hSt0 ⟨rfl, rfl⟩)
    rw [← henv, ← es] at this
    exact this
  · obtain ⟨wd', rfl, X'⟩ := hh
    obtain ⟨oC, m, k1, k2, -⟩ := X'.ns
    obtain ⟨es', ep, j1, j2, j3⟩ := k2
    obtain ⟨vals, i1, i2⟩ := X'.acc
    have hn : wd'.s.heap.Ns ((wd₁.s.heap.push oI).push (lstO [])).objs.size m := ⟨oC, es', ep, (wd'.N _ k1).1, j1, j2, j3⟩
    have hnt : ¬ TupO oC := fun t => by obtain ⟨_, _, _, e⟩ := t; rw [j1] at e; cases e
    refine wpC_bind (wpC_holding (wpC_of (wpAny_comp_letGo (cenv := { newEnv scope ((wd₁.s.heap.push oI).push (lstO [])).objs.size σ.env.globals cl σ.env.qual none .none (some σ.env) 0 with scope := relabel scope σ.env }) hkind _ _ m (fun x hx hl => lookup_relabel_local (hnames x (List.mem_filter.mp (List.mem_reverse.mp hx)).1 hl)) hn fun h' m' _ hs' => ?_)))
    refine wpC_pure ?_
    have hk : ∀ b ob, b ≠ ((wd₁.s.heap.push oI).push (lstO [])).objs.size → wd'.s.heap.get? b = some ob → h'.get? b = some ob := fun b ob hb e => (hs'.2 b hb).trans e
    let wdF : Wd σ := ⟨{ wd'.s with heap := h' }, wd'.m, cut ((wd₁.s.heap.push oI).push (lstO [])).objs.size wd'.news, wd'.gr, wd'.U, fr_poke wd'.F (wd'.N _ k1).2.1 (wd'.N _ k1).2.2 hk, news_cut wd'.N hk⟩
    obtain ⟨h0, tk0, e0⟩ := X'.st
    have full : ∀ q ∈ wd₁.news, q ∈ wdF.news := fun q hq => cut_mem (X'.keep q hq) (X'.hC q hq)
    have le1 : wd₁.le wdF := .of ⟨h', tk0, by show ({ wd'.s with heap := h' } : Shared) = _; rw [e0]⟩ full X'.mm
    refine hQ _ wdF ρ₁ (l₁.trans le1) (lo₁.of X'.mm full) ⟨.lst ys, .lst (.inl (cut_mem i1 (Ne.symm X'.ne))) rfl rfl (RepL.flat (fun a ob hS hT => hS.imp (fun hS => cut_mem hS fun e => ?_) id) i2 X'.flat), h⟩
    have e : a = _ := e
    subst e
    exact hnt (news_fun wd'.N k1 hS ▸ hT)
theorem at_compU {σ : Sit g f d} {wd : Wd σ} {elt iter target : Expr} {more : List Comprehension} {scope : Scope} {pos : Pos} {vs ys : List V}
    (hiter : Ev g f d iter ρ (fun v ρ₁ => ρ₁ = ρ ∧ (v = .tup vs ∨ v = .lst vs)) X) (hcomp : f.comp = none)
    (hclos : closureFor scope σ.env = pure cl) (hrel : relabel scope σ.env = sc) (hcell : ∀ y ∈ scope.names, y.2 ≠ .cell) (hkind : scope.kind = .function)
    (hnames : ∀ y ∈ scope.names, y.2 = .local → scope.names.lookup y.1 = some .local) (hok : ∀ C, (f.inner sc cl C ns gs).Ok)
    (hrun : ∀ (wd₀ : Wd σ) (C D I ax : Addr) (items : List Value) (St : Nat → Heap → Prop) (oax oI : Obj) (wdS : Wd (σ.inner (hok C))), ItS g.prog g.w σ.A I ax items St → LocOk wd₀ ρ → Sup σ.base wd₀.news ax oax → RepL wd₀.S items vs →
      (∀ q ∈ wd₀.news, q.1 ≠ I) → I ≠ C → I ≠ D → CSt wd₀ C D [] wdS [] → (I, oI) ∈ wdS.news → St 0 wdS.s.heap → ∀ R : Result → Shared → Prop, (∀ wd' : Wd (σ.inner (hok C)), CSt wd₀ C D [] wd' ys → R (.ok .next) wd'.s) →
      codeC g.M σ.A (.compLoop (.ListComp elt (⟨target, iter, [], 0⟩ :: more) scope pos) 0 (.ref I) (.ref D) (σ.inner (hok C)).env) R wdS.s)
    {u : Value → Sem Unit} {Θ : Loc → Prop} (hu : ∀ (wd' : Wd σ) (val : Value), Rep wd'.S val (.lst ys) → At σ wd' ρ (u val) (fun _ _ ρ' => Θ ρ') X) (hown : f.cl = [] ∨ f.own = true) (hs : ∀ env x, foldedSetIterable iter env x = pure x) :
    At σ wd ρ (comprehension (.ListComp elt (⟨target, iter, [], 0⟩ :: more) scope pos) scope σ.env (firstIterPos (⟨target, iter, [], 0⟩ :: more) pos) (newList []) (firstAsync (⟨target, iter, [], 0⟩ :: more)) (firstIter (⟨target, iter, [], 0⟩ :: more) σ.env) (some u)) (fun _ _ ρ' => Θ ρ') X := fun l Q E hQ hX tk => by
  have eenv : σ.env = σ.fenv := by unfold Sit.env FI.env; rw [hcomp]
  unfold comprehension
  rw [hclos]
  show wpC _ _ (eval iter σ.env >>= _) _ _ _
  refine wpC_bind ((hiter σ wd).run l (fun vx wd₁ ρ₁ l₁ lo₁ ⟨v, rv, e, hv⟩ tk₁ => ?_) hX tk)
  subst e
  refine wpC_stand ?_
  show wpC _ _ (foldedSetIterable iter σ.env vx >>= _) _ _ _
  rw [hs]
  refine wpC_bind (wpC_pure ?_)
  refine wpC_bind (wpC_holding (wpC_mono (Q := fun itv s' => ∃ (ax : Addr) (oax oI : Obj) (items : List Value) (St : Nat → Heap → Prop), itv = .ref wd₁.s.heap.objs.size ∧ s' = { wd₁.s with heap := wd₁.s.heap.push oI } ∧ oI.isFreed = false ∧ Sup σ.base wd₁.news ax oax ∧ RepL wd₁.S items vs ∧
    ItS g.prog g.w σ.A wd₁.s.heap.objs.size ax items St ∧ ∀ h', (∀ b ob, (wd₁.s.heap.push oI).get? b = some ob → h'.get? b = some ob) → St 0 h') (E := E) ?_ (fun itv s' hf => ?_) fun _ _ x => x))
  · refine wpC_of ?_
    rcases hv with rfl | rfl
    · obtain ⟨a, o, items, n, rfl, hS, hc, hd, rs⟩ : ∃ a o items n, vx = .ref a ∧ wd₁.S a o ∧ o.cls = .type "tuple" ∧ o.data = .seq (List.toArray items) n ∧ RepL wd₁.S items vs := by
        cases rv with
        | tup h1 h2 h3 h4 => exact ⟨_, _, _, _, rfl, h1, h2, h3, h4⟩
      have hT : wd₁.s.heap.IsTuple a items.toArray := ⟨_, Sup.heap wd₁ hS, hc, _, hd⟩
      have hlt : a ≠ wd₁.s.heap.objs.size := Nat.ne_of_lt (Heap.lt_size (Sup.heap wd₁ hS))
      refine wpAny_pyIter_tuple hT ⟨a, o, _, items, _, rfl, rfl, rfl, hS, rs, its_tuple (show σ.A.handled = none from rfl) hlt, fun h' hk => ⟨⟨_, hk _ _ (Heap.get?_push_size _ rfl), rfl, rfl⟩, ?_⟩⟩
      exact ⟨_, hk _ _ (Heap.get?_push_of_some _ (Sup.heap wd₁ hS)), hc, _, hd⟩
    · obtain ⟨a, o, items, n, rfl, hS, hc, hd, rs⟩ : ∃ a o items n, vx = .ref a ∧ wd₁.S a o ∧ o.cls = .type "list" ∧ o.data = .seq (List.toArray items) n ∧ RepL wd₁.S items vs := by
        cases rv with
        | lst h1 h2 h3 h4 => exact ⟨_, _, _, _, rfl, h1, h2, h3, h4⟩
      have hT : wd₁.s.heap.IsList a items.toArray := ⟨_, Sup.heap wd₁ hS, hc, _, hd⟩
      have hlt : a ≠ wd₁.s.heap.objs.size := Nat.ne_of_lt (Heap.lt_size (Sup.heap wd₁ hS))
      refine wpAny_pyIter_list hT ⟨a, o, _, items, _, rfl, rfl, rfl, hS, rs, its_list (show σ.A.handled = none from rfl) hlt, fun h' hk => ⟨⟨_, hk _ _ (Heap.get?_push_size _ rfl), rfl, rfl⟩, ?_⟩⟩
      exact ⟨_, hk _ _ (Heap.get?_push_of_some _ (Sup.heap wd₁ hS)), hc, _, hd⟩
  obtain ⟨ax, oax, oI, items, St, rfl, rfl, hfr, hax, hrep, it, hSt⟩ := hf
  simp only [Option.isSome_some, if_true]
  refine wpC_stand ?_
  refine wpC_bind (wpC_of (wpAny_newObj_type ?_))
  refine wpC_bind (wpC_pure ?_)
  refine wpC_bind (wpC_of (wpAny_newFunctionEnv hcell (by intro y hy; cases hy) (fun h₁ hns hsb => ?_) hkind))
  have eC : ((wd₁.s.heap.push oI).push (lstO [])).objs.size = wd₁.s.heap.objs.size + 2 := by rw [Heap.size_push, Heap.size_push]
  have eD : (wd₁.s.heap.push oI).objs.size = wd₁.s.heap.objs.size + 1 := Heap.size_push ..
  obtain ⟨wdS, e1, X0, hI, h₀⟩ := comp_world (sc := sc) (cl := cl) (ns := ns) (gs := gs) (hok := hok ((wd₁.s.heap.push oI).push (lstO [])).objs.size) (mC := fun x => ([] : List (Str × Value)).reverse.lookup x) (h₁ := h₁) (tk₁ := wd₁.s.toks) wd₁ tk₁ hfr eC eD hns (fun b ob hb e => hsb.extBut b ob hb (Heap.get?_push_of_some _ e)) (Nat.le_refl _)
  dsimp only
  have henv : ({ newEnv scope ((wd₁.s.heap.push oI).push (lstO [])).objs.size σ.env.globals cl σ.env.qual none .none (some σ.env) 0 with scope := relabel scope σ.env } : Env) = (σ.inner (hok ((wd₁.s.heap.push oI).push (lstO [])).objs.size)).env := by rw [hrel, eenv]; rfl
  have es : ({ wd₁.s with heap := h₁, toks := wd₁.s.toks } : Shared) = wdS.s := e1.symm
  have hIC : wd₁.s.heap.objs.size ≠ ((wd₁.s.heap.push oI).push (lstO [])).objs.size := by rw [eC]; exact Nat.ne_of_lt (by omega)
  have hID : wd₁.s.heap.objs.size ≠ (wd₁.s.heap.push oI).objs.size := by rw [eD]; exact Nat.ne_of_lt (by omega)
  have hSt0 : St 0 wdS.s.heap := by
    rw [e1]
    exact hSt h₁ fun b ob e => hsb.extBut b ob (Nat.ne_of_lt (Nat.lt_of_lt_of_le (Heap.lt_size e) (by
      show (wd₁.s.heap.push oI).objs.size ≤ ((wd₁.s.heap.push oI).push (lstO [])).objs.size
      rw [eC, Heap.size_push]; omega))) (Heap.get?_push_of_some _ (Heap.get?_push_of_some _ e))
  refine wpC_holding (wpC_bind (wpC_attempt (wpC_holding ?_)))
  refine wpC_mono (Q := fun fl s' => ∃ wd' : Wd (σ.inner (hok ((wd₁.s.heap.push oI).push (lstO [])).objs.size)), s' = wd'.s ∧ CSt wd₁ ((wd₁.s.heap.push oI).push (lstO [])).objs.size (wd₁.s.heap.push oI).objs.size [] wd' ys) (E := fun _ _ => False) (wpC_run ?_) (fun fl s' hh => ?_) (fun _ _ x => x.elim)
  · have := codeC_compStart (prog := g.prog) (w := g.w) (A := σ.A) (s := wdS.s) (R := fun r s' => match r with | .ok f => ∃ wd' : Wd (σ.inner (hok ((wd₁.s.heap.push oI).push (lstO [])).objs.size)), s' = wd'.s ∧ CSt wd₁ ((wd₁.s.heap.push oI).push (lstO [])).objs.size (wd₁.s.heap.push oI).objs.size [] wd' ys | .error e => False) (elt := elt) (gens := ⟨target, iter, [], 0⟩ :: more) (scope := scope) (pos := pos) (dp := 0) (it := .ref wd₁.s.heap.objs.size) (acc := .ref (wd₁.s.heap.push oI).objs.size) (env := (σ.inner (hok ((wd₁.s.heap.push oI).push (lstO [])).objs.size)).env) rfl
      (hrun wd₁ _ _ _ ax items St oax oI wdS it lo₁ hax hrep h₀ hIC hID X0 hI hSt0 _ fun wd' hX => ⟨wd', rfl, hX⟩) (it.W.self 0 _ _ _ hSt0 ⟨rfl, rfl⟩)
    rw [← henv, ← es] at this
    exact this
  · obtain ⟨wd', rfl, X'⟩ := hh
    obtain ⟨oC, m, k1, k2, -⟩ := X'.ns
    obtain ⟨es', ep, j1, j2, j3⟩ := k2
    obtain ⟨vals, i1, i2⟩ := X'.acc
    have hn : wd'.s.heap.Ns ((wd₁.s.heap.push oI).push (lstO [])).objs.size m := ⟨oC, es', ep, (wd'.N _ k1).1, j1, j2, j3⟩
    have hnt : ¬ TupO oC := fun t => by obtain ⟨_, _, _, e⟩ := t; rw [j1] at e; cases e
    -- the outer frame's store
    let wdO : Wd σ := wd'.outer
    have fullO : ∀ q ∈ wd₁.news, q ∈ wdO.news := X'.keep
    obtain ⟨h0, tk0, e0⟩ := X'.st
    have leO : wd₁.le wdO := .of ⟨h0, tk0, e0⟩ fullO X'.mm
    have loO : LocOk wdO ρ₁ := lo₁.of X'.mm fullO
    have hmut : ((wd₁.s.heap.push oI).push (lstO [])).objs.size ∉ f.mut := fun hm => by
      unfold FI.mut at hm
      rcases List.mem_append.mp hm with hm | hm
      · split at hm
        · rename_i ho
          obtain ⟨q, hq, e⟩ := List.mem_map.mp hm
          obtain ⟨o, v, k1, _⟩ := lo₁.cel ho q hq
          exact X'.hC _ k1 e
        · cases hm
      · obtain ⟨q, hq, e⟩ := List.mem_map.mp hm
        obtain ⟨ps, k1, _⟩ := lo₁.tab q hq
        exact X'.hC _ k1 e
    have goO : wdO.Go := ⟨X'.go.1, fun q hq => fullO _ (tk₁.2 q hq)⟩
    have hX' : X → ∀ e h' tk', Flies σ wdO e h' → E (.ref e) { wdO.s with heap := h', toks := tk' } := fun hx e h' tk' fl => by
      obtain ⟨hh, tk2, e2⟩ := (l₁.trans leO).st
      have := hX hx e h' tk' (fl.of_le (l₁.trans leO))
      rw [e2]
      exact this
    refine wpC_bind (wpC_of (wpAny_rule ?_)) 
    refine wpC_bind (wpC_holding ((hu wdO _ (.lst (.inl i1) rfl rfl i2)).run loO (fun _ wd2 ρ2 l2 lo2 hΘ tk2 => ?_) hX' goO))
    have k1' : (((wd₁.s.heap.push oI).push (lstO [])).objs.size, oC) ∈ wd2.news := l2.nw _ k1 (.inl hmut)
    have hn2 : wd2.s.heap.Ns ((wd₁.s.heap.push oI).push (lstO [])).objs.size m := ⟨oC, es', ep, (wd2.N _ k1').1, j1, j2, j3⟩
    refine wpC_bind (wpC_of (wpAny_comp_letGo (cenv := { newEnv scope ((wd₁.s.heap.push oI).push (lstO [])).objs.size σ.env.globals cl σ.env.qual none .none (some σ.env) 0 with scope := relabel scope σ.env }) hkind _ _ m (fun x hx hl => lookup_relabel_local (hnames x (by
      rcases List.mem_append.mp hx with hx | hx
      · exact (List.mem_filter.mp (List.mem_reverse.mp (List.mem_of_mem_drop hx))).1
      · exact (List.mem_filter.mp (List.mem_reverse.mp (List.mem_of_mem_take hx))).1) hl)) hn2 fun h' m' _ hs' => ?_))
    refine wpC_pure ?_
    have hk : ∀ b ob, b ≠ ((wd₁.s.heap.push oI).push (lstO [])).objs.size → wd2.s.heap.get? b = some ob → h'.get? b = some ob := fun b ob hb e => (hs'.2 b hb).trans e
    let wdF : Wd σ := ⟨{ wd2.s with heap := h' }, wd2.m, cut ((wd₁.s.heap.push oI).push (lstO [])).objs.size wd2.news, wd2.gr, wd2.U, fr_poke wd2.F (wd2.N _ k1').2.1 (wd2.N _ k1').2.2 hk, news_cut wd2.N hk⟩
    obtain ⟨h2, tk2', e2⟩ := (leO.trans l2).st
    have leF : wd₁.le wdF := ⟨⟨h', tk2', by show ({ wd2.s with heap := h' } : Shared) = _; rw [e2]⟩, fun q hq hst => cut_mem ((leO.trans l2).nw q hq hst) (X'.hC q hq), (leO.trans l2).mm⟩
    have hns : ¬ SeqO oC := fun t => by obtain ⟨_, _, e⟩ := t; rw [j1] at e; cases e
    have subF : ∀ c o, wd2.S c o → SeqO o → wdF.S c o := fun c o hS hq => hS.imp (fun hS => cut_mem hS (by
      intro e
      have e : c = ((wd₁.s.heap.push oI).push (lstO [])).objs.size := e
      subst e
      exact hns (news_fun wd2.N k1' hS ▸ hq))) id
    have ecl : f.cells = f.cl := by unfold FI.cells; rw [hcomp]
    have nemut : ∀ x c, f.cl.lookup x = some c → c ≠ ((wd₁.s.heap.push oI).push (lstO [])).objs.size := fun x c hl e => by
      have hmem := mem_of_lookup hl
      have ho : f.own = true := hown.resolve_left fun e => by rw [e] at hmem; cases hmem
      refine hmut ?_
      rw [← e]
      unfold FI.mut
      rw [if_pos ho]
      exact List.mem_append_left _ (List.mem_map.mpr ⟨_, hmem, rfl⟩)
    have loF : LocOk wdF ρ2 := by
      refine ⟨fun y v hy => ?_, fun ho q hq => ?_, fun q hq => ?_⟩
      · have hH := lo2.loc y v hy
        unfold Holds at hH ⊢
        cases hcy : f.cells.lookup y with
        | some c =>
          rw [hcy] at hH
          obtain ⟨o, val, a1, a2, a3⟩ := hH
          exact ⟨o, val, cut_mem a1 (nemut y c (ecl ▸ hcy)), a2, a3.mono subF⟩
        | none =>
          rw [hcy, hcomp] at hH
          simp only
          rw [hcomp]
          obtain ⟨val, a1, a2⟩ := hH
          exact ⟨val, a1, a2.mono subF⟩
      · obtain ⟨o, v, a1, a2⟩ := lo2.cel ho q hq
        refine ⟨o, v, cut_mem a1 fun e => hmut ?_, a2⟩
        rw [← e]
        unfold FI.mut
        rw [if_pos ho]
        exact List.mem_append_left _ (List.mem_map.mpr ⟨_, hq, rfl⟩)
      · obtain ⟨ps, a1, a2, a3⟩ := lo2.tab q hq
        refine ⟨ps, cut_mem a1 fun e => hmut ?_, a2, fun pos cv e => ?_⟩
        · rw [← e]
          unfold FI.mut
          exact List.mem_append_right _ (List.mem_map.mpr ⟨_, hq, rfl⟩)
        · obtain ⟨c', oc, vs', t, b1, b2, b3, b4⟩ := a3 pos cv e
          refine ⟨c', oc, vs', t, b1, cut_mem b2 fun e => ?_, b3, b4⟩
          have e : c' = ((wd₁.s.heap.push oI).push (lstO [])).objs.size := e
          subst e
          have := news_fun wd2.N k1' b2
          rw [← this, j1] at b3; cases b3
    exact hQ _ wdF ρ2 (l₁.trans leF) loF hΘ
end

end
section


theorem RepL.getV {S : Addr → Obj → Prop} : ∀ {j : Nat} {vs : List Value} {xs : List V} {val : Value}, RepL S vs xs → vs[j]? = some val → ∃ x, xs[j]? = some x ∧ Rep S val x
  | _, _, _, _, .nil, h => by simp at h
  | 0, _, _, _, .cons a _, h => by simp at h; exact ⟨_, rfl, h ▸ a⟩
  | j + 1, _, _, _, .cons _ b, h => by simpa using RepL.getV (j := j) b (by simpa using h)
theorem gather {α β : Type} (F : α → List β) : ∀ vs : List α, ((List.range vs.length).map fun i => (vs[i]?).elim [] F).flatten = (vs.map F).flatten := by
  intro vs
  congr 1
  apply List.ext_getElem?
  intro i
  rw [List.getElem?_map, List.getElem?_map]
  by_cases h : i < vs.length
  · rw [List.getElem?_range h, List.getElem?_eq_getElem h]
    simp [List.getElem?_eq_getElem h]
  · rw [List.getElem?_eq_none (by simpa using h), List.getElem?_eq_none (Nat.not_lt.mp h)]
    rfl
theorem gather_len {α β : Type} {F : α → List β} {B : Nat} (hF : ∀ v, (F v).length ≤ B) (vs : List α) : ∀ i, (((List.range i).map fun i => (vs[i]?).elim [] F).flatten).length ≤ i * B := by
  intro i
  induction i with
  | zero => simp
  | succ i ih =>
    rw [List.range_succ, List.map_append, List.flatten_append, List.length_append, Nat.succ_mul]
    have : (([i].map fun i => (vs[i]?).elim [] F).flatten).length ≤ B := by
      simp only [List.map_cons, List.map_nil, List.flatten_cons, List.flatten_nil, List.append_nil]
      cases vs[i]? with
      | none => exact Nat.zero_le _
      | some v => exact hF v
    omega
theorem flat_one {α β : Type} (F : α → β) : ∀ vs : List α, (vs.map fun v => [F v]).flatten = vs.map F
  | [] => rfl
  | v :: vs => by rw [List.map_cons, List.flatten_cons, flat_one F vs]; rfl
theorem seq_ne {h₀ h : Heap} {L c : Addr} {l : Led} {o : Obj} {q : Addr × Obj} (N : News h₀ L h l) (hm : (c, o) ∈ l) (hns : ¬ SeqO o) (hq : q ∈ l) (hs : SeqO q.2) : q.1 ≠ c := fun e => by
  obtain ⟨q1, q2⟩ := q
  have e : q1 = c := e
  subst e
  exact hns (news_fun N hm hq ▸ hs)
section
variable {g : Glo} {f : FI} {d : Nat} {X : Prop} {ρ : Loc} {Ψ : V → Loc → Prop} {sc : Scope} {cl : List (Str × Addr)} {gs : List Str}
theorem load_cell {σ : Sit g f d} {wd : Wd σ} {y : Str} {c : Addr} {o : Obj} {val : Value} {Q : Value → Shared → Prop} {E : Value → Shared → Prop} (hy : y ∈ f.ns) (hc : f.cells.lookup y = some c) (hm : (c, o) ∈ wd.news) (hd : o.data = .cell (some val)) (h : Q val wd.s) : wpAny g.M σ.A (loadName σ.env y) Q E wd.s := by
  have hk := σ.ok.lc y hy
  have e1 := env_scope f σ.L
  have e2 := env_cells f σ.L
  rw [if_pos (List.mem_map.mpr ⟨_, mem_of_lookup hc, rfl⟩)] at hk
  have cell : wd.s.heap.IsCell c (some val) := ⟨o, (wd.N _ hm).1, hd⟩
  rcases hk.1 with hk1 | hk1
  · exact wpAny_loadName_cell (env := σ.env) σ.kind (by unfold Env.kindOf; rw [e1]; exact hk1) (by rw [e2]; exact hc) cell h
  · exact wpAny_loadName_free (env := σ.env) σ.kind (by unfold Env.kindOf; rw [e1]; exact hk1) (by rw [e2]; exact hc) cell h hk.2.2
/-- a new object beside the comprehension's state -/
theorem CSt.push {σ : Sit g f d} {C D : Addr} {ns : List Str} {hok : (f.inner sc cl C ns gs).Ok} {wd₀ : Wd σ} {fx : List (Str × Int)} {wd : Wd (σ.inner hok)} {ys : List V} (X : CSt wd₀ C D fx wd ys) {oI : Obj} (hfr : oI.isFreed = false) :
    ∃ wd' : Wd (σ.inner hok), wd'.s = { wd.s with heap := wd.s.heap.push oI } ∧ CSt wd₀ C D fx wd' ys ∧ (wd.s.heap.objs.size, oI) ∈ wd'.news ∧ (∀ q ∈ wd.news, q ∈ wd'.news) ∧ ∀ q ∈ wd.news, q.1 ≠ wd.s.heap.objs.size := by
  have hk : ∀ b o, wd.s.heap.get? b = some o → (wd.s.heap.push oI).get? b = some o := fun b o e => Heap.get?_push_of_some _ e
  have hL : σ.L < wd.s.heap.objs.size := wd.F.ns.lt
  have fresh : wd.gr.get? wd.s.heap.objs.size = none := by
    cases e : wd.gr.get? wd.s.heap.objs.size with
    | none => rfl
    | some o => exact absurd (Heap.lt_size (wd.F.keep _ _ e)) (Nat.lt_irrefl _)
  let wd' : Wd (σ.inner hok) := ⟨{ wd.s with heap := wd.s.heap.push oI }, wd.m, (wd.s.heap.objs.size, oI) :: wd.news, wd.gr, wd.U, wd.F.keeps hk, fun q hq => by
    rcases List.mem_cons.mp hq with rfl | hq
    · exact ⟨Heap.get?_push_size _ hfr, Nat.ne_of_gt hL, fresh⟩
    · exact ⟨hk _ _ (wd.N q hq).1, (wd.N q hq).2⟩⟩
  have full : ∀ q ∈ wd.news, q ∈ wd'.news := fun q hq => .tail _ hq
  obtain ⟨h, tk0, e⟩ := X.st
  obtain ⟨oC, m, k1, k2, k3⟩ := X.ns
  obtain ⟨vals, i1, i2⟩ := X.acc
  exact ⟨wd', rfl, ⟨⟨wd.s.heap.push oI, tk0, by show ({ wd.s with heap := _ } : Shared) = _; rw [e]⟩, X.mm, fun q hq => full _ (X.keep q hq), ⟨oC, m, full _ k1, k2, k3⟩, ⟨vals, full _ i1, i2.mono (Sup.mono full)⟩, X.flat, ⟨X.go.1, fun q hq => by cases hq⟩, X.hC, X.hD, X.ne⟩, .head _, full,
    fun q hq => Nat.ne_of_lt (Heap.lt_size (wd.N q hq).1)⟩
theorem CSt.le {σ : Sit g f d} {C D : Addr} {ns : List Str} {hok : (f.inner sc cl C ns gs).Ok} {wd₀ : Wd σ} {fx : List (Str × Int)} {wd wd1 : Wd (σ.inner hok)} {ys : List V} (X : CSt wd₀ C D fx wd ys) (l : wd.le wd1) (go : wd1.Go) : CSt wd₀ C D fx wd1 ys := by
  have full : ∀ q ∈ wd.news, q ∈ wd1.news := fun q hq => l.nw q hq (inner_stays q)
  obtain ⟨h, tk0, e⟩ := X.st
  obtain ⟨h1, tk1', e1⟩ := l.st
  obtain ⟨oC, m, k1, k2, k3⟩ := X.ns
  obtain ⟨vals, i1, i2⟩ := X.acc
  exact ⟨⟨h1, tk1', by rw [e1, e]⟩, (l.mm rfl).trans X.mm, fun q hq => full _ (X.keep q hq), ⟨oC, m, full _ k1, k2, k3⟩, ⟨vals, full _ i1, l.repL i2⟩, X.flat, go, X.hC, X.hD, X.ne⟩
theorem CSt.fewer {σ : Sit g f d} {C D : Addr} {ns : List Str} {hok : (f.inner sc cl C ns gs).Ok} {wd₀ : Wd σ} {fx fx' : List (Str × Int)} {wd : Wd (σ.inner hok)} {ys : List V} (X : CSt wd₀ C D fx wd ys) (h : ∀ q ∈ fx', q ∈ fx) : CSt wd₀ C D fx' wd ys := by
  obtain ⟨oC, m, k1, k2, k3⟩ := X.ns
  exact ⟨X.st, X.mm, X.keep, ⟨oC, m, k1, k2, fun q hq => k3 q (h q hq)⟩, X.acc, X.flat, X.go, X.hC, X.hD, X.ne⟩
/-- names from outside: cells of the frame around -/
def Outer (f : FI) (ρ : Loc) (cl : List (Str × Addr)) (cn : List Str) (ρc : Loc) : Prop := ∀ y u, GetN cn ρc y u → GetN f.ns ρ y u ∧ ∃ c, cl.lookup y = some c ∧ f.cl.lookup y = some c
theorem outer_holds {σ : Sit g f d} {C D : Addr} {ns cn : List Str} {ρc : Loc} {hok : (f.inner sc cl C ns gs).Ok} {wd₀ : Wd σ} {fx : List (Str × Int)} {wd : Wd (σ.inner hok)} {ys : List V} (X : CSt wd₀ C D fx wd ys) (l : LocOk wd₀ ρ) (hcomp : f.comp = none) (ho : Outer f ρ cl cn ρc)
    {y : Str} {u : V} (h : GetN cn ρc y u) : Holds wd y u := by
  obtain ⟨h1, c, h2, h3⟩ := ho y u h
  have hH := l.loc y u h1
  have ecl : f.cells = f.cl := by unfold FI.cells; rw [hcomp]
  unfold Holds at hH ⊢
  rw [ecl, h3] at hH
  obtain ⟨o, val, k1, k2, k3⟩ := hH
  show (match cl.lookup y with | some c => _ | none => _)
  rw [h2]
  exact ⟨o, val, X.keep _ k1, k2, k3.mono (Sup.mono X.keep)⟩
/-- one name, one loop -/
theorem ev_comp1 {elt iter : Expr} {x : Str} {px : Pos} {scope : Scope} {pos : Pos} {vs : List V} (F : V → V) (cn : List Str) (ρc : Loc)
    (hiter : Ev g f d iter ρ (fun v ρ₁ => ρ₁ = ρ ∧ (v = .tup vs ∨ v = .lst vs)) X) (hcomp : f.comp = none)
    (hclos : ∀ L, closureFor scope (f.env L) = pure cl) (hrel : ∀ L, relabel scope (f.env L) = sc) (hcell : ∀ y ∈ scope.names, y.2 ≠ .cell) (hkind : scope.kind = .function)
    (hnames : ∀ y ∈ scope.names, y.2 = .local → scope.names.lookup y.1 = some .local) (hok : ∀ C, (f.inner sc cl C (x :: cn) gs).Ok) (ho : Outer f ρ cl cn ρc)
    (hx : sc.names.lookup x = some .local) (hxc : cl.lookup x = none)
    (hel : ∀ C v, v ∈ vs → Ev g (f.inner sc cl C (x :: cn) gs) d elt (some v :: ρc) (fun y _ => y = F v) False) (hflat : ∀ v ∈ vs, (F v).flat = true) (hlen : vs.length ≤ 1000) (h : Ψ (.lst (vs.map F)) ρ)
    (hs : ∀ env x, foldedSetIterable iter env x = pure x := by intros; rfl) : Ev g f d (.ListComp elt [⟨.Name x px, iter, [], 0⟩] scope pos) ρ Ψ X := fun σ wd => by
  refine at_comp (vs := vs) (ys := vs.map F) (gs := gs) (ns := x :: cn) hiter hcomp (hclos _) (hrel _) hcell hkind hnames hok (fun wd₀ C D I ax items St oax oI wdS it lo hax hrep h₀ hIC hID X0 hI hSt R hR => ?_) h hs
  have hlenI := hrep.length
  refine comp_loop (p := iter.pos) (target := .Name x px) (body := eval elt (σ.inner (hok C)).env >>= fun x => call (.builtin "list.append") [.ref D, x] >>= fun _ => pure ()) (fun i => (vs[i]?).elim [] fun v => [F v]) (compTurn_list1 ..) it hax h₀ hIC hID (fun i val wd' ys hi hys X => ?_) X0 hI hSt (fun wd' X hk => hR wd' ?_)
  · obtain ⟨v, hv, rv⟩ := hrep.getV hi
    have rv' : Rep wd'.S val v := rv.mono (Sup.mono X.keep)
    obtain ⟨oC, m, k1, k2, k3⟩ := X.ns
    have hmem : v ∈ vs := List.mem_of_getElem? hv
    show wpC _ _ (do PySem.standAt px; bindName (σ.inner (hok C)).env x val) _ _ _
    refine wpC_stand (wpC_mono (comp_bind X k1 k2 k3 (fun q hq => by cases hq) hx) (fun _ s1 hb => ?_) fun _ _ x => x)
    obtain ⟨wd1, oC', rfl, X1, j1, j2, j3⟩ := hb
    have hne : (C, oC') ∈ wd1.news := j1
    have loc1 : LocOk wd1 (some v :: ρc) := ⟨fun y u hy => by
      cases hy with
      | here =>
        unfold Holds
        show (match cl.lookup x with | some c => _ | none => _)
        rw [hxc]
        refine ⟨oC', upd m x val, val, j1, j2, by simp [upd], ?_⟩
        exact rv.mono (Sup.mono X1.keep)
      | there hy => exact outer_holds X1 lo hcomp ho hy, (fun e => by cases e), (fun q hq => by cases hq)⟩
    have hi' : i < items.length := (List.getElem?_eq_some_iff.mp hi).1
    have hys : ys.length ≤ 1000000 := by
      have := gather_len (F := fun v => [F v]) (B := 1) (fun v => Nat.le_refl _) vs i
      rw [hys, List.nil_append]
      omega
    refine wpC_mono (comp_emit X1 loc1 (hel C v hmem) (hflat v hmem) hys) (fun _ s2 hh => ?_) fun _ _ x => x
    obtain ⟨wd2, rfl, X2, hk2⟩ := hh
    refine ⟨wd2, rfl, ?_, fun q hq hC hD => hk2 q (j3 q hq hC) hC hD⟩
    rw [hv]
    exact X2
  · rw [hlenI, gather] at X
    rw [flat_one] at X
    exact X

/-- two names, one loop -/
theorem ev_comp2 {elt iter : Expr} {a b : Str} {pa pb tp : Pos} {k : Nat} {scope : Scope} {pos : Pos} {ps : List (V × V)} (F : V × V → V)
    (hiter : Ev g f d iter ρ (fun v ρ₁ => ρ₁ = ρ ∧ (v = .tup (ps.map fun p => .tup [p.1, p.2]) ∨ v = .lst (ps.map fun p => .tup [p.1, p.2]))) X) (hcomp : f.comp = none)
    (hclos : ∀ L, closureFor scope (f.env L) = pure []) (hrel : ∀ L, relabel scope (f.env L) = sc) (hcell : ∀ y ∈ scope.names, y.2 ≠ .cell) (hkind : scope.kind = .function)
    (hnames : ∀ y ∈ scope.names, y.2 = .local → scope.names.lookup y.1 = some .local) (hok : ∀ C, (f.inner sc [] C [a, b] gs).Ok)
    (ha : sc.names.lookup a = some .local) (hb : sc.names.lookup b = some .local) (hab : a ≠ b)
    (hel : ∀ C p, p ∈ ps → Ev g (f.inner sc [] C [a, b] gs) d elt [some p.1, some p.2] (fun y _ => y = F p) False) (hflat : ∀ p ∈ ps, (F p).flat = true) (hlen : ps.length ≤ 1000) (h : Ψ (.lst (ps.map F)) ρ)
    (hs : ∀ env x, foldedSetIterable iter env x = pure x := by intros; rfl) : Ev g f d (.ListComp elt [⟨.Tuple [.Name a pa, .Name b pb] k tp, iter, [], 0⟩] scope pos) ρ Ψ X := fun σ wd => by
  refine at_comp (vs := ps.map fun p => .tup [p.1, p.2]) (ys := ps.map F) (gs := gs) (ns := [a, b]) hiter hcomp (hclos _) (hrel _) hcell hkind hnames hok (fun wd₀ C D I ax items St oax oI wdS it lo hax hrep h₀ hIC hID X0 hI hSt R hR => ?_) h hs
  have hlenI : items.length = ps.length := by rw [hrep.length, List.length_map]
  refine comp_loop (p := iter.pos) (target := .Tuple [.Name a pa, .Name b pb] k tp) (body := eval elt (σ.inner (hok C)).env >>= fun x => call (.builtin "list.append") [.ref D, x] >>= fun _ => pure ()) (fun i => (ps[i]?).elim [] fun v => [F v]) (compTurn_list1 ..) it hax h₀ hIC hID (fun i val wd' ys hi hys X => ?_) X0 hI hSt (fun wd' X hk => hR wd' ?_)
  · obtain ⟨v, hv, rv⟩ := hrep.getV hi
    rw [List.getElem?_map] at hv
    obtain ⟨p, hp, rfl⟩ : ∃ p, ps[i]? = some p ∧ V.tup [p.1, p.2] = v := by
      cases e : ps[i]? with
      | none => rw [e] at hv; cases hv
      | some p => rw [e] at hv; exact ⟨p, rfl, Option.some.inj hv⟩
    have rv' : Rep wd'.S val (.tup [p.1, p.2]) := rv.mono (Sup.mono X.keep)
    have hmem : p ∈ ps := List.mem_of_getElem? hp
    have hi' : i < items.length := (List.getElem?_eq_some_iff.mp hi).1
    have hys : ys.length ≤ 1000000 := by
      have := gather_len (F := fun v => [F v]) (B := 1) (fun v => Nat.le_refl _) ps i
      rw [hys, List.nil_append]
      omega
    have loc0 : LocOk wd' [none, none] := ⟨(fun y u hy => by
      cases hy with
      | there hy => cases hy with
        | there hy => cases hy), (fun e => by cases e), (fun q hq => by cases hq)⟩
    have hA : At (σ.inner (hok C)) wd' [none, none] (unpackItems val 2 none) (fun vals wd'' _ => RepL wd''.S vals [p.1, p.2]) False := at_unpack (vs := [p.1, p.2]) (.inl rv') rfl fun vals wd'' _ rs => rs
    show wpC _ _ (do PySem.standAt tp; unpack val (assignEach [.Name a pa, .Name b pb] (σ.inner (hok C)).env)) _ _ _
    refine wpC_stand ?_
    unfold unpack
    refine wpC_bind (wpC_holding (hA.run loc0 (fun vals wd1 ρ1 l1 lo1 rs tk1 => ?_) (fun x => x.elim) X.go))
    have X1 := X.le l1 tk1
    have full1 : ∀ q ∈ wd'.news, q ∈ wd1.news := fun q hq => l1.nw q hq (inner_stays q)
    obtain ⟨v1, v2, rfl, r1, r2⟩ : ∃ v1 v2, vals = [v1, v2] ∧ Rep wd1.S v1 p.1 ∧ Rep wd1.S v2 p.2 := by
      cases rs with
      | cons r1 rs => cases rs with
        | cons r2 rs => cases rs; exact ⟨_, _, rfl, r1, r2⟩
    obtain ⟨oC, m, k1, k2, k3⟩ := X1.ns
    show wpC _ _ (do PySem.holding [v2] (do PySem.standAt pa; bindName (σ.inner (hok C)).env a v1); (do PySem.holding [] (do PySem.standAt pb; bindName (σ.inner (hok C)).env b v2); Pure.pure ())) _ _ _
    refine wpC_bind (wpC_holding (wpC_stand (wpC_mono (comp_bind X1 k1 k2 k3 (fun q hq => by cases hq) ha) (fun _ s1 hbb => ?_) fun _ _ x => x)))
    obtain ⟨wd2, oC2, rfl, X2, i1, i2, i3⟩ := hbb
    refine wpC_bind (wpC_holding (wpC_stand (wpC_mono (comp_bind X2 i1 i2 (fun q hq => by cases hq) (fun q hq => by cases hq) hb) (fun _ s1 hbb => ?_) fun _ _ x => x)))
    obtain ⟨wd3, oC3, rfl, X3, j1, j2, j3⟩ := hbb
    refine wpC_pure ?_
    have hn0 : ∀ q ∈ wd1.news, q.1 ≠ C → q ∈ wd3.news := fun q hq hn => j3 q (i3 q hq hn) hn
    have hntC : ∀ q : Addr × Obj, q ∈ wd1.news → SeqO q.2 → q.1 ≠ C := fun q hq hsq => seq_ne wd1.N k1 (fun ⟨_, _, e2⟩ => by
      obtain ⟨es, ep, e1, _⟩ := k2
      rw [e1] at e2; cases e2) hq hsq
    have sub : ∀ c o, wd1.S c o → SeqO o → wd3.S c o := fun c o hS hq => hS.imp (fun hS => hn0 _ hS (hntC _ hS hq)) id
    have loc1 : LocOk wd3 [some p.1, some p.2] := ⟨(fun y u hy => by
      cases hy with
      | here =>
        show ∃ oC m val, (C, oC) ∈ wd3.news ∧ NsO oC m ∧ m a = some val ∧ Rep wd3.S val p.1
        exact ⟨oC3, _, v1, j1, j2, by simp [upd, hab], r1.mono sub⟩
      | there hy => cases hy with
        | here =>
          show ∃ oC m val, (C, oC) ∈ wd3.news ∧ NsO oC m ∧ m b = some val ∧ Rep wd3.S val p.2
          exact ⟨oC3, _, v2, j1, j2, by simp [upd], r2.mono sub⟩
        | there hy => cases hy), (fun e => by cases e), (fun q hq => by cases hq)⟩
    refine wpC_mono (comp_emit X3 loc1 (hel C p hmem) (hflat p hmem) hys) (fun _ s2 hh => ?_) fun _ _ x => x
    obtain ⟨wd4, rfl, X4, hk4⟩ := hh
    refine ⟨wd4, rfl, ?_, fun q hq hC hD => hk4 q (hn0 q (full1 q hq) hC) hC hD⟩
    rw [hp]
    exact X4
  · rw [hlenI, gather] at X
    rw [flat_one] at X
    exact X
theorem compTurn_two0 (elt t1 t2 iter1 iter2 : Expr) (scope : Scope) (pos : Pos) (it acc : Value) (env : Env) :
    compTurn (.ListComp elt [⟨t1, iter1, [], 0⟩, ⟨t2, iter2, [], 0⟩] scope pos) 0 it acc env = (standAt iter1.pos >>= fun _ => pyNext it >>= fun r => match r with
      | none => pure (.done .next)
      | some v => letOwnedTupleGo t1 it v >>= fun _ => assign t1 env v >>= fun _ => (eval iter2 env >>= fun x => standAt iter2.pos >>= fun _ => foldedSetIterable iter2 env x >>= fun x => holding [x] (pyIter x) >>= fun it2 =>
          runOwn (.compStart (.ListComp elt [⟨t1, iter1, [], 0⟩, ⟨t2, iter2, [], 0⟩] scope pos) 1 it2 acc env) env >>= fun _ => pure ()) >>= fun _ => again (.compLoop (.ListComp elt [⟨t1, iter1, [], 0⟩, ⟨t2, iter2, [], 0⟩] scope pos) 0 it acc env)) := by
  simp only [bind_assoc, pure_bind]
  rfl
theorem compTurn_two1 (elt t1 t2 iter1 iter2 : Expr) (scope : Scope) (pos : Pos) (it acc : Value) (env : Env) :
    compTurn (.ListComp elt [⟨t1, iter1, [], 0⟩, ⟨t2, iter2, [], 0⟩] scope pos) 1 it acc env = (standAt iter2.pos >>= fun _ => pyNext it >>= fun r => match r with
      | none => pure (.done .next)
      | some v => letOwnedTupleGo t2 it v >>= fun _ => assign t2 env v >>= fun _ => (eval elt env >>= fun x => call (.builtin "list.append") [acc, x] >>= fun _ => pure ()) >>= fun _ =>
          again (.compLoop (.ListComp elt [⟨t1, iter1, [], 0⟩, ⟨t2, iter2, [], 0⟩] scope pos) 1 it acc env)) := by rfl

/-- two loops over whole numbers -/
theorem ev_compN {elt iter : Expr} {a b y : Str} {pa pb py : Pos} {scope : Scope} {pos : Pos} {is js : List Int} (F : Int → Int → V) (cn : List Str) (ρc : Loc)
    (hiter : Ev g f d iter ρ (fun v ρ₁ => ρ₁ = ρ ∧ (v = .tup (is.map V.int) ∨ v = .lst (is.map V.int))) X) (hcomp : f.comp = none)
    (hclos : ∀ L, closureFor scope (f.env L) = pure cl) (hrel : ∀ L, relabel scope (f.env L) = sc) (hcell : ∀ y ∈ scope.names, y.2 ≠ .cell) (hkind : scope.kind = .function)
    (hnames : ∀ y ∈ scope.names, y.2 = .local → scope.names.lookup y.1 = some .local) (hok : ∀ C, (f.inner sc cl C (a :: b :: cn) gs).Ok) (ho : Outer f ρ cl cn ρc)
    (ha : sc.names.lookup a = some .local) (hac : cl.lookup a = none) (hb : sc.names.lookup b = some .local) (hbc : cl.lookup b = none) (hab : a ≠ b) (hy : GetN cn ρc y (.lst (js.map V.int)))
    (hel : ∀ C i j, i ∈ is → j ∈ js → Ev g (f.inner sc cl C (a :: b :: cn) gs) d elt (some (.int i) :: some (.int j) :: ρc) (fun v _ => v = F i j) False) (hflat : ∀ i j, (F i j).flat = true) (hlen : is.length ≤ 100) (hlen2 : js.length ≤ 100)
    (h : Ψ (.lst (is.map fun i => js.map fun j => F i j).flatten) ρ)
    (hs : ∀ env x, foldedSetIterable iter env x = pure x := by intros; rfl) : Ev g f d (.ListComp elt [⟨.Name a pa, iter, [], 0⟩, ⟨.Name b pb, .Name y py, [], 0⟩] scope pos) ρ Ψ X := fun σ wd => by
  refine at_comp (vs := is.map V.int) (ys := (is.map fun i => js.map fun j => F i j).flatten) (gs := gs) (ns := a :: b :: cn) hiter hcomp (hclos _) (hrel _) hcell hkind hnames hok (fun wd₀ C D I ax items St oax oI wdS it lo hax hrep h₀ hIC hID X0 hI hSt R hR => ?_) h hs
  have hlenI : items.length = is.length := by rw [hrep.length, List.length_map]
  refine comp_loop (p := iter.pos) (target := .Name a pa) (fun i => (is[i]?).elim [] fun i => js.map fun j => F i j) (compTurn_two0 ..) it hax h₀ hIC hID (fun i val wd' ys hi hys X => ?_) X0 hI hSt (fun wd' X hk => hR wd' ?_)
  · obtain ⟨v, hv, rv⟩ := hrep.getV hi
    rw [List.getElem?_map] at hv
    obtain ⟨x, hx, rfl⟩ : ∃ x, is[i]? = some x ∧ V.int x = v := by
      cases e : is[i]? with
      | none => rw [e] at hv; cases hv
      | some p => rw [e] at hv; exact ⟨p, rfl, Option.some.inj hv⟩
    obtain ⟨t, rfl⟩ : ∃ t, val = .int x t := by cases rv; exact ⟨_, rfl⟩
    have hmem : x ∈ is := List.mem_of_getElem? hx
    have hi' : i < items.length := (List.getElem?_eq_some_iff.mp hi).1
    have hys : ys.length ≤ 10000 := by
      have := gather_len (F := fun i => js.map fun j => F i j) (B := 100) (fun v => by rw [List.length_map]; exact hlen2) is i
      rw [hys, List.nil_append]
      omega
    obtain ⟨oC, m, k1, k2, k3⟩ := X.ns
    show wpC _ _ (do PySem.standAt pa; bindName (σ.inner (hok C)).env a (.int x t)) _ _ _
    refine wpC_stand (wpC_mono (comp_bind X k1 k2 k3 (fun q hq => by cases hq) ha) (fun _ s1 hbb => ?_) fun _ _ x => x)
    obtain ⟨wd1, oC', rfl, X1, j1, j2, j3⟩ := hbb
    obtain ⟨hy1, c, hy2, hy3⟩ := ho y _ hy
    have hH := lo.loc y _ hy1
    have ecl : f.cells = f.cl := by unfold FI.cells; rw [hcomp]
    unfold Holds at hH
    rw [ecl, hy3] at hH
    obtain ⟨oy, val2, m1, m2, r2⟩ := hH
    refine wpC_bind (wpC_of (wpAny_Name (load_cell (σ := σ.inner (hok C)) (wd := wd1) (.tail _ (.tail _ hy.mem)) hy2 (X1.keep _ m1) m2 ?_) ((σ.inner (hok C)).ok.lc y (.tail _ (.tail _ hy.mem))).2.1))
    refine wpC_stand ?_
    show wpC _ _ ((pure val2 : Sem Value) >>= _) _ _ _
    refine wpC_bind (wpC_pure ?_)
    obtain ⟨ax2, oax2, items2, n2, rfl, hS2, hc2, hd2, rs2⟩ : ∃ a o items n, val2 = .ref a ∧ wd₀.S a o ∧ o.cls = .type "list" ∧ o.data = .seq (List.toArray items) n ∧ RepL wd₀.S items (js.map V.int) := by
      cases r2 with
      | lst h1 h2 h3 h4 => exact ⟨_, _, _, _, rfl, h1, h2, h3, h4⟩
    have hS1 : wd1.S ax2 oax2 := hS2.imp (fun h => X1.keep _ h) id
    have hT2 : wd1.s.heap.IsList ax2 items2.toArray := ⟨_, Sup.heap wd1 hS1, hc2, _, hd2⟩
    refine wpC_bind (wpC_holding (wpC_of (wpAny_pyIter_list hT2 ?_)))
    have Xf : CSt wd₀ C D [(a, x)] wd1 ys := ⟨X1.st, X1.mm, X1.keep, ⟨oC', _, j1, j2, fun q hq => by
      rw [List.mem_singleton.mp hq]
      exact ⟨t, by simp [upd]⟩⟩, X1.acc, X1.flat, X1.go, X1.hC, X1.hD, X1.ne⟩
    obtain ⟨wd2, e2, X2, hI2, full2, ne2⟩ := Xf.push (oI := { cls := .type "list_iterator", data := .fields #[.ref ax2, .int 0 0] }) rfl
    have lt2 : ax2 ≠ wd1.s.heap.objs.size := Nat.ne_of_lt (Heap.lt_size (Sup.heap wd1 hS1))
    have hSt2 : wd2.s.heap.IsListIter wd1.s.heap.objs.size ax2 0 ∧ wd2.s.heap.IsList ax2 items2.toArray := ⟨⟨_, (wd2.N _ hI2).1, rfl, rfl⟩, ⟨_, Sup.heap wd2 (hS1.imp (fun h => full2 _ h) id), hc2, _, hd2⟩⟩
    have it2 := its_list (prog := g.prog) (w := g.w) (A := σ.A) (I := wd1.s.heap.objs.size) (ax := ax2) (items := items2) rfl lt2
    have hC2 : wd1.s.heap.objs.size ≠ C := fun e => ne2 _ j1 e.symm
    obtain ⟨vals1, v1, v2⟩ := X1.acc
    have hD2 : wd1.s.heap.objs.size ≠ D := fun e => ne2 _ v1 e.symm
    have h02 : ∀ q ∈ wd₀.news, q.1 ≠ wd1.s.heap.objs.size := fun q hq => ne2 q (X1.keep q hq)
    have hlen2' : items2.length = js.length := by rw [rs2.length, List.length_map]
    rw [show ({ wd1.s with heap := wd1.s.heap.push { cls := .type "list_iterator", data := .fields #[.ref ax2, .int 0 0] } } : Shared) = wd2.s from e2.symm]
    have inner : codeC g.M σ.A (.compLoop (.ListComp elt [⟨.Name a pa, iter, [], 0⟩, ⟨.Name b pb, .Name y py, [], 0⟩] scope pos) 1 (.ref wd1.s.heap.objs.size) (.ref D) (σ.inner (hok C)).env)
        (fun r s' => match r with | .ok _ => ∃ wd' : Wd (σ.inner (hok C)), s' = wd'.s ∧ CSt wd₀ C D [] wd' (ys ++ js.map fun j => F x j) ∧ ∀ q ∈ wd2.news, q.1 ≠ C → q.1 ≠ D → q.1 ≠ wd1.s.heap.objs.size → q ∈ wd'.news | .error _ => False) wd2.s := by
      refine comp_loop (p := (Expr.Name y py).pos) (target := .Name b pb) (body := eval elt (σ.inner (hok C)).env >>= fun x => call (.builtin "list.append") [.ref D, x] >>= fun _ => pure ()) (fun j => (js[j]?).elim [] fun j => [F x j]) (compTurn_two1 ..) it2 hS2 h02 hC2 hD2 (fun j valj wdj ysj hj hysj Xj => ?_) X2 hI2 hSt2 (fun wd' X' hk' => ⟨wd', rfl, ?_, hk'⟩)
      · obtain ⟨vj, hvj, rvj⟩ := rs2.getV hj
        rw [List.getElem?_map] at hvj
        obtain ⟨z, hz, rfl⟩ : ∃ z, js[j]? = some z ∧ V.int z = vj := by
          cases e : js[j]? with
          | none => rw [e] at hvj; cases hvj
          | some p => rw [e] at hvj; exact ⟨p, rfl, Option.some.inj hvj⟩
        obtain ⟨tj, rfl⟩ : ∃ t, valj = .int z t := by cases rvj; exact ⟨_, rfl⟩
        have hzm : z ∈ js := List.mem_of_getElem? hz
        have hj' : j < items2.length := (List.getElem?_eq_some_iff.mp hj).1
        have hysl : ysj.length ≤ 1000000 := by
          have := gather_len (F := fun j => [F x j]) (B := 1) (fun v => Nat.le_refl _) js j
          rw [hysj, List.length_append]
          omega
        obtain ⟨oCj, mj, kj1, kj2, kj3⟩ := Xj.ns
        obtain ⟨ta, hta⟩ := kj3 (a, x) (.head _)
        show wpC _ _ (do PySem.standAt pb; bindName (σ.inner (hok C)).env b (.int z tj)) _ _ _
        refine wpC_stand (wpC_mono (comp_bind Xj kj1 kj2 kj3 (fun q hq => by rw [List.mem_singleton.mp hq]; exact hab) hb) (fun _ s1 hbb => ?_) fun _ _ x => x)
        obtain ⟨wdk, oCk, rfl, Xk, n1, n2', n3⟩ := hbb
        have lock : LocOk wdk (some (.int x) :: some (.int z) :: ρc) := ⟨(fun w u hw => by
          cases hw with
          | here =>
            show (match cl.lookup a with | some c => _ | none => _)
            rw [hac]
            exact ⟨oCk, _, .int x ta, n1, n2', by simp [upd, hab]; exact hta, .int⟩
          | there hw => cases hw with
            | here =>
              show (match cl.lookup b with | some c => _ | none => _)
              rw [hbc]
              exact ⟨oCk, _, .int z tj, n1, n2', by simp [upd], .int⟩
            | there hw => exact outer_holds Xk lo hcomp ho hw), (fun e => by cases e), (fun q hq => by cases hq)⟩
        refine wpC_mono (comp_emit Xk lock (hel C x z hmem hzm) (hflat x z) hysl) (fun _ s2 hh => ?_) fun _ _ x => x
        obtain ⟨wdl, rfl, Xl, hkl⟩ := hh
        refine ⟨wdl, rfl, ?_, fun q hq hC hD => hkl q (n3 q hq hC) hC hD⟩
        rw [hz]
        exact Xl
      · rw [hlen2', gather, flat_one] at X'
        exact X'.fewer fun q hq => by cases hq
    unfold runOwn
    refine wpC_bind (wpC_onRaise (wpC_mono (E := fun _ _ => False) (wpC_run (codeC_compStart (dp := 1) rfl inner (it2.W.self 0 _ _ _ hSt2 ⟨rfl, rfl⟩))) (fun _ _ hh => ?_) fun _ _ x => x.elim))
    obtain ⟨wd3, rfl, X3, hk3⟩ := hh
    refine wpC_pure ⟨wd3, rfl, ?_, fun q hq hC hD => hk3 q (full2 q (j3 q hq hC)) hC hD (ne2 q (j3 q hq hC))⟩
    rw [hx]
    exact X3
  · rw [hlenI, gather] at X
    exact X
theorem ex_comp1 {t : Str} {tp spos : Pos} {Φ : Fl → Loc → Prop} {ρ'' : Loc} {elt iter : Expr} {x : Str} {px : Pos} {scope : Scope} {pos : Pos} {vs : List V} (F : V → V) (cn : List Str) (ρc : Loc)
    (hiter : Ev g f d iter ρ (fun v ρ₁ => ρ₁ = ρ ∧ (v = .tup vs ∨ v = .lst vs)) X) (hcomp : f.comp = none)
    (hclos : ∀ L, closureFor scope (f.env L) = pure cl) (hrel : ∀ L, relabel scope (f.env L) = sc) (hcell : ∀ y ∈ scope.names, y.2 ≠ .cell) (hkind : scope.kind = .function)
    (hnames : ∀ y ∈ scope.names, y.2 = .local → scope.names.lookup y.1 = some .local) (hok : ∀ C, (f.inner sc cl C (x :: cn) gs).Ok) (ho : Outer f ρ cl cn ρc)
    (hx : sc.names.lookup x = some .local) (hxc : cl.lookup x = none)
    (hel : ∀ C v, v ∈ vs → Ev g (f.inner sc cl C (x :: cn) gs) d elt (some v :: ρc) (fun y _ => y = F v) False) (hflat : ∀ v ∈ vs, (F v).flat = true) (hlen : vs.length ≤ 1000) (hset : SetN f.ws ρ t (.lst (vs.map F)) ρ'') (hΦ : Φ .next ρ'') (hown : f.cl = [] ∨ f.own = true) (hsw : ∀ L, swapsWith (.ListComp elt [⟨.Name x px, iter, [], 0⟩] scope pos) (some (.Name t tp)) spos.line (f.env L) = pure true)
    (hs : ∀ env x, foldedSetIterable iter env x = pure x := by intros; rfl) : Ex g f d (.Assign [.Name t tp] (.ListComp elt [⟨.Name x px, iter, [], 0⟩] scope pos) spos) ρ Φ X := fun σ wd => by
  rw [exec_Assign_Name_used _ _ _ _ (hsw _)]
  refine .stand (.bind (At.mono (R := fun _ _ ρ' => ρ' = ρ'') ?_ fun _ _ _ _ e => .pure ⟨_, .next, e ▸ hΦ⟩))
  refine (show At σ wd ρ (do let _ ← comprehension (.ListComp elt [⟨.Name x px, iter, [], 0⟩] scope pos) scope σ.env _ (newList []) false (eval iter σ.env) (some (assign (.Name t tp) σ.env))) _ _ from .bind (At.mono (R := fun _ _ ρ' => ρ' = ρ'') ?_ fun _ _ _ _ e => .pure e))
  refine at_compU (u := assign (.Name t tp) σ.env) (Θ := fun ρ' => ρ' = ρ'') (vs := vs) (ys := vs.map F) (gs := gs) (ns := x :: cn) hiter hcomp (hclos _) (hrel _) hcell hkind hnames hok (fun wd₀ C D I ax items St oax oI wdS it lo hax hrep h₀ hIC hID X0 hI hSt R hR => ?_) (fun wd' val rv => ?_) hown hs
  rotate_left
  · show At σ wd' ρ (do PySem.standAt tp; bindName σ.env t val) _ _
    exact .stand (at_bind rv hset fun _ _ => rfl)
  have hlenI := hrep.length
  refine comp_loop (p := iter.pos) (target := .Name x px) (body := eval elt (σ.inner (hok C)).env >>= fun x => call (.builtin "list.append") [.ref D, x] >>= fun _ => pure ()) (fun i => (vs[i]?).elim [] fun v => [F v]) (compTurn_list1 ..) it hax h₀ hIC hID (fun i val wd' ys hi hys X => ?_) X0 hI hSt (fun wd' X hk => hR wd' ?_)
  · obtain ⟨v, hv, rv⟩ := hrep.getV hi
    have rv' : Rep wd'.S val v := rv.mono (Sup.mono X.keep)
    obtain ⟨oC, m, k1, k2, k3⟩ := X.ns
    have hmem : v ∈ vs := List.mem_of_getElem? hv
    show wpC _ _ (do PySem.standAt px; bindName (σ.inner (hok C)).env x val) _ _ _
    refine wpC_stand (wpC_mono (comp_bind X k1 k2 k3 (fun q hq => by cases hq) hx) (fun _ s1 hb => ?_) fun _ _ x => x)
    obtain ⟨wd1, oC', rfl, X1, j1, j2, j3⟩ := hb
    have hne : (C, oC') ∈ wd1.news := j1
    have loc1 : LocOk wd1 (some v :: ρc) := ⟨fun y u hy => by
      cases hy with
      | here =>
        unfold Holds
        show (match cl.lookup x with | some c => _ | none => _)
        rw [hxc]
        refine ⟨oC', upd m x val, val, j1, j2, by simp [upd], ?_⟩
        exact rv.mono (Sup.mono X1.keep)
      | there hy => exact outer_holds X1 lo hcomp ho hy, (fun e => by cases e), (fun q hq => by cases hq)⟩
    have hi' : i < items.length := (List.getElem?_eq_some_iff.mp hi).1
    have hys : ys.length ≤ 1000000 := by
      have := gather_len (F := fun v => [F v]) (B := 1) (fun v => Nat.le_refl _) vs i
      rw [hys, List.nil_append]
      omega
    refine wpC_mono (comp_emit X1 loc1 (hel C v hmem) (hflat v hmem) hys) (fun _ s2 hh => ?_) fun _ _ x => x
    obtain ⟨wd2, rfl, X2, hk2⟩ := hh
    refine ⟨wd2, rfl, ?_, fun q hq hC hD => hk2 q (j3 q hq hC) hC hD⟩
    rw [hv]
    exact X2
  · rw [hlenI, gather] at X
    rw [flat_one] at X
    exact X

theorem ex_compN {t : Str} {tp spos : Pos} {Φ : Fl → Loc → Prop} {ρ'' : Loc} {elt iter : Expr} {a b y : Str} {pa pb py : Pos} {scope : Scope} {pos : Pos} {is js : List Int} (F : Int → Int → V) (cn : List Str) (ρc : Loc)
    (hiter : Ev g f d iter ρ (fun v ρ₁ => ρ₁ = ρ ∧ (v = .tup (is.map V.int) ∨ v = .lst (is.map V.int))) X) (hcomp : f.comp = none)
    (hclos : ∀ L, closureFor scope (f.env L) = pure cl) (hrel : ∀ L, relabel scope (f.env L) = sc) (hcell : ∀ y ∈ scope.names, y.2 ≠ .cell) (hkind : scope.kind = .function)
    (hnames : ∀ y ∈ scope.names, y.2 = .local → scope.names.lookup y.1 = some .local) (hok : ∀ C, (f.inner sc cl C (a :: b :: cn) gs).Ok) (ho : Outer f ρ cl cn ρc)
    (ha : sc.names.lookup a = some .local) (hac : cl.lookup a = none) (hb : sc.names.lookup b = some .local) (hbc : cl.lookup b = none) (hab : a ≠ b) (hy : GetN cn ρc y (.lst (js.map V.int)))
    (hel : ∀ C i j, i ∈ is → j ∈ js → Ev g (f.inner sc cl C (a :: b :: cn) gs) d elt (some (.int i) :: some (.int j) :: ρc) (fun v _ => v = F i j) False) (hflat : ∀ i j, (F i j).flat = true) (hlen : is.length ≤ 100) (hlen2 : js.length ≤ 100)
    (hset : SetN f.ws ρ t (.lst ((is.map fun i => js.map fun j => F i j).flatten)) ρ'') (hΦ : Φ .next ρ'') (hown : f.cl = [] ∨ f.own = true) (hsw : ∀ L, swapsWith (.ListComp elt [⟨.Name a pa, iter, [], 0⟩, ⟨.Name b pb, .Name y py, [], 0⟩] scope pos) (some (.Name t tp)) spos.line (f.env L) = pure true)
    (hs : ∀ env x, foldedSetIterable iter env x = pure x := by intros; rfl) : Ex g f d (.Assign [.Name t tp] (.ListComp elt [⟨.Name a pa, iter, [], 0⟩, ⟨.Name b pb, .Name y py, [], 0⟩] scope pos) spos) ρ Φ X := fun σ wd => by
  rw [exec_Assign_Name_used _ _ _ _ (hsw _)]
  refine .stand (.bind (At.mono (R := fun _ _ ρ' => ρ' = ρ'') ?_ fun _ _ _ _ e => .pure ⟨_, .next, e ▸ hΦ⟩))
  refine (show At σ wd ρ (do let _ ← comprehension (.ListComp elt [⟨.Name a pa, iter, [], 0⟩, ⟨.Name b pb, .Name y py, [], 0⟩] scope pos) scope σ.env _ (newList []) false (eval iter σ.env) (some (assign (.Name t tp) σ.env))) _ _ from .bind (At.mono (R := fun _ _ ρ' => ρ' = ρ'') ?_ fun _ _ _ _ e => .pure e))
  refine at_compU (u := assign (.Name t tp) σ.env) (Θ := fun ρ' => ρ' = ρ'') (vs := is.map V.int) (ys := (is.map fun i => js.map fun j => F i j).flatten) (gs := gs) (ns := a :: b :: cn) hiter hcomp (hclos _) (hrel _) hcell hkind hnames hok (fun wd₀ C D I ax items St oax oI wdS it lo hax hrep h₀ hIC hID X0 hI hSt R hR => ?_) (fun wd' val rv => ?_) hown hs
  rotate_left
  · show At σ wd' ρ (do PySem.standAt tp; bindName σ.env t val) _ _
    exact .stand (at_bind rv hset fun _ _ => rfl)
  have hlenI : items.length = is.length := by rw [hrep.length, List.length_map]
  refine comp_loop (p := iter.pos) (target := .Name a pa) (fun i => (is[i]?).elim [] fun i => js.map fun j => F i j) (compTurn_two0 ..) it hax h₀ hIC hID (fun i val wd' ys hi hys X => ?_) X0 hI hSt (fun wd' X hk => hR wd' ?_)
  · obtain ⟨v, hv, rv⟩ := hrep.getV hi
    rw [List.getElem?_map] at hv
    obtain ⟨x, hx, rfl⟩ : ∃ x, is[i]? = some x ∧ V.int x = v := by
      cases e : is[i]? with
      | none => rw [e] at hv; cases hv
      | some p => rw [e] at hv; exact ⟨p, rfl, Option.some.inj hv⟩
    obtain ⟨t, rfl⟩ : ∃ t, val = .int x t := by cases rv; exact ⟨_, rfl⟩
    have hmem : x ∈ is := List.mem_of_getElem? hx
    have hi' : i < items.length := (List.getElem?_eq_some_iff.mp hi).1
    have hys : ys.length ≤ 10000 := by
      have := gather_len (F := fun i => js.map fun j => F i j) (B := 100) (fun v => by rw [List.length_map]; exact hlen2) is i
      rw [hys, List.nil_append]
      omega
    obtain ⟨oC, m, k1, k2, k3⟩ := X.ns
    show wpC _ _ (do PySem.standAt pa; bindName (σ.inner (hok C)).env a (.int x t)) _ _ _
    refine wpC_stand (wpC_mono (comp_bind X k1 k2 k3 (fun q hq => by cases hq) ha) (fun _ s1 hbb => ?_) fun _ _ x => x)
    obtain ⟨wd1, oC', rfl, X1, j1, j2, j3⟩ := hbb
    obtain ⟨hy1, c, hy2, hy3⟩ := ho y _ hy
    have hH := lo.loc y _ hy1
    have ecl : f.cells = f.cl := by unfold FI.cells; rw [hcomp]
    unfold Holds at hH
    rw [ecl, hy3] at hH
    obtain ⟨oy, val2, m1, m2, r2⟩ := hH
    refine wpC_bind (wpC_of (wpAny_Name (load_cell (σ := σ.inner (hok C)) (wd := wd1) (.tail _ (.tail _ hy.mem)) hy2 (X1.keep _ m1) m2 ?_) ((σ.inner (hok C)).ok.lc y (.tail _ (.tail _ hy.mem))).2.1))
    refine wpC_stand ?_
    show wpC _ _ ((pure val2 : Sem Value) >>= _) _ _ _
    refine wpC_bind (wpC_pure ?_)
    obtain ⟨ax2, oax2, items2, n2, rfl, hS2, hc2, hd2, rs2⟩ : ∃ a o items n, val2 = .ref a ∧ wd₀.S a o ∧ o.cls = .type "list" ∧ o.data = .seq (List.toArray items) n ∧ RepL wd₀.S items (js.map V.int) := by
      cases r2 with
      | lst h1 h2 h3 h4 => exact ⟨_, _, _, _, rfl, h1, h2, h3, h4⟩
    have hS1 : wd1.S ax2 oax2 := hS2.imp (fun h => X1.keep _ h) id
    have hT2 : wd1.s.heap.IsList ax2 items2.toArray := ⟨_, Sup.heap wd1 hS1, hc2, _, hd2⟩
    refine wpC_bind (wpC_holding (wpC_of (wpAny_pyIter_list hT2 ?_)))
    have Xf : CSt wd₀ C D [(a, x)] wd1 ys := ⟨X1.st, X1.mm, X1.keep, ⟨oC', _, j1, j2, fun q hq => by
      rw [List.mem_singleton.mp hq]
      exact ⟨t, by simp [upd]⟩⟩, X1.acc, X1.flat, X1.go, X1.hC, X1.hD, X1.ne⟩
    obtain ⟨wd2, e2, X2, hI2, full2, ne2⟩ := Xf.push (oI := { cls := .type "list_iterator", data := .fields #[.ref ax2, .int 0 0] }) rfl
    have lt2 : ax2 ≠ wd1.s.heap.objs.size := Nat.ne_of_lt (Heap.lt_size (Sup.heap wd1 hS1))
    have hSt2 : wd2.s.heap.IsListIter wd1.s.heap.objs.size ax2 0 ∧ wd2.s.heap.IsList ax2 items2.toArray := ⟨⟨_, (wd2.N _ hI2).1, rfl, rfl⟩, ⟨_, Sup.heap wd2 (hS1.imp (fun h => full2 _ h) id), hc2, _, hd2⟩⟩
    have it2 := its_list (prog := g.prog) (w := g.w) (A := σ.A) (I := wd1.s.heap.objs.size) (ax := ax2) (items := items2) rfl lt2
    have hC2 : wd1.s.heap.objs.size ≠ C := fun e => ne2 _ j1 e.symm
    obtain ⟨vals1, v1, v2⟩ := X1.acc
    have hD2 : wd1.s.heap.objs.size ≠ D := fun e => ne2 _ v1 e.symm
    have h02 : ∀ q ∈ wd₀.news, q.1 ≠ wd1.s.heap.objs.size := fun q hq => ne2 q (X1.keep q hq)
    have hlen2' : items2.length = js.length := by rw [rs2.length, List.length_map]
    rw [show ({ wd1.s with heap := wd1.s.heap.push { cls := .type "list_iterator", data := .fields #[.ref ax2, .int 0 0] } } : Shared) = wd2.s from e2.symm]
    have inner : codeC g.M σ.A (.compLoop (.ListComp elt [⟨.Name a pa, iter, [], 0⟩, ⟨.Name b pb, .Name y py, [], 0⟩] scope pos) 1 (.ref wd1.s.heap.objs.size) (.ref D) (σ.inner (hok C)).env)
        (fun r s' => match r with | .ok _ => ∃ wd' : Wd (σ.inner (hok C)), s' = wd'.s ∧ CSt wd₀ C D [] wd' (ys ++ js.map fun j => F x j) ∧ ∀ q ∈ wd2.news, q.1 ≠ C → q.1 ≠ D → q.1 ≠ wd1.s.heap.objs.size → q ∈ wd'.news | .error _ => False) wd2.s := by
      refine comp_loop (p := (Expr.Name y py).pos) (target := .Name b pb) (body := eval elt (σ.inner (hok C)).env >>= fun x => call (.builtin "list.append") [.ref D, x] >>= fun _ => pure ()) (fun j => (js[j]?).elim [] fun j => [F x j]) (compTurn_two1 ..) it2 hS2 h02 hC2 hD2 (fun j valj wdj ysj hj hysj Xj => ?_) X2 hI2 hSt2 (fun wd' X' hk' => ⟨wd', rfl, ?_, hk'⟩)
      · obtain ⟨vj, hvj, rvj⟩ := rs2.getV hj
        rw [List.getElem?_map] at hvj
        obtain ⟨z, hz, rfl⟩ : ∃ z, js[j]? = some z ∧ V.int z = vj := by
          cases e : js[j]? with
          | none => rw [e] at hvj; cases hvj
          | some p => rw [e] at hvj; exact ⟨p, rfl, Option.some.inj hvj⟩
        obtain ⟨tj, rfl⟩ : ∃ t, valj = .int z t := by cases rvj; exact ⟨_, rfl⟩
        have hzm : z ∈ js := List.mem_of_getElem? hz
        have hj' : j < items2.length := (List.getElem?_eq_some_iff.mp hj).1
        have hysl : ysj.length ≤ 1000000 := by
          have := gather_len (F := fun j => [F x j]) (B := 1) (fun v => Nat.le_refl _) js j
          rw [hysj, List.length_append]
          omega
        obtain ⟨oCj, mj, kj1, kj2, kj3⟩ := Xj.ns
        obtain ⟨ta, hta⟩ := kj3 (a, x) (.head _)
        show wpC _ _ (do PySem.standAt pb; bindName (σ.inner (hok C)).env b (.int z tj)) _ _ _
        refine wpC_stand (wpC_mono (comp_bind Xj kj1 kj2 kj3 (fun q hq => by rw [List.mem_singleton.mp hq]; exact hab) hb) (fun _ s1 hbb => ?_) fun _ _ x => x)
        obtain ⟨wdk, oCk, rfl, Xk, n1, n2', n3⟩ := hbb
        have lock : LocOk wdk (some (.int x) :: some (.int z) :: ρc) := ⟨(fun w u hw => by
          cases hw with
          | here =>
            show (match cl.lookup a with | some c => _ | none => _)
            rw [hac]
            exact ⟨oCk, _, .int x ta, n1, n2', by simp [upd, hab]; exact hta, .int⟩
          | there hw => cases hw with
            | here =>
              show (match cl.lookup b with | some c => _ | none => _)
              rw [hbc]
              exact ⟨oCk, _, .int z tj, n1, n2', by simp [upd], .int⟩
            | there hw => exact outer_holds Xk lo hcomp ho hw), (fun e => by cases e), (fun q hq => by cases hq)⟩
        refine wpC_mono (comp_emit Xk lock (hel C x z hmem hzm) (hflat x z) hysl) (fun _ s2 hh => ?_) fun _ _ x => x
        obtain ⟨wdl, rfl, Xl, hkl⟩ := hh
        refine ⟨wdl, rfl, ?_, fun q hq hC hD => hkl q (n3 q hq hC) hC hD⟩
        rw [hz]
        exact Xl
      · rw [hlen2', gather, flat_one] at X'
        exact X'.fewer fun q hq => by cases hq
    unfold runOwn
    refine wpC_bind (wpC_onRaise (wpC_mono (E := fun _ _ => False) (wpC_run (codeC_compStart (dp := 1) rfl inner (it2.W.self 0 _ _ _ hSt2 ⟨rfl, rfl⟩))) (fun _ _ hh => ?_) fun _ _ x => x.elim))
    obtain ⟨wd3, rfl, X3, hk3⟩ := hh
    refine wpC_pure ⟨wd3, rfl, ?_, fun q hq hC hD => hk3 q (full2 q (j3 q hq hC)) hC hD (ne2 q (j3 q hq hC))⟩
    rw [hx]
    exact X3
  · rw [hlenI, gather] at X
    exact X
end

end
section


/-! entering a def that makes cells -/
theorem CellsAre.get' {cm : Str → Option Value} {x : Str} {c : Addr} : ∀ {cs : List (Str × Addr)} {cells : Led}, CellsAre cm cs cells → cs.lookup x = some c → ∃ o, (c, o) ∈ cells ∧ o.data = .cell (cm x)
  | _, _, .nil, h => by cases h
  | _, _, .cons (n := n) k r, h => by
    rw [List.lookup_cons] at h
    split at h
    · rename_i e
      cases h
      rw [eq_of_beq e]
      exact ⟨_, .head _, k⟩
    · obtain ⟨o, h1, h2⟩ := CellsAre.get' r h
      exact ⟨o, .tail _ h1, h2⟩
theorem CellsAre.all' {cm : Str → Option Value} : ∀ {cs : List (Str × Addr)} {cells : Led}, CellsAre cm cs cells → ∀ q ∈ cs, ∃ o v, (q.2, o) ∈ cells ∧ o.data = .cell v
  | _, _, .nil, _, h => by cases h
  | _, _, .cons k r, q, h => by
    rcases List.mem_cons.mp h with rfl | h
    · exact ⟨_, _, .head _, k⟩
    · obtain ⟨o, v, h1, h2⟩ := CellsAre.all' r q h
      exact ⟨o, v, .tail _ h1, h2⟩
theorem cellsFrom_ge {x : Str} {c : Addr} : ∀ (names : List (Str × NameKind)) (n : Nat) (acc : List (Str × Addr)) (L : Nat), L < n → (∀ q ∈ acc, L < q.2) → (x, c) ∈ cellsFrom n names acc → L < c
  | [], n, acc, L, _, ha, h => ha _ h
  | (y, k) :: r, n, acc, L, hL, ha, h => by
    unfold cellsFrom at h
    split at h
    · exact cellsFrom_ge r (n + 1) _ L (by omega) (fun q hq => by
        rcases List.mem_cons.mp hq with rfl | hq
        · exact hL
        · exact ha q hq) h
    · exact cellsFrom_ge r n acc L hL ha h
abbrev FIc (cn : Str) (cs : Scope) (a : Addr) (ccd : Value) (cl : List (Str × Addr)) (ns gs : List Str) (tabs : List (Addr × Str)) : FI :=
  { cn := cn, cs := cs, a := a, ccd := ccd, cl := cl, ns := ns, ws := ns, gs := gs, own := true, tabs := tabs }
theorem TabOk.over {g : Glo} {f f' : FI} {d d' : Nat} {σ : Sit g f d} {σ' : Sit g f' d'} {a : Wd σ} {b : Wd σ'} {P : Addr} {q : Str} (h : TabOk a P q) (hn : ∀ q ∈ a.news, q ∈ b.news) : TabOk b P q := by
  obtain ⟨ps, h1, h2, h3⟩ := h
  refine ⟨ps, hn _ h1, h2, fun pos cv e => ?_⟩
  obtain ⟨c', oc, vs, t, e1, e2, e3⟩ := h3 pos cv e
  exact ⟨c', oc, vs, t, e1, hn _ e2, e3⟩
/-- what stays when tables may change -/
def NoTab (q : Addr × Obj) : Prop := ∀ vs, q.2.data ≠ .fields vs
section
variable {g : Glo} {f : FI} {d : Nat} {ρ : Loc} {X : Prop}
theorem LocOk.kept {σ : Sit g f d} {a b : Wd σ} (l : LocOk a ρ) (hm : b.m = a.m) (hn : ∀ q ∈ a.news, NoTab q → q ∈ b.news) (ht : ∀ q ∈ f.tabs, TabOk b q.1 q.2) : LocOk b ρ where
  loc x v h := by
    have sub : ∀ c o, a.S c o → SeqO o → b.S c o := fun c o hS hq => hS.imp (fun h => hn _ h fun vs e => by
      obtain ⟨_, _, e'⟩ := hq
      have e : o.data = .fields vs := e
      rw [e'] at e; cases e) id
    have h := l.loc x v h
    unfold Holds at *
    split <;> rename_i h1 <;> rw [h1] at h
    · obtain ⟨o, val, k1, k2, k3⟩ := h
      exact ⟨o, val, hn _ k1 (fun vs e => by have e : o.data = .fields vs := e; rw [k2] at e; cases e), k2, k3.mono sub⟩
    · simp only at h ⊢
      split <;> rename_i h2 <;> rw [h2] at h
      · obtain ⟨val, k1, k2⟩ := h
        exact ⟨val, by rw [hm]; exact k1, k2.mono sub⟩
      · obtain ⟨oC, m, val, k1, ⟨es, ep, j1, j2⟩, k3, k4⟩ := h
        exact ⟨oC, m, val, hn _ k1 (fun vs e => by have e : oC.data = .fields vs := e; rw [j1] at e; cases e), ⟨es, ep, j1, j2⟩, k3, k4.mono sub⟩
  cel ho q hq := by
    obtain ⟨o, v, k1, k2⟩ := l.cel ho q hq
    exact ⟨o, v, hn _ k1 (fun vs e => by have e : o.data = .fields vs := e; rw [k2] at e; cases e), k2⟩
  tab := ht
theorem fn_enterC {name qual : Str} {params : Arguments} {body : List Stmt} {scope : Scope} {dV kV doc pm cdv ct oc : Value} {an od : Option Addr} {osl : Array (Option Value)} {a : Addr}
    {x : V} {p : Str} {Φ : V → Prop} (cells : Nat → List (Str × Addr)) (ns gs more : List Str) (k : Nat)
    (ho : g.K.lookup a = some ⟨oc, od, .func (fnOf name qual params body scope dV kV doc pm an cdv ct), osl⟩) (hcd : codeIn g.K cdv qual = true)
    (hbind : ∀ s vals, g.K.In s.heap → vals.length = 1 → BindsTo s (fnOf name qual params body scope dV kV doc pm an cdv ct) ⟨vals, []⟩ ((params.args.map (·.arg)).zip (vals ++ [])))
    (hp : params.args.map (·.arg) = [p]) (hns : ns = p :: more) (hcells : ∀ n, cellsFrom n scope.names [] = cells n)
    (hok : ∀ n, (FIc qual scope a cdv (cells n) ns gs f.tabs).Ok) (hnd : ((cellsFrom 0 scope.names []).map (·.1)).Nodup)
    (hkind : ∀ n, (scope.names.lookup p = some .local ∧ (cells n).lookup p = none) ∨ (scope.names.lookup p = some .cell ∧ ((cells n).lookup p).isSome = true))
    (hco : scope.isCoroutine = false) (hgen : scope.isGenerator = false)
    {ρ₀ : Loc} (hρ : some x :: List.replicate k none = ρ₀) (h : ∀ n, Exs g (FIc qual scope a cdv (cells n) ns gs f.tabs) d body ρ₀ (fun fl _ => ∃ v, fl = .ret v ∧ Φ v) False) :
    Cl g f (d + 1) (.ref a) [x] Φ X := fun σ wd ρ vals rs l Q E hQ hX tk₀ => by
  subst hρ
  obtain ⟨val, rfl, rx⟩ : ∃ val, vals = [val] ∧ Rep wd.S val x := by
    cases rs with
    | cons r1 r2 => cases r2; exact ⟨_, rfl, r1⟩
  have hd := σ.hd
  have hu := σ.hu
  have hb : ((params.args.map (·.arg)).zip ([val] ++ [])) = [(p, val)] := by rw [hp]; rfl
  have hbind' := hbind wd.s [val] (wd.X.keeps wd.F.keep) rfl
  rw [hb] at hbind'
  refine wpC_call (enter_CC wd.B wd.F wd.N wd.T.nolimit rfl rfl σ.hk ((wd.X.keeps wd.F.keep) _ _ ho) rfl (codeRec_of (wd.X.keeps wd.F.keep) hcd) (by show σ.dp < _; omega) hbind' (fun n y hy => by
    obtain rfl : y = (p, val) := by simpa using hy
    rw [hcells]
    exact (hkind n).imp (fun h => h.1) id) hnd (fun g' L' h₁ tk₁ cs htk FG F' N' Y B' st hlt => ?_) hco hgen (hok 0).hk.1)
  have ec := hcells (L' + 1)
  let fi : FI := FIc qual scope a cdv (cells (L' + 1)) ns gs f.tabs
  let σ' : Sit g fi d := ⟨σ.dp + 1, σ.un + 3, σ.gd, σ.fenv :: σ.outer, σ.A, σ.base, g', L', B', σ.XB, σ.TB, hok _, by omega, by omega⟩
  have eE : σ'.fenv = envOfC qual scope L' a cdv := by
    show envX qual scope L' a cdv (cells (L' + 1)) = envX qual scope L' a cdv (cellsFrom (L' + 1) scope.names [])
    rw [ec]
  let wd' : Wd σ' := ⟨{ wd.s with heap := h₁, toks := tk₁ }, _, cs ++ wd.news, g', .refl, F', N'⟩
  have big : ∀ q ∈ wd.news, q ∈ wd'.news := fun q hq => List.mem_append_right _ hq
  have rx' : Rep wd'.S val x := rx.mono (Sup.mono big)
  rw [ec] at Y
  have notOwn : ∀ q ∈ wd.news, q.1 ∉ fi.cl.map (·.2) := fun q hq hm => by
    obtain ⟨⟨y, c⟩, h1, h2⟩ := List.mem_map.mp hm
    have h2 : c = q.1 := h2
    have h1 : (y, c) ∈ cellsFrom (L' + 1) scope.names [] := by rw [ec]; exact h1
    have h3 := cellsFrom_ge scope.names (L' + 1) [] L' (Nat.lt_succ_self _) (fun q hq => by cases hq) h1
    rw [h2] at h3
    exact Nat.lt_asymm h3 (hlt q hq)
  have hL : LocOk wd' (some x :: List.replicate k none) := by
    refine ⟨fun y v hv => ?_, fun _ q hq => ?_, fun q hq => (l.tab q hq).over big⟩
    · have hv' : GetN (p :: more) (some x :: List.replicate k none) y v := hns ▸ hv
      have hv2 : y = p ∧ v = x := by
        cases hv' with
        | here => exact ⟨rfl, rfl⟩
        | there hh => exact absurd (List.eq_of_mem_replicate hh.smem) (by simp)
      obtain ⟨rfl, rfl⟩ := hv2
      unfold Holds
      show (match (cells (L' + 1)).lookup y with | some c => _ | none => _)
      rcases hkind (L' + 1) with ⟨h1, h2⟩ | ⟨h1, h2⟩
      · rw [h2]
        refine ⟨val, ?_, rx'⟩
        show bindL (envOfC qual scope L' a cdv).kindOf [(y, val)] (fun _ => none) y = some val
        unfold bindL bindL
        rw [if_pos (show (envOfC qual scope L' a cdv).kindOf y = some .local from h1)]
        simp
      · obtain ⟨c, hc⟩ := Option.isSome_iff_exists.mp h2
        rw [hc]
        obtain ⟨o, m1, m2⟩ := CellsAre.get' Y hc
        refine ⟨o, val, List.mem_append_left _ m1, ?_, rx'⟩
        rw [m2]
        unfold bindC bindC
        rw [if_neg (show ¬ (envOfC qual scope L' a cdv).kindOf y = some .local from by
          show ¬ scope.names.lookup y = some .local
          rw [h1]; decide)]
        simp
    · obtain ⟨o, v, m1, m2⟩ := CellsAre.all' Y q hq
      exact ⟨o, v, List.mem_append_left _ m1, m2⟩
  rw [← eE]
  refine h (L' + 1) σ' wd' hL _ _ (fun fl wd₂ ρ₂ l₂ lo₂ ⟨y, ry, v, ey, hv⟩ => ?_) (fun hx => hx.elim) ⟨Nat.lt_of_lt_of_le tk₀.1 htk, fun q hq => by cases hq⟩
  subst ey
  cases ry with
  | ret rv =>
    obtain ⟨h₃, tk₃, e₃⟩ := l₂.st
    have e₃' : wd₂.s = { wd.s with heap := h₃, toks := tk₃ } := e₃
    have kept : ∀ q ∈ wd.news, NoTab q → q ∈ wd₂.news := fun q hq hq2 => l₂.nw q (big q hq) (.inl fun hm => by
      rcases List.mem_append.mp hm with hm | hm
      · exact notOwn q hq hm
      · obtain ⟨t, h1, h2⟩ := List.mem_map.mp hm
        obtain ⟨ps, h3, -⟩ := l.tab t h1
        have h2 : t.1 = q.1 := h2
        rw [h2] at h3
        have := news_fun wd.N h3 (show (q.1, q.2) ∈ wd.news from hq)
        exact hq2 ps (by rw [← this]))
    have kept2 : ∀ q ∈ wd.news, Stays f q → q ∈ wd₂.news := fun q hq hs => l₂.nw q (big q hq) (hs.imp (fun hs hm => by
      rcases List.mem_append.mp hm with hm | hm
      · exact notOwn q hq hm
      · exact hs (List.mem_append_right _ hm)) id)
    refine ⟨wd₂.gr, L', wd₂.m, wd₂.news, wd₂.U, wd₂.F, wd₂.N, fun g₃ T3 Fc Nc => ?_⟩
    let wd₃ : Wd σ := ⟨wd₂.s, wd.m, wd₂.news, g₃, wd.U.trans T3, Fc, Nc⟩
    exact hQ _ wd₃ ρ ⟨⟨h₃, tk₃, e₃'⟩, kept2, fun _ => rfl⟩ (l.kept rfl kept fun q hq => (lo₂.tab q hq).over fun q hq => hq) ⟨rfl, v, rv, hv⟩
end

end
section


section
variable {M : Model} {A : Around} {E : Value → Shared → Prop} {s : Shared}
theorem callWith_fnC {q : Addr} {pos : Pos} {first : List Value} {args : List (Bool × Sem Value)} {Q : Value → Shared → Prop} (hplain : args.any (·.1) = false)
    (h : wpC M A (evalArgs (.ref q) true args []) (fun a s₁ => FnAt q s₁.heap ∧ wpC M A (call (.ref q) (first ++ a.pos) a.kw) Q E s₁) E s) : wpC M A (callWith pos (.ref q) first args []) Q E s := by
  unfold callWith
  refine wpC_bind (wpC_holding (wpC_mono h (fun a s₁ h₁ => wpC_stand ?_) fun _ _ x => x))
  obtain ⟨k, hk', L⟩ := keeps_F (M := M) s₁.heap h₁.1
  simp only [hplain, List.any_nil, Bool.or_false]
  refine wpC_bind (wpC_of (L.here ?_))
  have last : ∀ {t : Sem Value}, wpC M A t Q E s₁ → wpC M A (t >>= fun r => holding [r] point >>= fun _ => pure r) Q E s₁ :=
    fun ht => wpC_bind (wpC_mono ht (fun r s₂ hr => wpC_bind (wpC_holding (wpC_point (wpC_pure hr)))) fun _ _ x => x)
  have marked (mk : Value) : wpC M A (callMarked mk (.ref q) (first ++ a.pos) a.kw) Q E s₁ := by unfold callMarked; exact wpC_keep h₁.2
  rcases hk' with rfl | rfl | rfl <;> dsimp only <;> first | exact last h₁.2 | (split <;> first | exact last h₁.2 | exact last (marked _))
/-- a try with handlers alone -/
theorem wpC_try {body orelse : Sem Flow} {h₀ : ExceptHandler} {hs : List ExceptHandler} {env : Env} {Q : Flow → Shared → Prop}
    (h : wpC M A body (fun f s₁ => match f with | .next => wpC M A orelse Q E s₁ | f => Q f s₁)
      (fun e s₁ => wpC M A (noteFrame e env >>= fun _ => setFlight e none >>= fun _ => handleBy e env (h₀ :: hs)) Q E s₁) s) : wpC M A (tryStmt false body (h₀ :: hs) orelse [] env) Q E s := by
  unfold tryStmt
  simp only [List.isEmpty_nil, if_true, List.isEmpty_cons, Bool.false_and, Bool.false_eq_true, if_false]
  refine wpC_bind (wpC_attempt (wpC_mono h (fun f s₁ h₁ => ?_) fun e s₁ h₁ => h₁))
  cases f <;> first | exact h₁ | exact wpC_pure h₁
end
section
variable {g : Glo} {f : FI} {d : Nat} {α β : Type} {σ : Sit g f d} {wd : Wd σ} {ρ : Loc} {X : Prop}
theorem Far.of_le {a b : Wd σ} {e : Addr} {h' : Heap} (x : a.le b) (y : Far σ b e h') : Far σ a e h' := by
  obtain ⟨h, m, n, gr, h0, h1, h2, h3⟩ := y
  exact ⟨h, m, n, gr, h0, h1, fun q hq hk hm => h2 q (x.nw q hq hk) hk hm, h3⟩
/-- the triple, where only what a call raised may fly -/
def AtF {α : Type} (σ : Sit g f d) (wd : Wd σ) (ρ : Loc) (t : Sem α) (R : α → Wd σ → Loc → Prop) (X : Prop) : Prop :=
  LocOk wd ρ → ∀ Q E, (∀ a wd' ρ', wd.le wd' → LocOk wd' ρ' → R a wd' ρ' → Q a wd'.s) →
    (X → ∀ e h' tk', Far σ wd e h' → E (.ref e) { wd.s with heap := h', toks := tk' }) → wd.Go → wpC g.M σ.A t Q E wd.s
theorem At.toF {t : Sem α} {R : α → Wd σ → Loc → Prop} (h : At σ wd ρ t R False) : AtF σ wd ρ t R X := fun l Q E hQ _ tk => h l Q E hQ (fun x => x.elim) tk
theorem AtF.mono {t : Sem α} {R R' : α → Wd σ → Loc → Prop} (h : AtF σ wd ρ t R X) (k : ∀ a wd' ρ', wd.le wd' → R a wd' ρ' → R' a wd' ρ') : AtF σ wd ρ t R' X :=
  fun l Q E hQ hX => h l Q E (fun a wd' ρ' x y z => hQ a wd' ρ' x y (k a wd' ρ' x z)) hX
theorem AtF.bind {t : Sem α} {k : α → Sem β} {R : β → Wd σ → Loc → Prop} (h : AtF σ wd ρ t (fun a wd' ρ' => AtF σ wd' ρ' (k a) R X) X) : AtF σ wd ρ (t >>= k) R X :=
  fun l Q E hQ hX tk => wpC_bind (wpC_mono (wpC_toks (h l (fun a s' => wd.s.toks ≤ s'.toks → wpC g.M σ.A (k a) Q E s') E (fun a wd₁ ρ₁ x y z ht => z y Q E (fun b wd₂ ρ₂ x₂ => hQ b wd₂ ρ₂ (x.trans x₂)) (fun hx e h' tk' fl => by
    obtain ⟨h, tk, e'⟩ := x.st
    rw [e']
    exact hX hx e h' tk' (fl.of_le x)) ⟨Nat.lt_of_lt_of_le tk.1 ht, fun q hq => x.nw q (tk.2 q hq) (σ.ok.mus q hq)⟩) hX tk)) (fun _ _ q => q.1 q.2) (fun _ _ q => q.1))
theorem AtF.at {t : Sem α} {R : α → Wd σ → Loc → Prop} (h : AtF σ wd ρ t R X) : At σ wd ρ t R X := fun l Q E hQ hX tk => h l Q E hQ (fun hx e h' tk' fl => hX hx e h' tk' fl.flies) tk
/-- a lambda of no arguments, as an object of the ledger -/
def Lam (news : Led) (a : Addr) (qual : Str) (params : Arguments) (body : Expr) (scope : Scope) (clos : List (Str × Addr)) : Prop :=
  ∃ oc od sl name pm c' ctv oc' vs t, (a, (⟨oc, od, .func (kla_fn name qual params body scope clos pm (.ref c') ctv), sl⟩ : Obj)) ∈ news ∧ (c', oc') ∈ news ∧ oc'.data = .fields vs ∧ vs[1]? = some (.str qual t)
theorem Lam.of {l l' : Led} {a : Addr} {qual : Str} {params : Arguments} {body : Expr} {scope : Scope} {clos : List (Str × Addr)} (h : Lam l a qual params body scope clos) (hn : ∀ q ∈ l, q ∈ l') : Lam l' a qual params body scope clos := by
  obtain ⟨oc, od, sl, name, pm, c', ctv, oc', vs, t, h1, h2, h3⟩ := h
  exact ⟨oc, od, sl, name, pm, c', ctv, oc', vs, t, hn _ h1, hn _ h2, h3⟩
/-- the frame of a lambda: its names are free, or global -/
abbrev FIl (cn : Str) (cs : Scope) (a : Addr) (ccd : Value) (cl : List (Str × Addr)) (ns gs : List Str) : FI :=
  { cn := cn, cs := cs, a := a, ccd := ccd, cl := cl, ns := ns, ws := [], gs := gs }
theorem at_lam {σ : Sit g f (d + 1)} {wd : Wd σ} {a : Addr} {qual : Str} {params : Arguments} {body : Expr} {scope : Scope} {clos : List (Str × Addr)} {ns gs : List Str} {ρ' : Loc} {Φ : V → Prop} (L : Lam wd.news a qual params body scope clos)
    (hb : ∀ name pm c ctv, bindArgs (kla_fn name qual params body scope clos pm c ctv) ⟨[], []⟩ = pure []) (hok : ∀ c, (FIl qual scope a c clos ns gs).Ok)
    (hloc : ∀ x v, GetN ns ρ' x v → ∃ c o val, clos.lookup x = some c ∧ (c, o) ∈ wd.news ∧ o.data = .cell (some val) ∧ Rep wd.S val v)
    (hco : scope.isCoroutine = false) (hgen : scope.isGenerator = false) (hcell : ∀ x ∈ scope.names, x.2 ≠ .cell)
    (h : ∀ c, Ev g (FIl qual scope a c clos ns gs) d body ρ' (fun v _ => Φ v) X) :
    AtF σ wd ρ (call (.ref a) []) (fun val wd' ρ' => ρ' = ρ ∧ (∀ q ∈ wd.news, q ∈ wd'.news) ∧ ∃ v, Rep wd'.S val v ∧ Φ v) X := fun l Q E hQ hX tk₀ => by
  obtain ⟨oc, od, sl, name, pm, c', ctv, oc', vs, t, h1, h2, h3, h4⟩ := L
  have hd := σ.hd
  have hu := σ.hu
  refine wpC_call (enter_CE (cl := clos) wd.B wd.F wd.N wd.T.nolimit rfl rfl σ.hk (wd.N _ h1).1 rfl ⟨c', oc', vs, t, rfl, (wd.N _ h2).1, h3, h4⟩ (by show σ.dp < _; omega) (.of_eq (hb _ _ _ _)) (fun g' L' h₁ FG F' N' B' st _ => ?_) hcell hco hgen (hok (.ref c')).hk.1)
  let fi : FI := FIl qual scope a (.ref c') clos ns gs
  let σ' : Sit g fi d := ⟨σ.dp + 1, σ.un + 3, σ.gd, σ.fenv :: σ.outer, σ.A, σ.base, g', L', B', σ.XB, σ.TB, hok _, by omega, by omega⟩
  let wd' : Wd σ' := ⟨{ wd.s with heap := h₁, toks := wd.s.toks }, fun _ => none, wd.news, g', .refl, F', N'⟩
  have hL : LocOk wd' ρ' := ⟨fun x v hv => by
    obtain ⟨c, o, val, k1, k2, k3, k4⟩ := hloc x v hv
    unfold Holds
    show (match clos.lookup x with | some c => _ | none => _)
    rw [k1]
    exact ⟨o, val, k2, k3, k4⟩, (fun h => by cases h), (fun q hq => by cases hq)⟩
  have stay : ∀ q, Stays fi q := fun q => .plain rfl rfl q
  refine h (.ref c') σ' wd' hL _ _ (fun val wd₂ ρ₂ l₂ lo₂ ⟨v, rv, hv⟩ => ?_) (fun hx e h' tk' fl => ?_) ⟨tk₀.1, fun q hq => by cases hq⟩
  · obtain ⟨h₃, tk₃, e₃⟩ := l₂.st
    have e₃' : wd₂.s = { wd.s with heap := h₃, toks := tk₃ } := e₃
    have full : ∀ q ∈ wd.news, q ∈ wd₂.news := fun q hq => l₂.nw q hq (stay q)
    exact ⟨wd₂.gr, L', wd₂.m, wd₂.news, wd₂.U, wd₂.F, wd₂.N, fun g₃ T3 Fc Nc => hQ _ ⟨wd₂.s, wd.m, wd₂.news, g₃, wd.U.trans T3, Fc, Nc⟩ ρ (.of ⟨h₃, tk₃, e₃'⟩ full) (l.of rfl full) ⟨rfl, full, v, rv, hv⟩⟩
  · exact wpC_of (far_out (σ := σ) (wd := wd) (σ' := σ') (wd' := wd') (R := fun v s'' => E v s'') FG rfl rfl rfl rfl (fun q hq _ _ => ⟨hq, stay q, by intro h; cases h⟩) fl fun h'' hfar => hX hx e h'' tk' hfar)
end
section
variable {g : Glo} {d : Nat} {qual : Str} {scope : Scope} {a : Addr} {cdv : Value} {ns gs : List Str} {must : Led}
/-- a ValueError that a call raised, caught by a clause that gives a text back -/
theorem at_caught {σ : Sit g { FIp qual scope a cdv ns gs with must := must } d} {wd : Wd σ} {x : Str} {np cp rp hp : Pos} {r : Str} {kk : Nat} {e : Addr} {h' : Heap} {tk' : Nat} {Q : Flow → Shared → Prop} {E : Value → Shared → Prop}
    (b : Bl g.K x (.type "ValueError")) (hm : InL gs x) (hne : ns ≠ []) (far : Far σ wd e h') (k : ∀ (wd' : Wd σ) (t : Nat), wd.le wd' → LocOk wd' [] → Q (.ret (.str r t)) wd'.s) :
    wpC g.M σ.A (noteFrame (.ref e) σ.fenv >>= fun _ => setFlight (.ref e) none >>= fun _ => handleBy (.ref e) σ.fenv [.ExceptHandler (some (.Name x np)) none [.Return (some (.Constant (.str r) kk cp)) rp] hp]) Q E { wd.s with heap := h', toks := tk' } := by
  obtain ⟨h, m, n, gr, U, F, hn, ⟨B, a0, hB, hBG, hl, hfl⟩, hsm⟩ := far
  have K : Below σ.A₀ σ.base σ.outer gr := below_turn σ.B U
  have hL : B.get? σ.L = none := by
    obtain ⟨_, ⟨L', _, hf, hn', _⟩, _⟩ := hfl.2.2.1
    obtain rfl : σ.L = L' := Option.some.inj hf
    exact hn'
  refine wpC_of (wpAny_mono (E := fun _ _ => False) ?_ (fun _ _ x => x) fun _ _ x => x.elim)
  refine wpAny_bind (wpAny_looks_onW (show σ.A.frames = some (σ.fenv :: σ.outer) from rfl) rfl hfl fun h₄ hheld₄ hsm₄ => ?_)
  refine wpAny_bind (wpAny_landsW hheld₄ fun h₅ hheld hsm₅' => ?_)
  have hsm₅ := hsm₄.trans hsm₅'
  obtain ⟨g₅, T₅, F₅, K₅⟩ := kts_ground K F hBG hheld.1 (hsm.trans hsm₅)
  obtain ⟨ob, hob, hobc⟩ := hheld.there
  have P₅ := topRead_of (σ.TB.keeps K₅.stays)
  have hkx : σ.fenv.kindOf x = some .globalImplicit := (σ.ok.gc _ hm.mem).1
  refine wpAny_handleBy_builtin (X := "ValueError") (T := "ValueError") (b := true) PySem.F.isExc_ValueError PySem.F.notTuple_ValueError (by rw [isSubtype_type]; kernel_rfl) (name_B F₅ (σ.XB.keeps K₅.stays) P₅ b.e b.hv b.hn ⟨rfl, ⟨ob, hob, hobc⟩, ?_⟩ σ.hk hkx (σ.ok.gc _ hm.mem).2)
  refine lands_againW hheld fun h₆ hfl₆ hsm₆ => ?_
  obtain ⟨g₆, T₆, F₆, K₆⟩ := kts_ground K F hBG hfl₆.1 ((hsm.trans hsm₅).trans hsm₆)
  have Nl : News g₆ σ.L h₆ n := fun q hq => ⟨hfl₆.1 _ _ (hl q hq).1, (fun z => by have := (hl q hq).1; rw [z, hL] at this; cases this), T₆.none_ _ (kts_none F.keep (hl q hq).2.1)⟩
  refine wpAny_passesOwnAt .never ?_
  refine wpAny_bind (m := exec (.Return (some (.Constant (.str r) kk cp)) rp) σ.fenv) ?_
  show wpAny _ _ (standAt rp >>= fun _ => eval (.Constant (.str r) kk cp) σ.fenv >>= fun v => pure (Flow.ret v)) _ _ _
  refine wpAny_bind (wpAny_standAt (wpAny_bind (Calls.Constant_str (wpAny_pure (wpAny_pure ?_)))))
  exact k ⟨{ wd.s with heap := h₆, toks := _ }, m, n, g₆, U.trans T₆, F₆, Nl⟩ _ ⟨⟨_, _, rfl⟩, fun q hq hs => hn q hq hs (by intro h; cases h), fun e => absurd e hne⟩ ⟨(fun x v hv => by cases hv), (fun h => by cases h), (fun q hq => by cases hq)⟩
end

end
section


/-! making a lambda -/
theorem triples_snoc {i j : Int} {t u : Nat} {c : Value} : ∀ (l : List Value), TriplesOk l → TriplesOk (l ++ [.int i t, .int j u, c])
  | [], _ => by simp [TriplesOk]
  | .int a ta :: .int b tb :: x :: r, h => by
    show TriplesOk (r ++ _)
    exact triples_snoc r h
theorem among_snoc {pos : Pos} {i j : Int} {t u : Nat} {c cv : Value} : ∀ (l : List Value), TriplesOk l → codeAmong pos (l ++ [.int i t, .int j u, c]) = some cv → codeAmong pos l = some cv ∨ cv = c
  | [], _, h => by
    simp only [List.nil_append, codeAmong] at h
    split at h
    · cases h; exact .inr rfl
    · cases h
  | .int a ta :: .int b tb :: x :: r, ho, h => by
    simp only [List.cons_append, codeAmong] at h ⊢
    split at h
    · rename_i e
      rw [if_pos e]
      exact .inl h
    · rename_i e
      rw [if_neg e]
      exact among_snoc r ho h
theorem triples_one {l : List Value} (h : TriplesOk l) (x : Str) (t : Nat) : l[1]? ≠ some (.str x t) := by
  match l, h with
  | [], _ => simp
  | .int a ta :: .int b tb :: y :: r, _ => simp
section
variable {g : Glo} {f : FI} {d : Nat} {ρ : Loc} {X : Prop}
theorem at_mklam {σ : Sit g f d} {wd : Wd σ} {params : Arguments} {body : Expr} {scope : Scope} {pos : Pos} {clos : List (Str × Addr)} {c P : Addr} {q : Str} {R : Value → Wd σ → Loc → Prop}
    (hcomp : f.comp = none) (hccd : f.ccd = .ref c) (hC : codeHdIn g.K c P = true) (ht : (P, q) ∈ f.tabs) (hu : ∀ t ∈ f.tabs, t.1 = P → t.2 = q) (hq : f.cn ++ ".<locals>." ++ "<lambda>" = q)
    (hdef : ∀ env, defaultsOf params env = ([], [])) (hcl : ∀ L, closureFor scope (f.fenv L) = pure clos)
    (h : ∀ wd' a, wd.le wd' → Lam wd'.news a q params body scope clos → R (.ref a) wd' ρ) : At σ wd ρ (eval (.Lambda params body scope pos) σ.env) R X := fun l Q E hQ _ tk₀ => by
  have eenv : σ.env = σ.fenv := by unfold Sit.env FI.env; rw [hcomp]
  rw [eenv]
  refine wpC_of (kla_eval (hdef _) ?_)
  show wpAny _ _ (makeFunction "<lambda>" (f.cn ++ ".<locals>." ++ "<lambda>") params (.expr body) scope (envX f.cn f.cs σ.L f.a f.ccd f.cl) [] [] [] pos pos.line) _ _ _
  rw [hq]
  obtain ⟨ps, k1, k2, k3⟩ := l.tab _ ht
  have hmut : P ∈ f.mut := List.mem_append_right _ (List.mem_map.mpr ⟨_, ht, rfl⟩)
  have C : CodeHd wd.gr c P := codeHd_of_K wd.X hC
  cases hf : codeAmong pos ps.toList with
  | some cv =>
    obtain ⟨c', oc, vs, t, rfl, m1, m2, m3⟩ := k3 pos cv hf
    refine kla_hit wd.F wd.N wd.T C hccd k1 k2 hf (hcl σ.L) fun fa ctv h' tk F' N' _ => ?_
    let wd' : Wd σ := ⟨{ wd.s with heap := h', toks := tk }, wd.m, _, wd.gr, wd.U, F', N'⟩
    have full : ∀ q ∈ wd.news, q ∈ wd'.news := fun q hq => .tail _ hq
    exact hQ _ wd' ρ (.of ⟨_, _, rfl⟩ full) (l.of rfl full) (h wd' fa (.of ⟨_, _, rfl⟩ full) ⟨_, _, _, _, _, _, _, _, _, _, .head _, .tail _ m1, m2, m3⟩)
  | none =>
    have N1 : News wd.gr σ.L wd.s.heap ((P, tabObj ps) :: cut P wd.news) := fun q hq => by
      rcases List.mem_cons.mp hq with rfl | hq
      · exact wd.N _ k1
      · exact wd.N _ (List.mem_filter.mp hq).1
    refine kla_nest wd.F N1 wd.T C hccd (UpdF.head fun p hp => by simpa using (List.mem_filter.mp hp).2) k2 hf (hcl σ.L) fun fa c' oc vs t0 ctv h' tk F' N' m2 m3 _ _ => ?_
    let wd' : Wd σ := ⟨{ wd.s with heap := h', toks := tk }, wd.m, _, wd.gr, wd.U, F', N'⟩
    have most : ∀ q ∈ wd.news, q.1 ≠ P → q ∈ wd'.news := fun q hq hn => .tail _ (.tail _ (.tail _ (cut_mem hq hn)))
    have same : ∀ q ∈ wd.news, q.1 = P → q.2 = tabObj ps := fun q hq e => by
      obtain ⟨q1, q2⟩ := q
      have e : q1 = P := e
      subst e
      exact news_fun wd.N hq k1
    have le : wd.le wd' := ⟨⟨_, _, rfl⟩, (fun q hq hs => most q hq fun e => by
      rcases hs with hs | ⟨_, _, hs⟩
      · exact hs (e ▸ hmut)
      · rw [same q hq e] at hs
        cases hs), fun _ => rfl⟩
    have lo : LocOk wd' ρ := l.kept rfl (fun q hq hn => most q hq fun e => hn ps (by rw [same q hq e])) fun t ht' => by
      by_cases e : t.1 = P
      · rw [e, hu t ht' e]
        refine ⟨_, .tail _ (.tail _ (.head _)), ?_, fun pos' cv hc => ?_⟩
        · rw [Array.toList_append]
          exact triples_snoc _ k2
        · rw [Array.toList_append] at hc
          rcases among_snoc _ k2 hc with hc | rfl
          · obtain ⟨c2, oc2, vs2, t2, rfl, j1, j2, j3⟩ := k3 pos' cv hc
            refine ⟨c2, oc2, vs2, t2, rfl, most _ j1 fun e => ?_, j2, j3⟩
            have := same _ j1 e
            have this : oc2 = tabObj ps := this
            rw [this] at j2
            cases j2
            exact triples_one k2 _ _ (by rw [Array.getElem?_toList]; exact j3)
          · exact ⟨c', oc, vs, t0, rfl, .tail _ (.head _), m2, m3⟩
      · obtain ⟨ps2, i1, i2, i3⟩ := l.tab t ht'
        refine ⟨ps2, most _ i1 e, i2, fun pos' cv hc => ?_⟩
        obtain ⟨c2, oc2, vs2, t2, rfl, j1, j2, j3⟩ := i3 pos' cv hc
        refine ⟨c2, oc2, vs2, t2, rfl, most _ j1 fun e => ?_, j2, j3⟩
        have this : oc2 = tabObj ps := same _ j1 e
        rw [this] at j2
        cases j2
        exact triples_one k2 _ _ (by rw [Array.getElem?_toList]; exact j3)
    exact hQ _ wd' ρ le lo (h wd' fa le ⟨_, _, _, _, _, _, _, _, _, _, .head _, .tail _ (.head _), m2, m3⟩)
end
section
variable {g : Glo} {d : Nat} {qual : Str} {scope : Scope} {a : Addr} {cdv : Value} {ns gs : List Str} {must : Led} {ρ : Loc} {X : Prop}
/-- a call of an object under a try, and the rows behind -/
theorem at_tryCall {σ : Sit g { FIp qual scope a cdv ns gs with must := must } d} {wd : Wd σ} {x y ve : Str} {xp yp cp ap np cp2 rp hp tp : Pos} {r : Str} {kk : Nat} {aL : Addr} {rest : List Stmt} {Φ : V → Prop} {Ψ : Fl → Loc → Prop}
    (hv : GetN ns ρ x (.obj (.ref aL))) (ρs : V → Loc) (hset : ∀ v, Φ v → SetN ns ρ y v (ρs v)) (b : Bl g.K ve (.type "ValueError")) (hm : InL gs ve) (hne : ns ≠ [])
    (hcall : ∀ wd' : Wd σ, wd'.Go → FnAt aL wd'.s.heap ∧ AtF σ wd' ρ (call (.ref aL) []) (fun val w ρ' => ρ' = ρ ∧ ∃ v, Rep w.S val v ∧ Φ v) X)
    (hrest : ∀ v, Φ v → Exs g { FIp qual scope a cdv ns gs with must := must } d rest (ρs v) Ψ False) (hc : X → ∀ ρ', Ψ (.ret (.str r)) ρ') :
    At σ wd ρ (execs (.Try [.Assign [.Name y yp] (.Call (.Name x xp) [] [] cp) ap] [.ExceptHandler (some (.Name ve np)) none [.Return (some (.Constant (.str r) kk cp2)) rp] hp] [] [] tp :: rest) σ.env) (RF Ψ) False := fun l Q E hQ _ tk => by
  show wpC _ _ (do
    match ← (do PySem.standAt tp; tryStmt false (execs [.Assign [.Name y yp] (.Call (.Name x xp) [] [] cp) ap] σ.env) [.ExceptHandler (some (.Name ve np)) none [.Return (some (.Constant (.str r) kk cp2)) rp] hp] (execs [] σ.env) [] σ.env) with
    | .next => execs rest σ.env
    | f => Pure.pure f) _ _ _
  have body : AtF σ wd ρ (execs [.Assign [.Name y yp] (.Call (.Name x xp) [] [] cp) ap] σ.env) (fun fl _ ρ' => fl = .next ∧ ∃ v, Φ v ∧ ρ' = ρs v) X := by
    show AtF σ wd ρ (do
      match ← (do
        PySem.standAt ap
        if ← (Pure.pure false : Sem Bool) then do
          evalThenUse (.Call (.Name x xp) [] [] cp) σ.env fun v => assignAll v ((assignEach [.Name y yp] σ.env).map (·.2))
          Pure.pure .next
        else do
          let v ← (do callWith cp (← eval (.Name x xp) σ.env) [] (backTo cp (starEach [] σ.env)) [])
          assignStores σ.env v (← (Pure.pure none : Sem (Option (List Str)))) [assign (.Name y yp) σ.env]) with
      | .next => execs [] σ.env
      | f => Pure.pure f) _ _
    refine .bind (.bind (At.toF (.standAt ?_)))
    refine .bind (At.toF (.pure ?_))
    refine .bind (.bind (At.toF ((ev_local (Φ := fun v ρ' => v = .obj (.ref aL) ∧ ρ' = ρ) hv ⟨rfl, rfl⟩ σ wd).mono fun va wd₁ ρ₁ l₁ ⟨v, rv, e1, e2⟩ => ?_)))
    subst e1
    subst e2
    cases rv
    have hw : AtF σ wd₁ ρ₁ (callWith cp (.ref aL) [] (backTo cp (starEach [] σ.env)) []) (fun val w ρ' => ρ' = ρ₁ ∧ ∃ v, Rep w.S val v ∧ Φ v) X := fun l' Q' E' hQ' hX' tk' => by
      obtain ⟨h1, h2⟩ := hcall wd₁ tk'
      exact callWith_fnC rfl (wpC_of (PySem.evalArgs_none ⟨h1, h2 l' Q' E' hQ' hX' tk'⟩))
    refine hw.mono fun val wd₂ ρ₂ l₂ ⟨e, v, rv, hΦ⟩ => ?_
    subst e
    refine .bind (At.toF (.pure ?_))
    show AtF σ wd₂ ρ₂ (do assignAll val [assign (.Name y yp) σ.env]; Pure.pure Flow.next) _ _
    refine .bind (At.toF (At.mono (asg_name (Φ := fun ρ' => ρ' = ρs v) (hset v hΦ) rfl σ wd₂ val rv) fun _ wd₃ ρ₃ l₃ e => ?_))
    refine At.toF (.pure ?_)
    exact At.toF (.pure ⟨rfl, v, hΦ, e⟩)
  refine wpC_bind (wpC_stand (wpC_try ?_))
  refine wpC_mono (wpC_toks (body l (fun fl s' => ∃ (wd₁ : Wd σ) (v : V), fl = Flow.next ∧ s' = wd₁.s ∧ wd.le wd₁ ∧ LocOk wd₁ (ρs v) ∧ Φ v) (fun e s' => X ∧ ∃ ea h' tk', e = .ref ea ∧ s' = { wd.s with heap := h', toks := tk' } ∧ Far σ wd ea h')
    (fun fl wd₁ ρ₁ l₁ lo₁ ⟨e1, v, hΦ, e2⟩ => ⟨wd₁, v, e1, rfl, l₁, e2 ▸ lo₁, hΦ⟩) (fun hx e h' tk' far => ⟨hx, e, h', tk', rfl, rfl, far⟩) tk)) (fun fl s' h => ?_) fun e s' h => ?_
  · obtain ⟨⟨wd₁, v, rfl, rfl, l₁, lo₁, hΦ⟩, ht⟩ := h
    show wpC _ _ (execs [] σ.env) _ _ _
    refine wpC_pure ?_
    exact hrest v hΦ σ wd₁ lo₁ Q E (fun a wd₂ ρ₂ l₂ lo₂ r => hQ a wd₂ ρ₂ (l₁.trans l₂) lo₂ r) (fun x => x.elim) ⟨Nat.lt_of_lt_of_le tk.1 ht, fun q hq => l₁.nw q (tk.2 q hq) (σ.ok.mus q hq)⟩
  · obtain ⟨⟨hx, ea, h', tk', rfl, rfl, far⟩, -⟩ := h
    refine at_caught b hm hne far fun wd' t le lo => ?_
    exact wpC_pure (hQ _ wd' [] le lo ⟨_, .ret .str, hc hx []⟩)
end

end
section


/-! rows of values -/
section
variable {S : Addr → Obj → Prop}
theorem RepL.ints : ∀ {vs : List Value} {ns : List Int}, RepL S vs (ns.map V.int) → IntsAre vs ns
  | _, [], h => by cases h; exact .nil
  | _, n :: ns, h => by
    cases h with
    | cons r rs =>
      cases r
      exact .cons n _ rs.ints
theorem repL_of_ints : ∀ {vs : List Value} {ns : List Int}, IntsAre vs ns → RepL S vs (ns.map V.int)
  | _, _, .nil => .nil
  | _, _, .cons n t h => .cons .int (repL_of_ints h)
end
section
variable {g : Glo} {f : FI} {d : Nat} {ρ : Loc} {X : Prop} {pos : Pos} {Ψ : V → Loc → Prop} {Φ : V → Prop}
theorem lst_is {σ : Sit g f d} {wd : Wd σ} {va : Value} {vs : List V} (r : Rep wd.S va (.lst vs)) : ∃ a items, va = .ref a ∧ wd.s.heap.IsList a (List.toArray items) ∧ RepL wd.S items vs := by
  cases r with
  | lst hS hc hd rs => exact ⟨_, _, rfl, ⟨_, Sup.heap wd hS, hc, _, hd⟩, rs⟩
theorem op_addL {as bs : List V} (hl : as.length + bs.length ≤ 10000) (h : Φ (.lst (as ++ bs))) : Op2 (binaryOp .Add) g f d (.lst as) (.lst bs) Φ X := fun σ wd ρ va vb ra rb l Q E hQ _ tk => by
  refine wpC_of ?_
  obtain ⟨a, is, rfl, h1, r1⟩ := lst_is ra
  obtain ⟨b, js, rfl, h2, r2⟩ := lst_is rb
  have e1 := r1.length
  have e2 := r2.length
  have := sizeLine_ge
  refine add_lists wd.F wd.N h1 h2 (fun h' F' N' => ?_) (by omega)
  exact hQ _ (wd.led h' wd.s.toks F' _ N') ρ (wd.le_led fun _ h => .tail _ h) (l.led fun _ h => .tail _ h) ⟨rfl, _, .lst (.inl (.head _)) rfl rfl ((r1.append r2).mono (Sup.mono fun _ h => .tail _ h)), h⟩
theorem cl_tupleL {vs : List V} (hl : vs.length ≤ 10000) (h : Φ (.tup vs)) : Cl g f d (.type "tuple") [.lst vs] Φ X := fun σ wd ρ vals rs l Q E hQ _ tk => by
  refine wpC_of ?_
  cases rs with
  | cons r r0 =>
    cases r0
    obtain ⟨a, is, rfl, h1, r1⟩ := lst_is r
    have e1 := r1.length
    refine kde_tupleOf wd.F wd.N h1 (by simp; omega) rfl fun D h' F' N' _ => ?_
    exact hQ _ (wd.led h' wd.s.toks F' _ N') ρ (wd.le_led fun _ h => .tail _ h) (l.led fun _ h => .tail _ h) ⟨rfl, _, .tup (.inl (.head _)) rfl (by simp; rfl) (r1.mono (Sup.mono fun _ h => .tail _ h)), h⟩
theorem cl_sortedL {ns : List Int} (hl : ns.length ≤ 20) (h : ∀ ns' : List Int, ns'.Perm ns → ns'.Pairwise (· ≤ ·) → Φ (.lst (ns'.map V.int))) : Cl g f d (.builtin "sorted") [.lst (ns.map V.int)] Φ X := fun σ wd ρ vals rs l Q E hQ _ tk => by
  refine wpC_of ?_
  cases rs with
  | cons r r0 =>
    cases r0
    obtain ⟨a, is, rfl, h1, r1⟩ := lst_is r
    refine kso_sorted wd.F wd.N h1 r1.ints (by omega) fun D vs' ns' c h' F' N' _ hi _ hp ho _ => ?_
    exact hQ _ (wd.led h' wd.s.toks F' _ N') ρ (wd.le_led fun _ h => .tail _ h) (l.led fun _ h => .tail _ h) ⟨rfl, _, .lst (.inl (.head _)) rfl rfl (repL_of_ints hi), h ns' hp ho⟩
theorem op_notInL {v : V} {vs : List V} (hv : v.fine = true) (hf : V.fines vs = true) (h1 : PyData.canLayAll0 (V.pds vs) = true) (h2 : v.pd.canLay0 = true) (h3 : v.pd.depth ≤ 10) (h : Φ (.bool (!(V.pds vs).any fun y => PyData.eqv y v.pd))) :
    Op2 (compareOp .NotIn) g f d v (.lst vs) Φ X := fun σ wd ρ va vb ra rb l Q E hQ _ tk => by
  refine wpC_of ?_
  obtain ⟨as, qa⟩ := ra.reads hv
  obtain ⟨bs, qb⟩ := rb.reads (by simpa [V.fine] using hf)
  have := σ.hu
  rw [show (V.lst vs).pd = .list (V.pds vs) from by rw [V.pd]] at qb
  exact PySem.SeqAt.notIn_list_reads qb qa h1 h2 (by show σ.un + 1 + _ < _; have := Nat.min_le_right (PyData.depthAll (V.pds vs)) v.pd.depth; omega) (hQ _ wd ρ (.refl _) l ⟨rfl, _, .bool, h⟩)
theorem ev_sliceL_to {value upper : Expr} {p : Pos} (h : Ev g f d value ρ (fun a ρ₁ => Ev g f d upper ρ₁ (fun j ρ₂ => ∃ (ns : List Int) (jj : Int), a = .lst (ns.map V.int) ∧ j = .int jj ∧ 0 ≤ jj ∧ ns.length ≤ 10000 ∧ Ψ (.lst ((ns.take jj.toNat).map V.int)) ρ₂) X) X)
    (hs : ∀ o i, subscripted (.Slice none (some upper) none p) false o i = operate [i, o] (getItem o i) := by intros; with_unfolding_all rfl) (ht : ∀ o r, letTemporaryGo value o r = pure () := by intros; with_unfolding_all rfl) :
    Ev g f d (.Subscript value (.Slice none (some upper) none p) pos) ρ Ψ X := fun σ wd => by
  show At σ wd ρ (do
    let o ← eval value σ.env
    let i ← PySem.holding [o] (eval (.Slice none (some upper) none p) σ.env)
    PySem.standAt pos
    subscriptTail value (.Slice none (some upper) none p) o i) _ _
  refine .bind ((h σ wd).mono fun va wd₁ ρ₁ l₁ ⟨a, ra, ha⟩ => .bind (.holding ?_))
  show At σ wd₁ ρ₁ (do
    let l ← (Pure.pure Value.none : Sem Value)
    let u ← PySem.holding [l] (eval upper σ.env)
    let s ← PySem.holding [l, u] (Pure.pure Value.none : Sem Value)
    newFields "slice" [l, u, s]) _ _
  refine .bind (.pure (.bind (.holding ((ha σ wd₁).mono fun vb wd₂ ρ₂ l₂ ⟨j, rj, ns, jj, ea, ej, h0, hx, hΨ⟩ => .bind (.holding (.pure ?_))))))
  subst ea
  subst ej
  obtain ⟨a, is, rfl, h1, r1⟩ := lst_is (l₂.rep ra)
  cases rj
  rename_i uj _
  have hlen := r1.length
  intro l Q E hQ hX tk
  refine wpC_of ?_
  unfold newFields
  refine wpAny_newObj_type ?_
  refine hQ _ (wd₂.grow (wd₂.s.heap.push { cls := .type "slice", data := .fields #[.none, .int jj uj, .none] }) wd₂.s.toks (fun b o e => Heap.get?_push_of_some _ e)) ρ₂ wd₂.le_grow l.grow ?_
  refine .stand ?_
  intro l' Q' E' hQ' hX' tk'
  refine wpC_of (kmk_slice wd₂.F wd₂.N h1 .none (.int _ _) (fun D h' F' N' _ => ?_) (hs _ _) (fun r => ht _ r) (by have := sizeLine_ge; simp at hlen; simp; omega))
  have k := kmk_upto r1.ints h0
  exact hQ' _ ⟨{ wd₂.s with heap := h' }, wd₂.m, _, wd₂.gr, wd₂.U, F', N'⟩ ρ₂ (.of ⟨_, _, rfl⟩ fun _ h => .tail _ h) (l.of rfl fun _ h => .tail _ h) ⟨_, .lst (.inl (.head _)) rfl (by simp [PySem.W.listOf]; rfl) (repL_of_ints k), hΨ⟩
theorem ev_sliceL_from {value lower : Expr} {p : Pos} (h : Ev g f d value ρ (fun a ρ₁ => Ev g f d lower ρ₁ (fun j ρ₂ => ∃ (ns : List Int) (jj : Int), a = .lst (ns.map V.int) ∧ j = .int jj ∧ 0 ≤ jj ∧ ns.length ≤ 10000 ∧ Ψ (.lst ((ns.drop jj.toNat).map V.int)) ρ₂) X) X)
    (hs : ∀ o i, subscripted (.Slice (some lower) none none p) false o i = operate [i, o] (getItem o i) := by intros; with_unfolding_all rfl) (ht : ∀ o r, letTemporaryGo value o r = pure () := by intros; with_unfolding_all rfl) :
    Ev g f d (.Subscript value (.Slice (some lower) none none p) pos) ρ Ψ X := fun σ wd => by
  show At σ wd ρ (do
    let o ← eval value σ.env
    let i ← PySem.holding [o] (eval (.Slice (some lower) none none p) σ.env)
    PySem.standAt pos
    subscriptTail value (.Slice (some lower) none none p) o i) _ _
  refine .bind ((h σ wd).mono fun va wd₁ ρ₁ l₁ ⟨a, ra, ha⟩ => .bind (.holding ?_))
  show At σ wd₁ ρ₁ (do
    let l ← eval lower σ.env
    let u ← PySem.holding [l] (Pure.pure Value.none : Sem Value)
    let s ← PySem.holding [l, u] (Pure.pure Value.none : Sem Value)
    newFields "slice" [l, u, s]) _ _
  refine .bind ((ha σ wd₁).mono fun vb wd₂ ρ₂ l₂ ⟨j, rj, ns, jj, ea, ej, h0, hx, hΨ⟩ => .bind (.holding (.pure (.bind (.holding (.pure ?_))))))
  subst ea
  subst ej
  obtain ⟨a, is, rfl, h1, r1⟩ := lst_is (l₂.rep ra)
  cases rj
  rename_i uj _
  have hlen := r1.length
  intro l Q E hQ hX tk
  refine wpC_of ?_
  unfold newFields
  refine wpAny_newObj_type ?_
  refine hQ _ (wd₂.grow (wd₂.s.heap.push { cls := .type "slice", data := .fields #[.int jj uj, .none, .none] }) wd₂.s.toks (fun b o e => Heap.get?_push_of_some _ e)) ρ₂ wd₂.le_grow l.grow ?_
  refine .stand ?_
  intro l' Q' E' hQ' hX' tk'
  refine wpC_of (kmk_slice wd₂.F wd₂.N h1 (.int _ _) .none (fun D h' F' N' _ => ?_) (hs _ _) (fun r => ht _ r) (by have := sizeLine_ge; simp at hlen; simp; omega))
  have k := kmk_from r1.ints h0
  exact hQ' _ ⟨{ wd₂.s with heap := h' }, wd₂.m, _, wd₂.gr, wd₂.U, F', N'⟩ ρ₂ (.of ⟨_, _, rfl⟩ fun _ h => .tail _ h) (l.of rfl fun _ h => .tail _ h) ⟨_, .lst (.inl (.head _)) rfl (by simp [PySem.W.listOf]; rfl) (repL_of_ints k), hΨ⟩
end

end
section


/-! the claim's caller enters a def of one parameter that makes cells -/
section
variable {M : Model} {A : Around} {E : Value → Shared → Prop} {s₀ s : Shared}
theorem store_one {env : Env} {m cm : Str → Option Value} {n : Str} {v : Value} {Q : Unit → Shared → Prop} (x : InCallC s₀ env.locals m env.cells cm s) (hk : env.scope.kind = .function) (hl : env.kindOf n = some .local)
    (h : ∀ s', InCallC s₀ env.locals (fun y => if y = n then some v else m y) env.cells cm s' → 0 < s'.toks → Q () s') : wpAny M A (storeName env n v) Q E s := by
  obtain ⟨⟨same, ns, keep, fresh⟩, cell, apart, above⟩ := x
  refine wpAny_storeName_local hl ns (fun h' hn' hs' => ?_) (by rw [hk]; rfl)
  have old : ∀ b o, s₀.heap.get? b = some o → b ≠ env.locals := fun b o e => Nat.ne_of_lt (Nat.lt_of_lt_of_le (Heap.lt_size e) fresh)
  refine h _ ⟨⟨?_, hn', fun b o e => hs'.extBut b o (old b o e) (keep b o e), fresh⟩, fun k c hc => ?_, apart, above⟩ (Nat.succ_pos _)
  · obtain ⟨h₁, tk, rfl⟩ := same
    exact ⟨h', _, rfl⟩
  · exact (cell k c hc).sameBut hs' (Nat.ne_of_gt (above k c (mem_of_lookup hc)))
theorem env_one {scope : Scope} {globals : Addr} {p : Str} {val : Value} {qual : Str} {func : Option Addr} {code : Value} {builtins : Addr} {Q : Env → Shared → Prop}
    (hk : scope.kind = .function) (hl : scope.names.lookup p = some .local)
    (hQ : ∀ env, env = newEnv scope s.heap.objs.size globals (cellsFrom (s.heap.objs.size + 1) scope.names []) qual func code none builtins →
      ∀ s', InCallC s env.locals (fun y => if y = p then some val else none) env.cells (fun _ => none) s' → 0 < s'.toks → Q env s') :
    wpAny M A (newFunctionEnv scope globals [] [(p, val)] qual func code none builtins) Q E s := by
  simp only [newFunctionEnv, Option.isSome_none, Bool.false_eq_true, if_false]
  refine wpAny_bind (wpAny_alloc (wpAny_bind (wpAny_layCells _ (fun name kind cells => by cases hkc : kind == NameKind.cell <;> simp) _ _ _ _ ?_)))
  have sz : ({ s with heap := s.heap.push { cls := .type "frame", data := .dict #[] } } : Shared).heap.objs.size = s.heap.objs.size + 1 := Heap.size_push ..
  have ok := cellsFrom_ok scope.names (s.heap.push { cls := .type "frame", data := .dict #[] }) (s.heap.objs.size + 1) [] ⟨fun _ _ hm => (nomatch hm), List.Pairwise.nil⟩ (Nat.le_of_eq sz.symm)
  rw [Heap.size_push] at ok
  rw [sz, List.forIn_cons]
  refine wpAny_bind (wpAny_bind (wpAny_bind (store_one (s₀ := s) (env := newEnv scope s.heap.objs.size globals (cellsFrom (s.heap.objs.size + 1) scope.names []) qual func code none builtins) (m := fun _ => none) (cm := fun _ => none)
    ⟨⟨⟨_, _, rfl⟩, (Heap.Ns.new s.heap (.type "frame")).keeps (pushCells_keeps _ _), fun b o e => pushCells_keeps _ _ b o (Heap.get?_push_of_some _ e), Nat.le_refl _⟩,
      fun n c hc => (ok.empty n c (mem_of_lookup hc)).1, ok.apart, fun n c hm => (ok.empty n c hm).2⟩ hk hl fun s' x ht => wpAny_pure ?_)))
  show wpAny _ _ (forIn [] _ _) _ _ _
  rw [List.forIn_nil]
  exact wpAny_pure (wpAny_pure (hQ _ rfl s' x ht))
end
theorem top_enter {g : Glo} {d : Nat} {s : Shared} {cps : List (Addr × Addr)} {tabs : List (Addr × Str)} (hT : TabsAt cps s.heap) (htab : ∀ q ∈ tabs, q.1 ∈ cps.map (·.2))
    (X : g.K.In (ghostOf s.heap cps)) (T : Top g.p g.loose g.mean g.mg g.mb (ghostOf s.heap cps))
    {name qual : Str} {params : Arguments} {body : List Stmt} {scope : Scope} {dV kV doc pm cdv ct oc : Value} {an od : Option Addr} {osl : Array (Option Value)} {a : Addr}
    {x : V} {val : Value} {p : Str} {Φ : V → Prop} (cells : Nat → List (Str × Addr)) (ns gs more : List Str) (k : Nat) (rx : Rep (fun b o => (ghostOf s.heap cps).get? b = some o) val x)
    (ho : g.K.lookup a = some ⟨oc, od, .func (fnOf name qual params body scope dV kV doc pm an cdv ct), osl⟩) (hcd : codeIn g.K cdv qual = true)
    (hbind : BindsTo s (fnOf name qual params body scope dV kV doc pm an cdv ct) ⟨[val], []⟩ [(p, val)])
    (hns : ns = p :: more) (hcells : ∀ n, cellsFrom n scope.names [] = cells n)
    (hok : ∀ n, (FIc qual scope a cdv (cells n) ns gs tabs).Ok) (hnd : ((cellsFrom 0 scope.names []).map (·.1)).Nodup)
    (hl : scope.names.lookup p = some .local) (hlc : ∀ n, (cells n).lookup p = none)
    (hco : scope.isCoroutine = false) (hgen : scope.isGenerator = false) (hd : 302 + d < recursionLimit) (hu : 7 + 8 * d + 100 < cLine)
    {ρ₀ : Loc} (hρ : some x :: List.replicate k none = ρ₀) (h : ∀ n, Exs g (FIc qual scope a cdv (cells n) ns gs tabs) d body ρ₀ (fun fl _ => ∃ v, fl = .ret v ∧ Φ v) False)
    {Q : Value → Shared → Prop} {E : Value → Shared → Prop}
    (hQ : ∀ val' v h' tk' news', (∀ b o, (ghostOf s.heap cps).get? b = some o → h'.get? b = some o) → (∀ q ∈ tabs, GrownAt q.1 h') → Rep (Sup (ghostOf s.heap cps) news') val' v → Φ v → Q val' { s with heap := h', toks := tk' }) :
    wpC g.M callerA (call (.ref a) [val]) Q E s := by
  subst hρ
  have up : ∀ b o, (ghostOf s.heap cps).get? b = some o → s.heap.get? b = some o := fun b o e => of_hideAll _ e
  have lim : s.heap.NoLimit := T.nolimit.keeps up
  refine wpC_call (codeC_function (fd := fnOf name qual params body scope dV kV doc pm an cdv ct) (body := body) (binds := [(p, val)]) (by decide) ((X.keeps up) _ _ ho) rfl hco hgen rfl (codeRec_of (X.keeps up) hcd) hbind ?_)
  refine env_one (hok 0).hk.1 hl fun env he s' y htk => ?_
  subst he
  refine ⟨lim.keeps y.toInCall.keep, codeC_func ?_⟩
  obtain ⟨h₁, tk, rfl, hk₁⟩ := y.done
  obtain ⟨cs, NC, Y⟩ := Cl.news (h₀ := s.heap) (Nat.le_refl _) fun n c hm => ⟨y.cell n c (lookup_of_mem_nodup (cellsFrom_names scope.names 0 (s.heap.objs.size + 1) [] [] rfl ▸ hnd) hm), y.above n c hm⟩
  have F : Fr s.heap s.heap.objs.size h₁ (fun y => if y = p then some val else none) := ⟨y.toInCall.ns, hk₁, Nat.le_refl _⟩
  have F' := ghost_fr hT F
  have N' := ghost_news hT F NC
  have ec := hcells (s.heap.objs.size + 1)
  let fi : FI := FIc qual scope a cdv (cells (s.heap.objs.size + 1)) ns gs tabs
  let σ : Sit g fi d := ⟨302, 7, some [], [], callerA, ghostOf s.heap cps, ghostOf s.heap cps, s.heap.objs.size, ghost_below hT, X, T, hok _, hd, hu⟩
  have eE : σ.fenv = envOfC qual scope s.heap.objs.size a cdv := by
    show envX qual scope s.heap.objs.size a cdv (cells (s.heap.objs.size + 1)) = envX qual scope s.heap.objs.size a cdv (cellsFrom (s.heap.objs.size + 1) scope.names [])
    rw [ec]
  let wd : Wd σ := ⟨{ s with heap := h₁, toks := tk }, _, cs ++ tabNews cps, ghostOf s.heap cps, .refl, F', N'⟩
  have hL : LocOk wd (some x :: List.replicate k none) := by
    refine ⟨fun z v hv => ?_, fun _ q hq => ?_, fun q hq => ?_⟩
    · have hv' : GetN (p :: more) (some x :: List.replicate k none) z v := hns ▸ hv
      have hv2 : z = p ∧ v = x := by
        cases hv' with
        | here => exact ⟨rfl, rfl⟩
        | there hh => exact absurd (List.eq_of_mem_replicate hh.smem) (by simp)
      obtain ⟨rfl, rfl⟩ := hv2
      unfold Holds
      show (match (cells (s.heap.objs.size + 1)).lookup z with | some c => _ | none => _)
      rw [hlc]
      exact ⟨val, if_pos rfl, rx.mono fun b o e _ => .inr e⟩
    · have hq' : q ∈ cellsFrom (s.heap.objs.size + 1) scope.names [] := by rw [ec]; exact hq
      obtain ⟨o, v, m1, m2⟩ := CellsAre.all' Y q hq'
      exact ⟨o, v, List.mem_append_left _ m1, m2⟩
    · obtain ⟨r, hr, e⟩ := List.mem_map.mp (htab q hq)
      refine ⟨#[], List.mem_append_right _ (List.mem_map.mpr ⟨r, hr, by rw [e]⟩), by simp [TriplesOk], fun pos cv hc => ?_⟩
      simp [codeAmong] at hc
  have goal : wpC g.M (callerA.deeper σ.fenv) (execs body σ.fenv) (fun fl s' => Q (match fl with | .ret v => v | _ => .none) s')
      (fun e s' => wpC g.M (callerA.deeper σ.fenv) (leaving σ.fenv e) (fun _ s'' => E e s'') (fun e' s'' => E e' s'') s') { s with heap := h₁, toks := tk } := ?_
  · rw [eE] at goal; exact goal
  refine h (s.heap.objs.size + 1) σ wd hL _ _ (fun fl wd₂ ρ₂ l₂ lo₂ ⟨z, rz, v, ez, hv⟩ => ?_) (fun hx => hx.elim) ⟨htk, fun q hq => by cases hq⟩
  subst ez
  cases rz with
  | ret rv =>
    obtain ⟨h₃, tk₃, e₃⟩ := l₂.st
    have e₃' : wd₂.s = { s with heap := h₃, toks := tk₃ } := e₃
    have eh : wd₂.s.heap = h₃ := by rw [e₃']
    show Q _ wd₂.s
    rw [e₃']
    refine hQ _ v h₃ tk₃ wd₂.news (fun b o e => eh ▸ wd₂.F.keep _ _ (wd₂.B.stays _ _ e)) (fun q hq => ?_) rv hv
    obtain ⟨ps, k1, -⟩ := lo₂.tab q hq
    exact ⟨ps, eh ▸ (wd₂.N _ k1).1⟩

end
local macro_rules | `(tactic| walk_at "get") => `(tactic| (repeat' (first | (with_reducible exact GetN.here) | (with_reducible apply GetN.there))))
local macro_rules | `(tactic| walk_at "set") => `(tactic| (repeat' (first | (with_reducible exact SetN.here) | (with_reducible apply SetN.there))))
local macro_rules | `(tactic| walk_at "inl") => `(tactic| (repeat' (first | (with_reducible exact InL.here) | (with_reducible apply InL.there))))
local macro_rules | `(tactic| walk_at "enter") => `(tactic| (
  (case ho => (show List.lookup _ (hd.heap_39 _) = _; k_is));
  (case hcd => (show codeIn (hd.heap_39 _) _ _ = _; k_is));
  (case hns => rfl); (case hlen => rfl); (case hok => exact ok_plain rfl (by decide +kernel) (by decide +kernel) (by decide +kernel));
  (case hco => rfl); (case hgen => rfl); (case hcell => decide);
  (case hρ => (simp only [List.map_cons, List.map_nil, List.cons_append, List.nil_append, List.replicate]; rfl))))
local macro_rules | `(tactic| walk_at "glob") => `(tactic| with_reducible first
  | exact glMPZ_ZERO _ | exact glMPZ_ONE _ | exact glround_nearest _ | exact glround_floor _ | exact glround_ceiling _ | exact glround_up _ | exact glfzero _ | exact glfnan _ | exact glfinf _ | exact glfninf _
  | exact glshifts_down _ | exact gltrailing _ | exact glu_normalize _ | exact glnormalize _ | exact glfrom_man_exp _ | exact glfrom_int _ | exact glfrom_rational _ | exact glmpf_div _
  | exact glmpf_add _ | exact glmpf_sub _ | exact glmpf_mul _ | exact glmpf_neg _ | exact glmpf_abs _ | exact glmpf_sign _ | exact glmpf_cmp _ | exact glmpf_lt _ | exact glmpf_le _ | exact glmpf_gt _ | exact glmpf_ge _ | exact glmpf_shift _
  | exact glMAX _ | exact glstr_to_man_exp _ | exact glspecial_str _ | exact glfrom_str _ | exact glmpi_lt _ | exact glmpi_le _ | exact glmpi_mid _ | exact glmpi_delta _ | exact glmpi_from_str_a_b _ | exact glmpi_from_str _
  | exact glu_law_number _ | exact glu_law_told _ | exact glu_law_end _ | exact glu_law_decimal _ | exact glu_law_scaled _ | exact glu_law_valued _ | exact glu_law_is_near _ | exact glu_law_outcome _ | exact glu_law_read _ | exact glu_law_compared _)
local macro_rules | `(tactic| walk_at "blt") => `(tactic| with_reducible first
  | exact bllen _ | exact blabs _ | exact blmax _ | exact blmin _ | exact bldivmod _ | exact blpow _ | exact blisinstance _ | exact blsorted _ | exact blint _ | exact blstr _ | exact bltuple _ | exact blValueError _)
local macro_rules | `(tactic| walk_at "name") => `(tactic| first
  | ((with_reducible refine' ev_local ?hv ?hk); (case hv => walk_at "get"))
  | ((with_reducible refine' ev_global ?hv ?hm ?hk); (case hv => walk_at "glob"); (case hm => walk_at "inl"))
  | ((with_reducible refine' ev_builtin ?hv ?hm ?hk); (case hv => walk_at "blt"); (case hm => walk_at "inl")))
local macro_rules | `(tactic| walk_at "side") => `(tactic| first | assumption | omega | decide)
local macro_rules | `(tactic| walk_at "s1") => `(tactic| (first | (case h1 => walk_at "side") | skip))
local macro_rules | `(tactic| walk_at "s2") => `(tactic| (first | (case h2 => walk_at "side") | skip))
local macro_rules | `(tactic| walk_at "s3") => `(tactic| (first | (case h3 => walk_at "side") | skip))
local macro_rules | `(tactic| walk_at "call") => `(tactic| fail "no call")
local macro_rules | `(tactic| walk_at "ev") => `(tactic| first
  | (with_reducible refine ev_int ?_) | (with_reducible refine ev_str ?_) | (with_reducible refine ev_bool ?_) | (with_reducible refine ev_none ?_)
  | ((with_reducible show Ev _ _ _ (Expr.Name _ _) _ _ _); walk_at "name")
  | (with_reducible refine ev_bin ?_) | (with_reducible refine ev_un ?_) | ((with_reducible refine' ev_cmp ?hk ?hm); (case hm => rfl)) | (with_reducible refine ev_if ?_) | (with_reducible refine ev_sub ?_)
  | (with_reducible refine ev_tuple ?_) | (with_reducible refine ev_list ?_) | (with_reducible refine ev_and1 ?_) | (with_reducible refine ev_and ?_) | (with_reducible refine ev_or ?_) | (with_reducible refine ev_named ?_)
  | ((with_reducible refine' ev_call ?hn ?hc ?hk ?he ?hp); (case he => (intro; rfl)); (case hp => (intro; rfl)); (case hn => (first | ((with_reducible refine' ev_global ?hv ?hm ?hz); (case hv => walk_at "glob"); (case hm => walk_at "inl"); (case hz => exact ⟨rfl, rfl⟩)) | ((with_reducible refine' ev_builtin ?hv ?hm ?hz); (case hv => walk_at "blt"); (case hm => walk_at "inl"); (case hz => exact ⟨rfl, rfl⟩)))); (case hc => first | exact CvOk.blt | exact CvOk.typ | exact CvOk.fn (by (show keepIn (hd.heap_39 _) _ = true); k_is)))
  | walk_at "evmore")
local macro_rules | `(tactic| walk_at "evmore") => `(tactic| (refine ev_meth0 PySem.F.plainAttrs_int PySem.F.slot_int_bit_length PySem.F.type_int_bit_length ?_))
local macro_rules | `(tactic| walk_at "tst") => `(tactic| first
  | (with_reducible refine tst_not ?_) | ((with_reducible refine' tst_cmp ?hk ?hm); (case hm => rfl)) | (with_reducible refine tst_and_nil ?_) | (with_reducible refine tst_and ?_) | (with_reducible refine tst_or_nil ?_) | (with_reducible refine tst_or ?_)
  | ((with_reducible refine' tst_plain ?hk ?hm); (case hm => (intros; rfl))))
local macro_rules | `(tactic| walk_at "op") => `(tactic| first
  | (with_reducible refine op_add ?_) | (with_reducible refine op_sub ?_) | (with_reducible refine op_iadd ?_) | (with_reducible refine op_isub ?_) | (with_reducible refine op_and ?_) | (with_reducible refine op_xor0 ?_) | (with_reducible refine op_ixor0 ?_) | (with_reducible refine op_xor ?_) | (with_reducible refine op_ixor ?_)
  | (with_reducible refine op_eq ?_) | (with_reducible refine op_ne ?_) | (with_reducible refine op_lt ?_) | (with_reducible refine op_le ?_) | (with_reducible refine op_gt ?_) | (with_reducible refine op_ge ?_) | (with_reducible refine op_eqS ?_) | (with_reducible refine op_neS ?_) | (with_reducible refine op_eqB ?_) | (with_reducible refine op_eq4 ?_)
  | ((with_reducible refine' op_shr ?h1 ?hk); walk_at "s1")
  | ((with_reducible refine' op_ishr ?h1 ?hk); walk_at "s1")
  | ((with_reducible refine' op_shl ?h1 ?h2 ?h3 ?hk); walk_at "s1"; walk_at "s2"; walk_at "s3")
  | ((with_reducible refine' op_ishl ?h1 ?h2 ?h3 ?hk); walk_at "s1"; walk_at "s2"; walk_at "s3")
  | ((with_reducible refine' op_mul ?hk ?h1 ?h2); walk_at "s1"; walk_at "s2")
  | ((with_reducible refine' op_fdiv ?h1 ?h2 ?hk); walk_at "s1"; walk_at "s2")
  | ((with_reducible refine' op_mod ?h1 ?hk); walk_at "s1")
  | ((with_reducible refine' op_pow ?h1 ?h2 ?h3 ?hk); walk_at "s1"; walk_at "s2"; walk_at "s3")
  | ((with_reducible refine' sub_tup ?h3 ?h4 ?h1 ?h2 ?hk ?h5); (case h3 => rfl); (case h4 => rfl); (case h1 => decide); (case h2 => decide); (case h5 => (intros; with_unfolding_all rfl)))
  | walk_at "opmore")
local macro_rules | `(tactic| walk_at "opmore") => `(tactic| fail "no op")
local macro_rules | `(tactic| walk_at "cl") => `(tactic| first
  | (with_reducible refine cl_bit_length ?_) | (with_reducible refine cl_abs ?_) | (with_reducible refine cl_int_int ?_) | (with_reducible refine cl_isinstance_int ?_) | (with_reducible refine cl_max ?_) | (with_reducible refine cl_min ?_)
  | ((with_reducible refine' cl_divmod ?h1 ?h2 ?hk); walk_at "s1"; walk_at "s2")
  | walk_at "call")
local macro_rules | `(tactic| walk_at "prune") => `(tactic| (try (exfalso; omega)))
local macro_rules | `(tactic| walk_at "norm") => `(tactic| skip)
local macro_rules | `(tactic| walk_at "m0") => `(tactic| first
  | ((with_reducible show Ev _ _ _ _ _ _ _); walk_at "ev")
  | ((with_reducible show Op2 _ _ _ _ _ _ _ _); walk_at "op")
  | ((with_reducible show Op1 _ _ _ _ _ _ _); first | (with_reducible refine op_negneg ?_) | (with_reducible refine op_neg ?_) | (with_reducible refine op_not ?_))
  | ((with_reducible show Tst _ _ _ _ _ _ _); walk_at "tst")
  | ((with_reducible show Tr _ _ _ _ _ _); first | (with_reducible refine tr_int ?_) | (with_reducible refine tr_bool ?_))
  | ((with_reducible show Cl _ _ _ _ _ _ _); walk_at "cl")
  | ((with_reducible show Evs _ _ _ _ _ _ _ _); first | (with_reducible refine evs_nil ?_) | ((with_reducible refine' evs_cons ?hk ?he); (case he => (intro; rfl))))
  | ((with_reducible show Exs _ _ _ _ _ _ _); (with_reducible refine exs_nil ?_))
  | ((with_reducible show Ex _ _ _ _ _ _ _); first | (with_reducible refine ex_if ?_) | (with_reducible refine ex_return ?_) | (with_reducible refine ex_assert ?_) | ((with_reducible refine' ex_aug ?hv ?hk); (case hv => walk_at "get")) | ((with_reducible refine' ex_assign ?hk ?h1 ?h2 ?h3); (case h1 => (intro; rfl)); (case h2 => (intro; rfl)); (case h3 => (intro; rfl))) | walk_at "exmore")
  | ((with_reducible show Asg _ _ _ _ _ _ _ _); first | ((with_reducible refine' asg_name ?hs ?hk); (case hs => walk_at "set")) | ((with_reducible refine' asg_tup ?hk ?h1 ?h2 ?h3); (case h1 => rfl); (case h2 => (intro; rfl)); (case h3 => (intro; rfl))) | ((with_reducible refine' asg_lst ?hk ?h1 ?h2 ?h3); (case h1 => rfl); (case h2 => (intro; rfl)); (case h3 => (intro; rfl))))
  | ((with_reducible show AsgL _ _ _ _ _ _ _ _); first | (with_reducible refine asgL_nil ?_) | ((with_reducible refine' asgL_cons ?hk ?h1); (case h1 => (intro; rfl))))
  | (with_reducible refine then_nil ?_) | (with_reducible refine then_ret ?_) | (with_reducible refine join_ret ?_)
  | ((with_reducible refine And.intro (fun hc => ?_) (fun hc => ?_)) <;> (try simp at hc) <;> walk_at "norm" <;> walk_at "prune")
  | ((with_reducible show (TypV _ _ ∧ _)); refine And.intro rfl ?_)
  | ((with_reducible show (List.length _ ≤ sizeLine ∧ _)); refine And.intro (Nat.le_of_ble_eq_true rfl) ?_)
  | (with_reducible refine And.intro rfl ?_)
  | ((with_reducible show (_ = true ∧ _)); refine And.intro ?ha ?hk; (case ha => walk_at "assert"))
  | ((with_reducible show (∃ _, SetN _ _ _ _ _ ∧ _)); (with_reducible refine' exSet ?hs ?hk); (case hs => walk_at "set"))
  | ((with_reducible show (∃ _, Fl.ret _ = Fl.ret _ ∧ _)); with_reducible refine ⟨_, rfl, ?_⟩))
local macro_rules | `(tactic| walk_at "exmore") => `(tactic| fail "no ex")
local macro_rules | `(tactic| walk_at "m1") => `(tactic| first | (with_reducible refine exs_cons ?_) | walk_at "m0")
local macro_rules | `(tactic| walk_at "ms") => `(tactic| first | (with_reducible refine then_next ?_) | walk_at "m1")
local macro_rules | `(tactic| walk_at "assert") => `(tactic| (simp [intBits_nat]; done))
local macro_rules | `(tactic| walk_at "st") => `(tactic| (refine exs_cons ?_; repeat' walk_at "m1"))
local macro_rules | `(tactic| walk_at "nx") => `(tactic| (refine then_next (exs_cons ?_); repeat' walk_at "m1"))
section
section
variable {w : World} {p : Program} {loose : List Str} {mean : ExcName → Option Value} {mg mb : Str → Option Value} {f : FI} {d : Nat} {X : Prop}

theorem fn_trailing {n : Nat} (hn : 0 < n) : Cl (GG w p loose mean mg mb) f (d + 1) (.ref 21) [.int n] (fun v => v = .int (tz n)) X := by
  refine' fn_enter (defs := []) (dvs := []) nstrailing gstrailing [] 0 ?ho ?hcd ?hbind ?hns ?hlen ?hok .nil ?hco ?hgen ?hcell ?hρ ?hb
  walk_at "enter"
  case hbind => (intro s vals X hl; match vals, hl with | [a], _ => exact BindsTo.of_eq rfl)
  repeat' walk_at "ms"
  rw [trailing_eq hn]

structure Sd (K : Frag) (rnd : Str) (d0 d1 : Int) : Prop where
  ne : ¬ rnd = Str.ofString "n"
  at_ : ∃ t, nsIn K 28 rnd = some (some (.ref t)) ∧ KRep K (.ref t) (.tup [.int d0, .int d1])
theorem sd_f (P) : Sd (hd.heap_39 P) (Str.ofString "f") 1 0 := ⟨by decide, 29, by k_is, .tup (by (show List.lookup _ (hd.heap_39 P) = _); k_is) rfl rfl (.cons .int (.cons .int .nil))⟩
theorem sd_c (P) : Sd (hd.heap_39 P) (Str.ofString "c") 0 1 := ⟨by decide, 30, by k_is, .tup (by (show List.lookup _ (hd.heap_39 P) = _); k_is) rfl rfl (.cons .int (.cons .int .nil))⟩
theorem sd_u (P) : Sd (hd.heap_39 P) (Str.ofString "u") 0 0 := ⟨by decide, 32, by k_is, .tup (by (show List.lookup _ (hd.heap_39 P) = _); k_is) rfl rfl (.cons .int (.cons .int .nil))⟩
theorem sd_dict (P : Params) : ∃ es n, List.lookup 28 (hd.heap_39 P) = some ⟨.type "dict", none, .dict es n, #[]⟩ ∧ KeysLit P es.toList :=
  ⟨_, _, by k_is, by exact ⟨⟨_, _, rfl, rfl⟩, ⟨_, _, rfl, rfl⟩, ⟨_, _, rfl, rfl⟩, ⟨_, _, rfl, rfl⟩, trivial⟩⟩
theorem op_sd {value slice : Expr} {rnd : Str} {d0 d1 : Int} {Φ : V → Prop} (S : Sd (hd.heap_39 w.params) rnd d0 d1) (h : Φ (.tup [.int d0, .int d1]))
    (hs : ∀ o i, subscripted slice false o i = operate [o, i] (getItem o i) := by intros; with_unfolding_all rfl) :
    Op2 (subscriptTail value slice) (GG w p loose mean mg mb) f d (.obj (.ref 28)) (.str rnd) Φ X := by
  obtain ⟨es, n, h1, h2⟩ := sd_dict w.params
  obtain ⟨t, h3, h4⟩ := S.at_
  exact sub_dictK (g := GG w p loose mean mg mb) h1 h2 h3 h4 h hs
theorem op_pair {value slice : Expr} {a b k : Int} {Φ : V → Prop} (hk : k = 0 ∨ k = 1) (h : Φ (.int (if k = 0 then a else b)))
    (hs : ∀ o i, subscripted slice false o i = operate [o, i] (getItem o i) := by intros; with_unfolding_all rfl) :
    Op2 (subscriptTail value slice) (GG w p loose mean mg mb) f d (.tup [.int a, .int b]) (.int k) Φ X := by
  rcases hk with rfl | rfl
  · exact sub_tup rfl rfl (by decide) (by decide) h hs
  · exact sub_tup rfl rfl (by decide) (by decide) h hs
local macro_rules | `(tactic| walk_at "opmore") => `(tactic| first
  | ((with_reducible refine' op_sd ?h1 ?hk ?h2); (case h1 => assumption); (case h2 => (intros; with_unfolding_all rfl)))
  | ((with_reducible refine' op_pair ?h1 ?hk ?h2); (case h1 => assumption); (case h2 => (intros; with_unfolding_all rfl))))
local macro_rules | `(tactic| walk_at "prune") => `(tactic| (try first | contradiction | (exfalso; omega)))
local macro_rules | `(tactic| walk_at "call") => `(tactic| ((with_reducible refine' Cl.eq (fn_trailing ?h1) ?hk); walk_at "s1"))
local macro_rules | `(tactic| walk_at "norm") => `(tactic| (try simp only [bitAnd_m1] at *))

theorem fn_u_normalize {rnd : Str} {d0 d1 s : Int} {m prec : Nat} {e : Int} {dn : Bool} (S : Sd (hd.heap_39 w.params) rnd d0 d1) (hp : 1 ≤ prec) (hs : s = 0 ∨ s = 1) (hdn : (if s = 0 then d0 else d1) = if dn then 1 else 0) :
    Cl (GG w p loose mean mg mb) f (d + 2) (.ref 39) [.int s, .int m, .int e, .int (bl m : Nat), .int prec, .str rnd] (fun v => v = norm dn s m e prec) X := by
  have hne := S.ne
  refine' fn_enter (defs := []) (dvs := []) nsu_normalize gsu_normalize [Str.ofString "n", Str.ofString "t"] 2 ?ho ?hcd ?hbind ?hns ?hlen ?hok .nil ?hco ?hgen ?hcell ?hρ ?hb
  walk_at "enter"
  case hbind => (intro s vals X hl; match vals, hl with | [_, _, _, _, _, _], _ => exact BindsTo.of_eq rfl)
  refine exs_cons ?_
  repeat' walk_at "m1"
  · rename_i h0; subst h0; exact (norm_zero _ _ _ _).symm
  refine then_next (exs_cons ?_)
  repeat' walk_at "m1"
  rename_i hm0
  refine then_next (exs_join (fun ρ => ∃ (M : Nat) (B nv : Int), ρ = [some (.int s), some (.int M), some (.int (e + (bl m - prec : Nat))), some (.int B), some (.int prec), some (.str rnd), some (.int nv), none] ∧ 0 < M ∧ norm dn s m e prec = canon s M (e + (bl m - prec : Nat))
      ∧ (B = bl M ∨ (0 ≤ B ∧ M = 2 ^ B.toNat))) ?_ ?_)
  · repeat' walk_at "ms"
    · rename_i h1 h2 h3
      have hd1 : dn = true := by
        cases dn
        · simp at hdn; exact absurd hdn h3
        · rfl
      obtain ⟨a, b⟩ := down_bl (m := m) (k := bl m - prec) (P := prec) (by omega) hp
      refine ⟨m / 2 ^ (bl m - prec), prec, (bl m : Int) - prec, ?_, a, ?_, .inl (by rw [b])⟩
      · rw [show ((bl m : Int) - prec).toNat = bl m - prec by omega, rd_down, show ((bl m : Int) - prec) = ((bl m - prec : Nat) : Int) by omega]
      · unfold norm rdn; rw [hd1]; rfl
    · rename_i h1 h2 h3
      have hd1 : dn = false := by
        cases dn
        · rfl
        · rw [h3] at hdn; simp at hdn
      obtain ⟨a, b⟩ := up_bl (m := m) (k := bl m - prec) (P := prec) (by omega) hp
      refine ⟨(m + 2 ^ (bl m - prec) - 1) / 2 ^ (bl m - prec), prec, (bl m : Int) - prec, ?_, a, ?_, b.elim (fun b => .inl (by rw [b])) fun b => .inr ⟨by omega, by simpa using b⟩⟩
      · rw [show ((bl m : Int) - prec).toNat = bl m - prec by omega, rd_up, show ((bl m : Int) - prec) = ((bl m - prec : Nat) : Int) by omega]
      · unfold norm rdn; rw [hd1]; rfl
    · rename_i h1
      refine ⟨m, bl m, (bl m : Int) - prec, ?_, by omega, ?_, .inl rfl⟩
      · rw [show bl m - prec = 0 by omega]; simp
      · unfold norm rdn; rw [show bl m - prec = 0 by omega]; simp
  · rintro _ ⟨M, B, nv, rfl, hM, hn, hB⟩
    have ho := odd_spec hM
    have hc : (M : Int) / 2 ^ tz M = (odd M : Nat) := by rw [rd_down]; rfl
    repeat' walk_at "ms"
    · rename_i h1 h2
      rw [hn]
      exact leaf_fin hM hB (by simpa using hc) rfl (.inl ⟨by simpa using h2, rfl⟩)
    · rename_i h1 h2
      rw [hn]
      exact leaf_fin hM hB (by simpa using hc) rfl (.inr ⟨by simpa using h2, rfl⟩)
    · rename_i h1 h2
      have ht : tz M = 0 := tz_odd (by omega)
      have ho' : odd M = M := by unfold odd; rw [ht]; simp
      rw [hn]
      exact leaf_fin hM hB (by rw [ho']) (by rw [ht]; simp) (.inl ⟨by omega, rfl⟩)
    · rename_i h1 h2
      have ht : tz M = 0 := tz_odd (by omega)
      have ho' : odd M = M := by unfold odd; rw [ht]; simp
      rw [hn]
      exact leaf_fin hM hB (by rw [ho']) (by rw [ht]; simp) (.inr ⟨by omega, by rw [ht]; simp⟩)
end

end
section
local macro_rules | `(tactic| walk_at "opmore") => `(tactic| first
  | ((with_reducible refine' op_sd ?h1 ?hk ?h2); (case h1 => assumption); (case h2 => (intros; with_unfolding_all rfl)))
  | ((with_reducible refine' op_pair ?h1 ?hk ?h2); (case h1 => assumption); (case h2 => (intros; with_unfolding_all rfl))))
local macro_rules | `(tactic| walk_at "call") => `(tactic| ((with_reducible refine' Cl.eq (fn_trailing ?h1) ?hk); walk_at "s1"))
local macro_rules | `(tactic| walk_at "norm") => `(tactic| (try simp only [bitAnd_m1] at *))
local macro_rules | `(tactic| walk_at "call") => `(tactic| ((with_reducible refine' Cl.eq (fn_u_normalize ?hS ?h1 ?h2 ?h3) ?hk); (case hS => assumption); walk_at "s1"; walk_at "s2"; walk_at "s3"))
section
variable {w : World} {p : Program} {loose : List Str} {mean : ExcName → Option Value} {mg mb : Str → Option Value} {f : FI} {d : Nat} {X : Prop}

theorem fn_normalize {rnd : Str} {d0 d1 s : Int} {m prec : Nat} {e : Int} {dn : Bool} (S : Sd (hd.heap_39 w.params) rnd d0 d1) (hp : 1 ≤ prec) (hs : s = 0 ∨ s = 1) (hdn : (if s = 0 then d0 else d1) = if dn then 1 else 0) :
    Cl (GG w p loose mean mg mb) f (d + 3) (.ref 46) [.int s, .int m, .int e, .int (bl m : Nat), .int prec, .str rnd] (fun v => v = norm dn s m e prec) X := by
  refine' fn_enter (defs := []) (dvs := []) nsnormalize gsnormalize [] 0 ?ho ?hcd ?hbind ?hns ?hlen ?hok .nil ?hco ?hgen ?hcell ?hρ ?hb
  walk_at "enter"
  case hbind => (intro s vals X hl; match vals, hl with | [_, _, _, _, _, _], _ => exact BindsTo.of_eq rfl)
  repeat' walk_at "ms"
  rfl
local macro_rules | `(tactic| walk_at "call") => `(tactic| ((with_reducible refine' Cl.eq (fn_normalize ?hS ?h1 ?h2 ?h3) ?hk); (case hS => assumption); walk_at "s1"; walk_at "s2"; walk_at "s3"))

theorem leaf_even2 {s e : Int} {m : Nat} (h1 : m % 2 = 0) (h2 : ¬ ((2 * (m / 2 % 2) : Nat) : Int) = 0) : V.tup [.int s, .int ((m : Int) / 2 ^ (1 : Int).toNat), .int (e + 1), .int ((Builtin.Int.intBits m : Nat) - 1)] = canon s m e := by
  have hm : 0 < m := by omega
  have ho : m / 2 % 2 = 1 := by omega
  have hz : tz m = 1 := by
    have := tz_double (n := m / 2) (by omega)
    rw [show 2 * (m / 2) = m by omega, tz_odd ho] at this
    exact this
  have hod : odd m = m / 2 := by unfold odd; rw [hz]
  have hb : bl m = bl (m / 2) + 1 := by
    have := bl_mul_pow (n := m / 2) (by omega) 1
    rw [show m / 2 * 2 ^ 1 = m by omega] at this
    exact this
  unfold canon tup4
  rw [if_neg (by omega), hod, hz, intBits_nat, hb]
  congr 1
  have : (m : Int) / 2 ^ (1 : Int).toNat = ((m / 2 : Nat) : Int) := by
    show (m : Int) / 2 ^ 1 = _
    omega
  rw [this, show (((bl (m / 2) + 1 : Nat) : Int) - 1) = ((bl (m / 2) : Nat) : Int) by omega]
  rfl
theorem leaf_even {s e : Int} {m : Nat} (hm : 0 < m) : V.tup [.int s, .int ((m : Int) / 2 ^ ((tz m : Nat) : Int).toNat), .int (e + tz m), .int ((Builtin.Int.intBits m : Nat) - (tz m : Nat))] = canon s m e := by
  obtain ⟨ho, he⟩ := odd_spec hm
  have hb : bl m = bl (odd m) + tz m := by
    conv => lhs; rw [he]
    exact bl_mul_pow (by omega) _
  unfold canon tup4
  rw [if_neg (by omega), intBits_nat, Int.toNat_natCast, rd_down, show ((bl m : Nat) : Int) - (tz m : Nat) = (bl (odd m) : Nat) by omega]
  rfl
theorem leaf_odd {s e : Int} {m : Nat} (hm : m % 2 = 1) : V.tup [.int s, .int (m : Int), .int e, .int (Builtin.Int.intBits m : Nat)] = canon s m e := by
  unfold canon tup4
  have ho : odd m = m := by unfold odd; rw [tz_odd hm]; simp
  rw [if_neg (by omega), ho, tz_odd hm, intBits_nat]
  simp
theorem fn_from_man_exp0p {rnd : Str} {m : Nat} {e : Int} :
    Cl (GG w p loose mean mg mb) f (d + 2) (.ref 54) [.int m, .int e, .int 0, .str rnd] (fun v => v = canon 0 m e) X := by
  refine' fn_enter (defs := []) (dvs := []) nsfrom_man_exp gsfrom_man_exp [Str.ofString "sign", Str.ofString "bc", Str.ofString "t"] 3 ?ho ?hcd ?hbind ?hns ?hlen ?hok .nil ?hco ?hgen ?hcell ?hρ ?hb
  walk_at "enter"
  case hbind => (intro s vals X hl; match vals, hl with | [_, _, _, _], _ => exact binds_K X rfl (by (show List.lookup _ (hd.heap_39 _) = _); k_is) rfl rfl rfl)
  repeat' walk_at "ms"
  · rename_i h
    subst h
    rfl
  · rename_i h
    rw [bitAnd_two (by omega)] at h
    exact leaf_even2 (by omega) h
  · exact leaf_even (by omega)
  · exact leaf_odd (by omega)
theorem fn_from_man_exp0n {rnd : Str} {m : Nat} {e : Int} (hm : 0 < m) :
    Cl (GG w p loose mean mg mb) f (d + 2) (.ref 54) [.int (-(m : Int)), .int e, .int 0, .str rnd] (fun v => v = canon 1 m e) X := by
  refine' fn_enter (defs := []) (dvs := []) nsfrom_man_exp gsfrom_man_exp [Str.ofString "sign", Str.ofString "bc", Str.ofString "t"] 3 ?ho ?hcd ?hbind ?hns ?hlen ?hok .nil ?hco ?hgen ?hcell ?hρ ?hb
  walk_at "enter"
  case hbind => (intro s vals X hl; match vals, hl with | [_, _, _, _], _ => exact binds_K X rfl (by (show List.lookup _ (hd.heap_39 _) = _); k_is) rfl rfl rfl)
  repeat' walk_at "ms"
  · rename_i h
    rw [bitAnd_two (by omega)] at h
    exact leaf_even2 (by omega) h
  · exact leaf_even (by omega)
  · exact leaf_odd (by omega)
theorem fn_from_man_exp0 {rnd : Str} {i e : Int} :
    Cl (GG w p loose mean mg mb) f (d + 2) (.ref 54) [.int i, .int e, .int 0, .str rnd] (fun v => v = canon (if i < 0 then 1 else 0) i.natAbs e) X := by
  obtain ⟨m, hi⟩ := i.eq_nat_or_neg
  rcases hi with rfl | rfl
  · rw [if_neg (by omega), Int.natAbs_natCast]
    exact fn_from_man_exp0p
  · by_cases h0 : m = 0
    · subst h0
      exact fn_from_man_exp0p (m := 0)
    · rw [if_pos (by omega), Int.natAbs_neg, Int.natAbs_natCast]
      exact fn_from_man_exp0n (by omega)
theorem fn_from_man_expp {rnd : Str} {d0 d1 : Int} {m : Nat} {e : Int} {prec : Nat} {dn : Bool} (S : Sd (hd.heap_39 w.params) rnd d0 d1) (hp : 1 ≤ prec) (hdn : d0 = if dn then 1 else 0) :
    Cl (GG w p loose mean mg mb) f (d + 4) (.ref 54) [.int m, .int e, .int prec, .str rnd] (fun v => v = norm dn 0 m e prec) X := by
  refine' fn_enter (defs := []) (dvs := []) nsfrom_man_exp gsfrom_man_exp [Str.ofString "sign", Str.ofString "bc", Str.ofString "t"] 3 ?ho ?hcd ?hbind ?hns ?hlen ?hok .nil ?hco ?hgen ?hcell ?hρ ?hb
  walk_at "enter"
  case hbind => (intro s vals X hl; match vals, hl with | [_, _, _, _], _ => exact binds_K X rfl (by (show List.lookup _ (hd.heap_39 _) = _); k_is) rfl rfl rfl)
  repeat' walk_at "ms"
  rw [intBits_nat]
  refine Cl.eq (fn_normalize S hp (.inl rfl) (by simpa using hdn)) ?_
  repeat' walk_at "ms"
  rfl
theorem fn_from_man_expn {rnd : Str} {d0 d1 : Int} {m : Nat} {e : Int} {prec : Nat} {dn : Bool} (S : Sd (hd.heap_39 w.params) rnd d0 d1) (hp : 1 ≤ prec) (hm : 0 < m) (hdn : d1 = if dn then 1 else 0) :
    Cl (GG w p loose mean mg mb) f (d + 4) (.ref 54) [.int (-(m : Int)), .int e, .int prec, .str rnd] (fun v => v = norm dn 1 m e prec) X := by
  refine' fn_enter (defs := []) (dvs := []) nsfrom_man_exp gsfrom_man_exp [Str.ofString "sign", Str.ofString "bc", Str.ofString "t"] 3 ?ho ?hcd ?hbind ?hns ?hlen ?hok .nil ?hco ?hgen ?hcell ?hρ ?hb
  walk_at "enter"
  case hbind => (intro s vals X hl; match vals, hl with | [_, _, _, _], _ => exact binds_K X rfl (by (show List.lookup _ (hd.heap_39 _) = _); k_is) rfl rfl rfl)
  repeat' walk_at "ms"
  rw [intBits_nat]
  refine Cl.eq (fn_normalize S hp (.inr rfl) (by simpa using hdn)) ?_
  repeat' walk_at "ms"
  rfl
/-- two arguments -/
theorem fn_from_man_exp2p {m : Nat} {e : Int} :
    Cl (GG w p loose mean mg mb) f (d + 2) (.ref 54) [.int m, .int e] (fun v => v = canon 0 m e) X := by
  refine' fn_enter (defs := [.int 0 284, .str (Str.ofString "d") 212]) (dvs := [.int 0, .str (Str.ofString "d")]) nsfrom_man_exp gsfrom_man_exp [Str.ofString "sign", Str.ofString "bc", Str.ofString "t"] 3 ?ho ?hcd ?hbind ?hns ?hlen ?hok (.cons .int (.cons .str .nil)) ?hco ?hgen ?hcell ?hρ ?hb
  walk_at "enter"
  case hbind => (intro s vals X hl; match vals, hl with | [_, _], _ => exact binds_K X rfl (by (show List.lookup _ (hd.heap_39 _) = _); k_is) rfl rfl rfl)
  repeat' walk_at "ms"
  · rename_i h
    subst h
    rfl
  · rename_i h
    rw [bitAnd_two (by omega)] at h
    exact leaf_even2 (by omega) h
  · exact leaf_even (by omega)
  · exact leaf_odd (by omega)
theorem fn_from_man_exp2n {m : Nat} {e : Int} (hm : 0 < m) :
    Cl (GG w p loose mean mg mb) f (d + 2) (.ref 54) [.int (-(m : Int)), .int e] (fun v => v = canon 1 m e) X := by
  refine' fn_enter (defs := [.int 0 284, .str (Str.ofString "d") 212]) (dvs := [.int 0, .str (Str.ofString "d")]) nsfrom_man_exp gsfrom_man_exp [Str.ofString "sign", Str.ofString "bc", Str.ofString "t"] 3 ?ho ?hcd ?hbind ?hns ?hlen ?hok (.cons .int (.cons .str .nil)) ?hco ?hgen ?hcell ?hρ ?hb
  walk_at "enter"
  case hbind => (intro s vals X hl; match vals, hl with | [_, _], _ => exact binds_K X rfl (by (show List.lookup _ (hd.heap_39 _) = _); k_is) rfl rfl rfl)
  repeat' walk_at "ms"
  · rename_i h
    rw [bitAnd_two (by omega)] at h
    exact leaf_even2 (by omega) h
  · exact leaf_even (by omega)
  · exact leaf_odd (by omega)
end

end
section
local macro_rules | `(tactic| walk_at "opmore") => `(tactic| first
  | ((with_reducible refine' op_sd ?h1 ?hk ?h2); (case h1 => assumption); (case h2 => (intros; with_unfolding_all rfl)))
  | ((with_reducible refine' op_pair ?h1 ?hk ?h2); (case h1 => assumption); (case h2 => (intros; with_unfolding_all rfl))))
local macro_rules | `(tactic| walk_at "call") => `(tactic| ((with_reducible refine' Cl.eq (fn_trailing ?h1) ?hk); walk_at "s1"))
local macro_rules | `(tactic| walk_at "norm") => `(tactic| (try simp only [bitAnd_m1] at *))
local macro_rules | `(tactic| walk_at "call") => `(tactic| ((with_reducible refine' Cl.eq (fn_u_normalize ?hS ?h1 ?h2 ?h3) ?hk); (case hS => assumption); walk_at "s1"; walk_at "s2"; walk_at "s3"))
local macro_rules | `(tactic| walk_at "call") => `(tactic| ((with_reducible refine' Cl.eq (fn_normalize ?hS ?h1 ?h2 ?h3) ?hk); (case hS => assumption); walk_at "s1"; walk_at "s2"; walk_at "s3"))
local macro_rules | `(tactic| walk_at "call") => `(tactic| (with_reducible refine' Cl.eq fn_from_man_exp0 ?hk))
section
variable {w : World} {p : Program} {loose : List Str} {mean : ExcName → Option Value} {mg mb : Str → Option Value} {f : FI} {d : Nat} {X : Prop}

theorem fn_from_int1 {i : Int} : Cl (GG w p loose mean mg mb) f (d + 3) (.ref 62) [.int i] (fun v => v = canon (if i < 0 then 1 else 0) i.natAbs 0) X := by
  refine' fn_enter (defs := [.int 0 298, .str (Str.ofString "d") 212]) (dvs := [.int 0, .str (Str.ofString "d")]) nsfrom_int gsfrom_int [] 0 ?ho ?hcd ?hbind ?hns ?hlen ?hok (.cons .int (.cons .str .nil)) ?hco ?hgen ?hcell ?hρ ?hb
  walk_at "enter"
  case hbind => (intro s vals X hl; match vals, hl with | [_], _ => exact binds_K X rfl (by (show List.lookup _ (hd.heap_39 _) = _); k_is) rfl rfl rfl)
  repeat' walk_at "ms"
  rfl
theorem fn_from_intp {rnd : Str} {d0 d1 : Int} {m prec : Nat} {dn : Bool} (S : Sd (hd.heap_39 w.params) rnd d0 d1) (hp : 1 ≤ prec) (hdn : d0 = if dn then 1 else 0) :
    Cl (GG w p loose mean mg mb) f (d + 5) (.ref 62) [.int m, .int prec, .str rnd] (fun v => v = norm dn 0 m 0 prec) X := by
  refine' fn_enter (defs := []) (dvs := []) nsfrom_int gsfrom_int [] 0 ?ho ?hcd ?hbind ?hns ?hlen ?hok .nil ?hco ?hgen ?hcell ?hρ ?hb
  walk_at "enter"
  case hbind => (intro s vals X hl; match vals, hl with | [_, _, _], _ => exact binds_K X rfl (by (show List.lookup _ (hd.heap_39 _) = _); k_is) rfl rfl rfl)
  repeat' walk_at "ms"
  refine Cl.eq (fn_from_man_expp S hp hdn) ?_
  repeat' walk_at "ms"
  rfl
theorem fn_from_intn {rnd : Str} {d0 d1 : Int} {m prec : Nat} {dn : Bool} (S : Sd (hd.heap_39 w.params) rnd d0 d1) (hp : 1 ≤ prec) (hm : 0 < m) (hdn : d1 = if dn then 1 else 0) :
    Cl (GG w p loose mean mg mb) f (d + 5) (.ref 62) [.int (-(m : Int)), .int prec, .str rnd] (fun v => v = norm dn 1 m 0 prec) X := by
  refine' fn_enter (defs := []) (dvs := []) nsfrom_int gsfrom_int [] 0 ?ho ?hcd ?hbind ?hns ?hlen ?hok .nil ?hco ?hgen ?hcell ?hρ ?hb
  walk_at "enter"
  case hbind => (intro s vals X hl; match vals, hl with | [_, _, _], _ => exact binds_K X rfl (by (show List.lookup _ (hd.heap_39 _) = _); k_is) rfl rfl rfl)
  repeat' walk_at "ms"
  refine Cl.eq (fn_from_man_expn S hp hm hdn) ?_
  repeat' walk_at "ms"
  rfl
def dvx (M1 M2 prec : Nat) : Nat := if prec + bl M2 < bl M1 then 5 else prec + bl M2 - bl M1 + 5
def divV (dn : Bool) (s : Int) (M1 M2 : Nat) (E : Int) (prec : Nat) : V :=
  if M2 = 1 then norm dn s M1 E prec else
  if M1 * 2 ^ dvx M1 M2 prec % M2 = 0 then norm dn s (M1 * 2 ^ dvx M1 M2 prec / M2) (E - dvx M1 M2 prec) prec
  else norm dn s (M1 * 2 ^ dvx M1 M2 prec / M2 * 2 + 1) (E - (dvx M1 M2 prec + 1)) prec
theorem fn_mpf_div {rnd : Str} {d0 d1 s e1 e2 : Int} {M1 M2 prec : Nat} {dn : Bool} (S : Sd (hd.heap_39 w.params) rnd d0 d1) (hp : 1 ≤ prec) (hp' : prec ≤ 1000) (hs : s = 0 ∨ s = 1) (hdn : (if s = 0 then d0 else d1) = if dn then 1 else 0)
    (h1 : 0 < M1) (h2 : 0 < M2) (b1 : bl M1 ≤ 1000) (b2 : bl M2 ≤ 1000) :
    Cl (GG w p loose mean mg mb) f (d + 4) (.ref 175) [.tup [.int s, .int M1, .int e1, .int (bl M1 : Nat)], .tup [.int 0, .int M2, .int e2, .int (bl M2 : Nat)], .int prec, .str rnd] (fun v => v = divV dn s M1 M2 (e1 - e2) prec) X := by
  have g1 : (M1 : Int).natAbs < BIG := lt_big (k := 1000) (by rw [Int.natAbs_natCast]; exact bl_le.mp b1) (by decide)
  have g2 : (M2 : Int).natAbs < BIG := lt_big (k := 1000) (by rw [Int.natAbs_natCast]; exact bl_le.mp b2) (by decide)
  refine' fn_enter (defs := []) (dvs := []) nsmpf_div gsmpf_div [Str.ofString "ssign", Str.ofString "sman", Str.ofString "sexp", Str.ofString "sbc", Str.ofString "tsign", Str.ofString "tman", Str.ofString "texp", Str.ofString "tbc", Str.ofString "s_special", Str.ofString "t_special", Str.ofString "sign", Str.ofString "extra", Str.ofString "quot", Str.ofString "rem", Str.ofString "bc"] 15 ?ho ?hcd ?hbind ?hns ?hlen ?hok .nil ?hco ?hgen ?hcell ?hρ ?hb
  walk_at "enter"
  case hbind => (intro s vals X hl; match vals, hl with | [_, _, _, _], _ => exact binds_K X rfl (by (show List.lookup _ (hd.heap_39 _) = _); k_is) rfl rfl rfl)
  walk_at "st"
  walk_at "nx"
  walk_at "nx"
  walk_at "nx"
  walk_at "nx"
  · rename_i h
    unfold divV
    rw [if_pos (by omega)]
  rename_i hM
  walk_at "nx"
  refine then_next (exs_join (fun ρ => ρ = [some (.tup [.int s, .int M1, .int e1, .int (bl M1 : Nat)]), some (.tup [.int 0, .int M2, .int e2, .int (bl M2 : Nat)]), some (.int prec), some (.str rnd), some (.int s), some (.int M1), some (.int e1), some (.int (bl M1 : Nat)), some (.int 0), some (.int M2), some (.int e2), some (.int (bl M2 : Nat)),
      none, none, some (.int s), some (.int (dvx M1 M2 prec : Nat)), none, none, none]) ?_ ?_)
  · repeat' walk_at "ms"
    · rename_i h
      unfold dvx
      rw [if_pos (by omega)]
      rfl
    · rename_i h
      unfold dvx
      rw [if_neg (by omega)]
      rw [show (prec : Int) - bl M1 + bl M2 + 5 = ((prec + bl M2 - bl M1 + 5 : Nat) : Int) by omega]
      rfl
  rintro _ rfl
  have hx : dvx M1 M2 prec ≤ 3000 := by unfold dvx; split <;> omega
  refine exs_cons ?_
  repeat' walk_at "m1"
  have e0 : (M1 : Int) * 2 ^ ((dvx M1 M2 prec : Nat) : Int).toNat = ((M1 * 2 ^ dvx M1 M2 prec : Nat) : Int) := by
    rw [Int.toNat_natCast, Int.natCast_mul, Int.natCast_pow]; rfl
  rw [e0, ← Int.natCast_ediv, ← Int.natCast_emod]
  generalize hq : M1 * 2 ^ dvx M1 M2 prec / M2 = q
  have hqb : (q : Int).natAbs < BIG := by
    refine lt_big (k := 4000) ?_ (by decide)
    rw [Int.natAbs_natCast, ← hq]
    refine Nat.lt_of_le_of_lt (Nat.div_le_self _ _) (bl_le.mp ?_)
    rw [bl_mul_pow h1]
    omega
  generalize hr : M1 * 2 ^ dvx M1 M2 prec % M2 = r
  refine then_next (exs_join (fun ρ => ∃ (Q X : Nat), ρ = [some (.tup [.int s, .int M1, .int e1, .int (bl M1 : Nat)]), some (.tup [.int 0, .int M2, .int e2, .int (bl M2 : Nat)]), some (.int prec), some (.str rnd), some (.int s), some (.int M1), some (.int e1), some (.int (bl M1 : Nat)), some (.int 0), some (.int M2), some (.int e2), some (.int (bl M2 : Nat)),
      none, none, some (.int s), some (.int X), some (.int Q), some (.int r), none] ∧ norm dn s Q (e1 - e2 - X) prec = divV dn s M1 M2 (e1 - e2) prec) ?_ ?_)
  · repeat' walk_at "ms"
    · rename_i h
      refine ⟨q * 2 + 1, dvx M1 M2 prec + 1, rfl, ?_⟩
      unfold divV
      rw [if_neg (by omega), if_neg (by omega), hq]
      rfl
    · rename_i h
      refine ⟨q, dvx M1 M2 prec, rfl, ?_⟩
      unfold divV
      rw [if_neg (by omega), if_pos (by omega), hq]
  rintro _ ⟨Q, Y, rfl, hQ⟩
  repeat' walk_at "ms"
  rw [intBits_nat]
  refine Cl.eq (fn_normalize S hp hs hdn) ?_
  repeat' walk_at "ms"
  exact hQ
end

end
section
local macro_rules | `(tactic| walk_at "opmore") => `(tactic| first
  | ((with_reducible refine' op_sd ?h1 ?hk ?h2); (case h1 => assumption); (case h2 => (intros; with_unfolding_all rfl)))
  | ((with_reducible refine' op_pair ?h1 ?hk ?h2); (case h1 => assumption); (case h2 => (intros; with_unfolding_all rfl))))
local macro_rules | `(tactic| walk_at "call") => `(tactic| ((with_reducible refine' Cl.eq (fn_trailing ?h1) ?hk); walk_at "s1"))
local macro_rules | `(tactic| walk_at "norm") => `(tactic| (try simp only [bitAnd_m1] at *))
local macro_rules | `(tactic| walk_at "call") => `(tactic| ((with_reducible refine' Cl.eq (fn_u_normalize ?hS ?h1 ?h2 ?h3) ?hk); (case hS => assumption); walk_at "s1"; walk_at "s2"; walk_at "s3"))
local macro_rules | `(tactic| walk_at "call") => `(tactic| ((with_reducible refine' Cl.eq (fn_normalize ?hS ?h1 ?h2 ?h3) ?hk); (case hS => assumption); walk_at "s1"; walk_at "s2"; walk_at "s3"))
local macro_rules | `(tactic| walk_at "call") => `(tactic| (with_reducible refine' Cl.eq fn_from_man_exp0 ?hk))
section
variable {w : World} {p : Program} {loose : List Str} {mean : ExcName → Option Value} {mg mb : Str → Option Value} {f : FI} {d : Nat} {X : Prop}

@[irreducible] def N7 : Nat := 2 ^ 6999
theorem lt_N7 {m k : Nat} (h : m < 2 ^ k) (hk : k ≤ 6999) : m < N7 := by
  unfold N7
  exact Nat.lt_of_lt_of_le h (Nat.pow_le_pow_right (by decide) hk)
theorem bl_N7 {m : Nat} (h : bl m ≤ 1000) : m < N7 := lt_N7 (bl_le.mp h) (by decide)
theorem N7_bl {m : Nat} (h : m < 2 * N7) : bl m ≤ 7000 := by
  unfold N7 at h
  exact bl_le.mpr (by rw [Nat.pow_succ]; omega)
theorem mul_N7 {m : Nat} {i : Int} (h : bl m ≤ 1000) (hi : i ≤ 5000) : (m : Int) * 2 ^ i.toNat < N7 := by
  have a : m * 2 ^ i.toNat < N7 := by
    refine lt_N7 (k := 1000 + i.toNat) ?_ (by omega)
    rw [Nat.pow_add]
    exact Nat.mul_lt_mul_of_pos_right (bl_le.mp h) (Nat.pow_pos (by decide))
  have e := Int.ofNat_lt.mpr a
  rw [Int.natCast_mul, Int.natCast_pow] at e
  exact e
def NormOk (w : World) (p : Program) (loose : List Str) (mean : ExcName → Option Value) (mg mb : Str → Option Value) (X : Prop) (rnd : Str) (prec : Nat) (R : Int → Nat → Int → V) : Prop :=
  ∀ (f : FI) (d : Nat) (s : Int) (m : Nat) (e : Int), (s = 0 ∨ s = 1) → m < 2 * N7 → Cl (GG w p loose mean mg mb) f (d + 3) (.ref 46) [.int s, .int m, .int e, .int (bl m : Nat), .int prec, .str rnd] (fun v => v = R s m e) X
theorem NormOk.call {rnd : Str} {prec : Nat} {R : Int → Nat → Int → V} (N : NormOk w p loose mean mg mb X rnd prec R) {s i e : Int} {Φ : V → Prop} (hs : s = 0 ∨ s = 1) (hi : 0 ≤ i ∧ i.natAbs < 2 * N7) (h : Φ (R s i.natAbs e)) :
    Cl (GG w p loose mean mg mb) f (d + 3) (.ref 46) [.int s, .int i, .int e, .int (Builtin.Int.intBits i : Nat), .int prec, .str rnd] Φ X := by
  have e1 : i = ((i.natAbs : Nat) : Int) := by omega
  rw [intBits_int]
  conv => arg 5; rw [e1]
  exact Cl.eq (N f d s i.natAbs e hs hi.2) h
theorem NormOk.call' {rnd : Str} {prec : Nat} {R : Int → Nat → Int → V} (N : NormOk w p loose mean mg mb X rnd prec R) {s e : Int} {m : Nat} {Φ : V → Prop} (hs : s = 0 ∨ s = 1) (hm : m < 2 * N7) (h : Φ (R s m e)) :
    Cl (GG w p loose mean mg mb) f (d + 3) (.ref 46) [.int s, .int m, .int e, .int (bl m : Nat), .int prec, .str rnd] Φ X := Cl.eq (N f d s m e hs hm) h
def sgv (s : Int) (m : Int) : Int := if s = 0 then m else -m
def sg (i : Int) : Int := if i < 0 then 1 else 0
/-- the sum, over the lower exponent -/
def addI (s1 : Int) (M1 : Nat) (e1 : Int) (s2 : Int) (M2 : Nat) (e2 : Int) : Int := sgv s1 (M1 * 2 ^ (e1 - e2).toNat) + sgv s2 (M2 * 2 ^ (e2 - e1).toNat)
theorem add_leaf {R : Int → Nat → Int → V} {s i S e e' : Int} (h1 : S = sgv s i) (h2 : 0 ≤ i) (h3 : s = sg S ∨ (i = 0 ∧ R s 0 e = R (sg S) 0 e)) (h4 : e = e') : R s i.natAbs e = R (sg S) S.natAbs e' := by
  subst h4
  have : S.natAbs = i.natAbs := by unfold sgv at h1; split at h1 <;> omega
  rcases h3 with h3 | ⟨h3, h5⟩
  · rw [this, h3]
  · rw [this, h3]; exact h5
local macro_rules | `(tactic| walk_at "op") => `(tactic| ((with_reducible refine' op_ixorG ?h1 ?hk); (case h1 => assumption)))
local macro_rules | `(tactic| walk_at "side") => `(tactic| first | assumption | omega | decide)
local macro_rules | `(tactic| walk_at "call") => `(tactic| first
  | ((with_reducible refine' NormOk.call' ?hN ?h1 ?h2 ?hk); (case hN => assumption); walk_at "s1"; walk_at "s2")
  | ((with_reducible refine' NormOk.call ?hN ?h1 ?h2 ?hk); (case hN => assumption); walk_at "s1"; walk_at "s2"))
theorem fn_mpf_neg {s e : Int} {m : Nat} (hm : 0 < m) : Cl (GG w p loose mean mg mb) f (d + 1) (.ref 121) [.tup [.int s, .int m, .int e, .int (bl m : Nat)]] (fun v => v = .tup [.int (1 - s), .int m, .int e, .int (bl m : Nat)]) X := by
  refine' fn_enter (defs := [.int 0 383, .str (Str.ofString "d") 212]) (dvs := [.int 0, .str (Str.ofString "d")]) nsmpf_neg gsmpf_neg [Str.ofString "sign", Str.ofString "man", Str.ofString "exp", Str.ofString "bc"] 4 ?ho ?hcd ?hbind ?hns ?hlen ?hok (.cons .int (.cons .str .nil)) ?hco ?hgen ?hcell ?hρ ?hb
  walk_at "enter"
  case hbind => (intro s vals X hl; match vals, hl with | [_], _ => exact binds_K X rfl (by (show List.lookup _ (hd.heap_39 _) = _); k_is) rfl rfl rfl)
  repeat' walk_at "ms"
  rfl
theorem fn_mpf_neg0 : Cl (GG w p loose mean mg mb) f (d + 1) (.ref 121) [.tup [.int 0, .int 0, .int 0, .int 0]] (fun v => v = .tup [.int 0, .int 0, .int 0, .int 0]) X := by
  refine' fn_enter (defs := [.int 0 383, .str (Str.ofString "d") 212]) (dvs := [.int 0, .str (Str.ofString "d")]) nsmpf_neg gsmpf_neg [Str.ofString "sign", Str.ofString "man", Str.ofString "exp", Str.ofString "bc"] 4 ?ho ?hcd ?hbind ?hns ?hlen ?hok (.cons .int (.cons .str .nil)) ?hco ?hgen ?hcell ?hρ ?hb
  walk_at "enter"
  case hbind => (intro s vals X hl; match vals, hl with | [_], _ => exact binds_K X rfl (by (show List.lookup _ (hd.heap_39 _) = _); k_is) rfl rfl rfl)
  repeat' walk_at "ms"
  rfl
local macro_rules | `(tactic| walk_at "call") => `(tactic| first | (with_reducible refine' Cl.eq fn_mpf_neg0 ?hk) | ((with_reducible refine' Cl.eq (fn_mpf_neg ?h1) ?hk); walk_at "s1"))
abbrev addEnv (s1 M1 e1 b1 ts M2 e2 b2 prec : Int) (rnd : Str) (sb : Int) : Loc := [some (.tup [.int s1, .int M1, .int e1, .int b1]), some (.tup [.int ts, .int M2, .int e2, .int b2]), some (.int prec), some (.str rnd), some (.int sb), none, none, none, none, none, none, none, none, none, none, none, none]
theorem ent_mpf_add : ∃ fi body, Ent (GG w p loose mean mg mb) 144 5 [] [] fi body ∧ Ent (GG w p loose mean mg mb) 144 4 [.int 0 423] [.int 0] fi body ∧
    (∀ {rnd : Str} {s1 s2 ts sb e1 e2 : Int} {M1 M2 prec : Nat} {R : Int → Nat → Int → V} (N : NormOk w p loose mean mg mb X rnd prec R) (hp : 1 ≤ prec) (h1 : s1 = 0 ∨ s1 = 1) (h2 : s2 = 0 ∨ s2 = 1) (hx : Builtin.bitXor ts sb = s2)
      (m1 : 0 < M1) (m2 : 0 < M2) (b1 : bl M1 ≤ 1000) (b2 : bl M2 ≤ 1000) (he : e1 - e2 ≤ 5000) (he' : e2 - e1 ≤ 5000)
      (f1 : e1 - e2 ≤ 100 ∨ (bl M1 : Int) + e1 - bl M2 - e2 ≤ prec + 4) (f2 : e2 - e1 ≤ 100 ∨ (bl M2 : Int) + e2 - bl M1 - e1 ≤ prec + 4), 
      Exs (GG w p loose mean mg mb) fi (d + 3) body (addEnv s1 M1 e1 (bl M1 : Nat) ts M2 e2 (bl M2 : Nat) prec rnd sb) (fun fl _ => ∃ v, fl = .ret v ∧ v = R (sg (addI s1 M1 e1 s2 M2 e2)) (addI s1 M1 e1 s2 M2 e2).natAbs (if e1 < e2 then e1 else e2)) X) ∧
    (∀ {rnd : Str} {s2 ts sb e2 : Int} {M2 prec : Nat} {R : Int → Nat → Int → V} (N : NormOk w p loose mean mg mb X rnd prec R) (hp : 1 ≤ prec) (h2 : s2 = 0 ∨ s2 = 1) (hx : Builtin.bitXor ts sb = s2) (m2 : 0 < M2) (b2 : M2 < 2 * N7),
      Exs (GG w p loose mean mg mb) fi (d + 3) body (addEnv 0 0 0 0 ts M2 e2 (bl M2 : Nat) prec rnd sb) (fun fl _ => ∃ v, fl = .ret v ∧ v = R s2 M2 e2) X) ∧
    (∀ {rnd : Str} {s1 sb e1 : Int} {M1 prec : Nat} {R : Int → Nat → Int → V} (N : NormOk w p loose mean mg mb X rnd prec R) (hp : 1 ≤ prec) (h1 : s1 = 0 ∨ s1 = 1) (m1 : 0 < M1) (b1 : M1 < 2 * N7),
      Exs (GG w p loose mean mg mb) fi (d + 3) body (addEnv s1 M1 e1 (bl M1 : Nat) 0 0 0 0 prec rnd sb) (fun fl _ => ∃ v, fl = .ret v ∧ v = R s1 M1 e1) X) ∧
    (∀ {rnd : Str} {sb : Int} {prec : Nat} (hp : 1 ≤ prec), 
      Exs (GG w p loose mean mg mb) fi (d + 3) body (addEnv 0 0 0 0 0 0 0 0 prec rnd sb) (fun fl _ => ∃ v, fl = .ret v ∧ v = .tup [.int 0, .int 0, .int 0, .int 0]) X) := by
  refine' ent2_intro (defs := []) (dvs := []) (defs' := [.int 0 423]) (dvs' := [.int 0]) nsmpf_add gsmpf_add [Str.ofString "ssign", Str.ofString "sman", Str.ofString "sexp", Str.ofString "sbc", Str.ofString "tsign", Str.ofString "tman", Str.ofString "texp", Str.ofString "tbc", Str.ofString "offset", Str.ofString "delta", Str.ofString "man", Str.ofString "bc"] ?ho ?hcd ?hbind ?hbind2 ?hns ?hlen ?hlen2 ?hok .nil (.cons .int .nil) ?hco ?hgen ?hcell ?hb
  case ho => (show List.lookup _ (hd.heap_39 _) = _; k_is)
  case hcd => (show codeIn (hd.heap_39 _) _ _ = _; k_is)
  case hbind => (intro s vals X hl; match vals, hl with | [_, _, _, _, _], _ => first | exact BindsTo.of_eq rfl | exact binds_K X rfl (by (show List.lookup _ (hd.heap_39 _) = _); k_is) rfl rfl rfl)
  case hbind2 => (intro s vals X hl; match vals, hl with | [_, _, _, _], _ => first | exact BindsTo.of_eq rfl | exact binds_K X rfl (by (show List.lookup _ (hd.heap_39 _) = _); k_is) rfl rfl rfl)
  case hlen => rfl
  case hlen2 => rfl
  case hns => rfl
  case hok => exact ok_plain rfl (by decide +kernel) (by decide +kernel) (by decide +kernel)
  case hco => rfl
  case hgen => rfl
  case hcell => decide
  case hb =>
   refine ⟨?_, ?_, ?_, ?_⟩
   rotate_left
   · intros
     repeat' walk_at "ms"
     all_goals rfl
   · intros
     repeat' walk_at "ms"
     all_goals rfl
   · intros
     repeat' walk_at "ms"
     all_goals rfl
   intro rnd s1 s2 ts sb e1 e2 M1 M2 prec R N hp h1 h2 hx m1 m2 b1 b2 he he' f1 f2
   have g1 : (M1 : Int).natAbs < BIG := lt_big (k := 1000) (by rw [Int.natAbs_natCast]; exact bl_le.mp b1) (by decide)
   have g2 : (M2 : Int).natAbs < BIG := lt_big (k := 1000) (by rw [Int.natAbs_natCast]; exact bl_le.mp b2) (by decide)
   have p1 : 0 ≤ (M1 : Int) * 2 ^ (e1 - e2).toNat := Int.mul_nonneg (by omega) (Int.le_of_lt (Int.pow_pos (by decide)))
   have p2 : 0 ≤ (M2 : Int) * 2 ^ (-(e1 - e2)).toNat := Int.mul_nonneg (by omega) (Int.le_of_lt (Int.pow_pos (by decide)))
   have n1 : (M1 : Int) * 2 ^ (e1 - e2).toNat < N7 := mul_N7 b1 he
   have n2 : (M2 : Int) * 2 ^ (-(e1 - e2)).toNat < N7 := mul_N7 b2 (by omega)
   have n3 := bl_N7 b1
   have n4 := bl_N7 b2
   walk_at "st"
   walk_at "nx"
   walk_at "nx"
   walk_at "nx"
   refine then_next (exs_cons ?_)
   repeat' walk_at "m0"
   refine exs_cons ?_
   repeat' walk_at "m0"
   · rename_i hlt
     have hz : (e2 - e1).toNat = 0 := by omega
     refine exs_join (fun ρ => ∃ dv, ρ = [some (.tup [.int s1, .int M1, .int e1, .int (bl M1 : Nat)]), some (.tup [.int ts, .int M2, .int e2, .int (bl M2 : Nat)]), some (.int prec), some (.str rnd), some (.int sb), some (.int s1), some (.int M1), some (.int e1), some (.int (bl M1 : Nat)), some (.int s2), some (.int M2), some (.int e2), some (.int (bl M2 : Nat)),
       some (.int (e1 - e2)), dv, none, none]) ?_ ?_
     · repeat' walk_at "ms"
       all_goals exact ⟨_, rfl⟩
     · rintro _ ⟨dv, rfl⟩
       repeat' walk_at "ms"
       all_goals (refine add_leaf ?_ (by omega) (.inl ?_) (by rw [if_neg (by omega)]) <;> (rcases h1 with rfl | rfl) <;> (rcases h2 with rfl | rfl) <;> simp [addI, sgv, sg, hz] at * <;> omega)
   · refine exs_cons ?_
     repeat' walk_at "m0"
     rename_i hlt hlt2
     have hz : (e1 - e2).toNat = 0 := by omega
     have hz2 : (-(e1 - e2)).toNat = (e2 - e1).toNat := by omega
     refine exs_join (fun ρ => ∃ dv, ρ = [some (.tup [.int s1, .int M1, .int e1, .int (bl M1 : Nat)]), some (.tup [.int ts, .int M2, .int e2, .int (bl M2 : Nat)]), some (.int prec), some (.str rnd), some (.int sb), some (.int s1), some (.int M1), some (.int e1), some (.int (bl M1 : Nat)), some (.int s2), some (.int M2), some (.int e2), some (.int (bl M2 : Nat)),
       some (.int (e1 - e2)), dv, none, none]) ?_ ?_
     · repeat' walk_at "ms"
       all_goals exact ⟨_, rfl⟩
     · rintro _ ⟨dv, rfl⟩
       repeat' walk_at "ms"
       all_goals (refine add_leaf ?_ (by omega) (.inl ?_) (by rw [if_pos (by omega)]) <;> (rcases h1 with rfl | rfl) <;> (rcases h2 with rfl | rfl) <;> simp [addI, sgv, sg, hz, hz2] at * <;> omega)
   · rename_i heq
     have hz : (e1 - e2).toNat = 0 := by omega
     have hz2 : (e2 - e1).toNat = 0 := by omega
     repeat' walk_at "ms"
     all_goals (refine add_leaf ?_ (by omega) (.inl ?_) (by rw [if_neg (by omega)]) <;> (rcases h1 with rfl | rfl) <;> (rcases h2 with rfl | rfl) <;> simp [addI, sgv, sg, hz, hz2] at * <;> omega)
end

end
section
local macro_rules | `(tactic| walk_at "opmore") => `(tactic| first
  | ((with_reducible refine' op_sd ?h1 ?hk ?h2); (case h1 => assumption); (case h2 => (intros; with_unfolding_all rfl)))
  | ((with_reducible refine' op_pair ?h1 ?hk ?h2); (case h1 => assumption); (case h2 => (intros; with_unfolding_all rfl))))
local macro_rules | `(tactic| walk_at "call") => `(tactic| ((with_reducible refine' Cl.eq (fn_trailing ?h1) ?hk); walk_at "s1"))
local macro_rules | `(tactic| walk_at "norm") => `(tactic| (try simp only [bitAnd_m1] at *))
local macro_rules | `(tactic| walk_at "call") => `(tactic| ((with_reducible refine' Cl.eq (fn_u_normalize ?hS ?h1 ?h2 ?h3) ?hk); (case hS => assumption); walk_at "s1"; walk_at "s2"; walk_at "s3"))
local macro_rules | `(tactic| walk_at "call") => `(tactic| ((with_reducible refine' Cl.eq (fn_normalize ?hS ?h1 ?h2 ?h3) ?hk); (case hS => assumption); walk_at "s1"; walk_at "s2"; walk_at "s3"))
local macro_rules | `(tactic| walk_at "call") => `(tactic| (with_reducible refine' Cl.eq fn_from_man_exp0 ?hk))
local macro_rules | `(tactic| walk_at "call") => `(tactic| first
  | ((with_reducible refine' NormOk.call' ?hN ?h1 ?h2 ?hk); (case hN => assumption); walk_at "s1"; walk_at "s2")
  | ((with_reducible refine' NormOk.call ?hN ?h1 ?h2 ?hk); (case hN => assumption); walk_at "s1"; walk_at "s2"))
local macro_rules | `(tactic| walk_at "call") => `(tactic| first | (with_reducible refine' Cl.eq fn_mpf_neg0 ?hk) | ((with_reducible refine' Cl.eq (fn_mpf_neg ?h1) ?hk); walk_at "s1"))
section
variable {w : World} {p : Program} {loose : List Str} {mean : ExcName → Option Value} {mg mb : Str → Option Value} {f : FI} {d : Nat} {X : Prop}

def dnOf (d0 d1 s : Int) : Bool := (if s = 0 then d0 else d1) != 0
theorem normOk_dir {rnd : Str} {d0 d1 : Int} {prec : Nat} (S : Sd (hd.heap_39 w.params) rnd d0 d1) (h0 : d0 = 0 ∨ d0 = 1) (h1 : d1 = 0 ∨ d1 = 1) (hp : 1 ≤ prec) :
    NormOk w p loose mean mg mb X rnd prec (fun s m e => norm (dnOf d0 d1 s) s m e prec) := fun f d s m e hs _ => by
  refine fn_normalize S hp hs ?_
  unfold dnOf
  rcases h0 with rfl | rfl <;> rcases h1 with rfl | rfl <;> rcases hs with rfl | rfl <;> rfl
theorem fn_add5 {rnd : Str} {s1 s2 ts sb e1 e2 : Int} {M1 M2 prec : Nat} {R : Int → Nat → Int → V} (N : NormOk w p loose mean mg mb X rnd prec R) (hp : 1 ≤ prec) (h1 : s1 = 0 ∨ s1 = 1) (h2 : s2 = 0 ∨ s2 = 1) (hx : Builtin.bitXor ts sb = s2)
    (m1 : 0 < M1) (m2 : 0 < M2) (b1 : bl M1 ≤ 1000) (b2 : bl M2 ≤ 1000) (he : e1 - e2 ≤ 5000) (he' : e2 - e1 ≤ 5000)
    (f1 : e1 - e2 ≤ 100 ∨ (bl M1 : Int) + e1 - bl M2 - e2 ≤ prec + 4) (f2 : e2 - e1 ≤ 100 ∨ (bl M2 : Int) + e2 - bl M1 - e1 ≤ prec + 4) :
    Cl (GG w p loose mean mg mb) f (d + 4) (.ref 144) [.tup [.int s1, .int M1, .int e1, .int (bl M1 : Nat)], .tup [.int ts, .int M2, .int e2, .int (bl M2 : Nat)], .int prec, .str rnd, .int sb]
      (fun v => v = R (sg (addI s1 M1 e1 s2 M2 e2)) (addI s1 M1 e1 s2 M2 e2).natAbs (if e1 < e2 then e1 else e2)) X := by
  obtain ⟨fi, body, E5, E4, h, -⟩ := ent_mpf_add (w := w) (p := p) (loose := loose) (mean := mean) (mg := mg) (mb := mb) (d := d) (X := X)
  exact E5.cl rfl 12 rfl (h N hp h1 h2 hx m1 m2 b1 b2 he he' f1 f2)
theorem fn_add4 {rnd : Str} {s1 s2 e1 e2 : Int} {M1 M2 prec : Nat} {R : Int → Nat → Int → V} (N : NormOk w p loose mean mg mb X rnd prec R) (hp : 1 ≤ prec) (h1 : s1 = 0 ∨ s1 = 1) (h2 : s2 = 0 ∨ s2 = 1)
    (m1 : 0 < M1) (m2 : 0 < M2) (b1 : bl M1 ≤ 1000) (b2 : bl M2 ≤ 1000) (he : e1 - e2 ≤ 5000) (he' : e2 - e1 ≤ 5000)
    (f1 : e1 - e2 ≤ 100 ∨ (bl M1 : Int) + e1 - bl M2 - e2 ≤ prec + 4) (f2 : e2 - e1 ≤ 100 ∨ (bl M2 : Int) + e2 - bl M1 - e1 ≤ prec + 4) :
    Cl (GG w p loose mean mg mb) f (d + 4) (.ref 144) [.tup [.int s1, .int M1, .int e1, .int (bl M1 : Nat)], .tup [.int s2, .int M2, .int e2, .int (bl M2 : Nat)], .int prec, .str rnd]
      (fun v => v = R (sg (addI s1 M1 e1 s2 M2 e2)) (addI s1 M1 e1 s2 M2 e2).natAbs (if e1 < e2 then e1 else e2)) X := by
  obtain ⟨fi, body, E5, E4, h, -⟩ := ent_mpf_add (w := w) (p := p) (loose := loose) (mean := mean) (mg := mg) (mb := mb) (d := d) (X := X)
  exact E4.cl rfl 12 rfl (h N hp h1 h2 (bitXor_zero _) m1 m2 b1 b2 he he' f1 f2)
theorem fn_add_z1 {rnd : Str} {s2 ts sb e2 : Int} {M2 prec : Nat} {R : Int → Nat → Int → V} (N : NormOk w p loose mean mg mb X rnd prec R) (hp : 1 ≤ prec) (h2 : s2 = 0 ∨ s2 = 1) (hx : Builtin.bitXor ts sb = s2) (m2 : 0 < M2) (b2 : M2 < 2 * N7) :
    Cl (GG w p loose mean mg mb) f (d + 4) (.ref 144) [.tup [.int 0, .int 0, .int 0, .int 0], .tup [.int ts, .int M2, .int e2, .int (bl M2 : Nat)], .int prec, .str rnd, .int sb] (fun v => v = R s2 M2 e2) X ∧
    (sb = 0 → Cl (GG w p loose mean mg mb) f (d + 4) (.ref 144) [.tup [.int 0, .int 0, .int 0, .int 0], .tup [.int ts, .int M2, .int e2, .int (bl M2 : Nat)], .int prec, .str rnd] (fun v => v = R s2 M2 e2) X) := by
  obtain ⟨fi, body, E5, E4, -, h, -⟩ := ent_mpf_add (w := w) (p := p) (loose := loose) (mean := mean) (mg := mg) (mb := mb) (d := d) (X := X)
  exact ⟨E5.cl rfl 12 rfl (h N hp h2 hx m2 b2), fun e => E4.cl rfl 12 rfl (by subst e; exact h N hp h2 hx m2 b2)⟩
theorem fn_add_z2 {rnd : Str} {s1 sb e1 : Int} {M1 prec : Nat} {R : Int → Nat → Int → V} (N : NormOk w p loose mean mg mb X rnd prec R) (hp : 1 ≤ prec) (h1 : s1 = 0 ∨ s1 = 1) (m1 : 0 < M1) (b1 : M1 < 2 * N7) :
    Cl (GG w p loose mean mg mb) f (d + 4) (.ref 144) [.tup [.int s1, .int M1, .int e1, .int (bl M1 : Nat)], .tup [.int 0, .int 0, .int 0, .int 0], .int prec, .str rnd, .int sb] (fun v => v = R s1 M1 e1) X ∧
    (sb = 0 → Cl (GG w p loose mean mg mb) f (d + 4) (.ref 144) [.tup [.int s1, .int M1, .int e1, .int (bl M1 : Nat)], .tup [.int 0, .int 0, .int 0, .int 0], .int prec, .str rnd] (fun v => v = R s1 M1 e1) X) := by
  obtain ⟨fi, body, E5, E4, -, -, h, -⟩ := ent_mpf_add (w := w) (p := p) (loose := loose) (mean := mean) (mg := mg) (mb := mb) (d := d) (X := X)
  exact ⟨E5.cl rfl 12 rfl (h N hp h1 m1 b1), fun e => E4.cl rfl 12 rfl (by subst e; exact h N hp h1 m1 b1)⟩
theorem fn_add_z3 {rnd : Str} {sb : Int} {prec : Nat} (hp : 1 ≤ prec) :
    Cl (GG w p loose mean mg mb) f (d + 4) (.ref 144) [.tup [.int 0, .int 0, .int 0, .int 0], .tup [.int 0, .int 0, .int 0, .int 0], .int prec, .str rnd, .int sb] (fun v => v = .tup [.int 0, .int 0, .int 0, .int 0]) X ∧
    (sb = 0 → Cl (GG w p loose mean mg mb) f (d + 4) (.ref 144) [.tup [.int 0, .int 0, .int 0, .int 0], .tup [.int 0, .int 0, .int 0, .int 0], .int prec, .str rnd] (fun v => v = .tup [.int 0, .int 0, .int 0, .int 0]) X) := by
  obtain ⟨fi, body, E5, E4, -, -, -, h⟩ := ent_mpf_add (w := w) (p := p) (loose := loose) (mean := mean) (mg := mg) (mb := mb) (d := d) (X := X)
  exact ⟨E5.cl rfl 12 rfl (h hp), fun e => E4.cl rfl 12 rfl (by subst e; exact h hp)⟩
/-- a number as the four hold it -/
structure Mpf (v : V) (s : Int) (M : Nat) (e : Int) : Prop where
  hv : v = .tup [.int s, .int M, .int e, .int (bl M : Nat)]
  hs : s = 0 ∨ s = 1
  hm : M % 2 = 1 ∨ (M = 0 ∧ s = 0 ∧ e = 0)
  hb : bl M ≤ 1000
theorem mpf_canon {s e : Int} {m : Nat} (hs : s = 0 ∨ s = 1) (hm : 0 < m) (hb : bl m ≤ 1000) : Mpf (canon s m e) s (odd m) (e + tz m) := by
  have ho := odd_spec hm
  refine ⟨canon_pos hm, hs, .inl ho.1, Nat.le_trans (bl_mono ?_) hb⟩
  unfold odd
  exact Nat.div_le_self _ _
theorem mpf_zero : Mpf (.tup [.int 0, .int 0, .int 0, .int 0]) 0 0 0 := ⟨rfl, .inl rfl, .inr ⟨rfl, rfl, rfl⟩, by decide⟩
/-- sums of two such, and their sign -/
def addV (R : Int → Nat → Int → V) (s1 : Int) (M1 : Nat) (e1 : Int) (s2 : Int) (M2 : Nat) (e2 : Int) : V :=
  if M1 = 0 then (if M2 = 0 then .tup [.int 0, .int 0, .int 0, .int 0] else R s2 M2 e2) else if M2 = 0 then R s1 M1 e1 else R (sg (addI s1 M1 e1 s2 M2 e2)) (addI s1 M1 e1 s2 M2 e2).natAbs (if e1 < e2 then e1 else e2)
structure Near (prec : Nat) (M1 : Nat) (e1 : Int) (M2 : Nat) (e2 : Int) : Prop where
  he : M1 = 0 ∨ M2 = 0 ∨ e1 - e2 ≤ 5000
  he' : M1 = 0 ∨ M2 = 0 ∨ e2 - e1 ≤ 5000
  f1 : M1 = 0 ∨ M2 = 0 ∨ e1 - e2 ≤ 100 ∨ (bl M1 : Int) + e1 - bl M2 - e2 ≤ prec + 4
  f2 : M1 = 0 ∨ M2 = 0 ∨ e2 - e1 ≤ 100 ∨ (bl M2 : Int) + e2 - bl M1 - e1 ≤ prec + 4
theorem bitXor_one {s : Int} (h : s = 0 ∨ s = 1) : Builtin.bitXor s 1 = 1 - s := by rcases h with rfl | rfl <;> decide
theorem fn_mpf_add {rnd : Str} {s1 s2 e1 e2 : Int} {v1 v2 : V} {M1 M2 prec : Nat} {R : Int → Nat → Int → V} (N : NormOk w p loose mean mg mb X rnd prec R) (hp : 1 ≤ prec) (h1 : Mpf v1 s1 M1 e1) (h2 : Mpf v2 s2 M2 e2) (hn : Near prec M1 e1 M2 e2) :
    Cl (GG w p loose mean mg mb) f (d + 4) (.ref 144) [v1, v2, .int prec, .str rnd] (fun v => v = addV R s1 M1 e1 s2 M2 e2) X := by
  obtain ⟨rfl, hs1, hm1, hb1⟩ := h1
  obtain ⟨rfl, hs2, hm2, hb2⟩ := h2
  obtain ⟨a1, a2, a3, a4⟩ := hn
  unfold addV
  by_cases z1 : M1 = 0
  · obtain ⟨rfl, rfl, rfl⟩ : M1 = 0 ∧ s1 = 0 ∧ e1 = 0 := by omega
    rw [if_pos rfl]
    by_cases z2 : M2 = 0
    · obtain ⟨rfl, rfl, rfl⟩ : M2 = 0 ∧ s2 = 0 ∧ e2 = 0 := by omega
      rw [if_pos rfl]
      exact (fn_add_z3 hp).2 rfl
    · rw [if_neg z2]
      exact (fn_add_z1 N hp hs2 (bitXor_zero _) (by omega) (by have := bl_N7 hb2; omega)).2 rfl
  · rw [if_neg z1]
    by_cases z2 : M2 = 0
    · obtain ⟨rfl, rfl, rfl⟩ : M2 = 0 ∧ s2 = 0 ∧ e2 = 0 := by omega
      rw [if_pos rfl]
      exact (fn_add_z2 N hp hs1 (by omega) (by have := bl_N7 hb1; omega)).2 rfl
    · rw [if_neg z2]
      exact fn_add4 N hp hs1 hs2 (by omega) (by omega) hb1 hb2 (by omega) (by omega) (by omega) (by omega)
theorem fn_mpf_sub {rnd : Str} {s1 s2 e1 e2 : Int} {v1 v2 : V} {M1 M2 prec : Nat} {R : Int → Nat → Int → V} (N : NormOk w p loose mean mg mb X rnd prec R) (hp : 1 ≤ prec) (h1 : Mpf v1 s1 M1 e1) (h2 : Mpf v2 s2 M2 e2) (hn : Near prec M1 e1 M2 e2) :
    Cl (GG w p loose mean mg mb) f (d + 5) (.ref 152) [v1, v2, .int prec, .str rnd] (fun v => v = addV R s1 M1 e1 (1 - s2) M2 e2) X := by
  obtain ⟨rfl, hs1, hm1, hb1⟩ := h1
  obtain ⟨rfl, hs2, hm2, hb2⟩ := h2
  obtain ⟨a1, a2, a3, a4⟩ := hn
  refine' fn_enter (defs := []) (dvs := []) nsmpf_sub gsmpf_sub [] 0 ?ho ?hcd ?hbind ?hns ?hlen ?hok .nil ?hco ?hgen ?hcell ?hρ ?hb
  walk_at "enter"
  case hbind => (intro s vals X hl; match vals, hl with | [_, _, _, _], _ => exact binds_K X rfl (by (show List.lookup _ (hd.heap_39 _) = _); k_is) rfl rfl rfl)
  repeat' walk_at "ms"
  unfold addV
  by_cases z1 : M1 = 0
  · obtain ⟨rfl, rfl, rfl⟩ : M1 = 0 ∧ s1 = 0 ∧ e1 = 0 := by omega
    rw [if_pos rfl]
    by_cases z2 : M2 = 0
    · obtain ⟨rfl, rfl, rfl⟩ : M2 = 0 ∧ s2 = 0 ∧ e2 = 0 := by omega
      rw [if_pos rfl]
      refine Cl.eq (fn_add_z3 hp).1 ?_
      repeat' walk_at "ms"
      rfl
    · rw [if_neg z2]
      refine Cl.eq (fn_add_z1 N hp (s2 := 1 - s2) (by omega) (bitXor_one hs2) (by omega) (by have := bl_N7 hb2; omega)).1 ?_
      repeat' walk_at "ms"
      rfl
  · rw [if_neg z1]
    by_cases z2 : M2 = 0
    · obtain ⟨rfl, rfl, rfl⟩ : M2 = 0 ∧ s2 = 0 ∧ e2 = 0 := by omega
      rw [if_pos rfl]
      refine Cl.eq (fn_add_z2 N hp hs1 (by omega) (by have := bl_N7 hb1; omega)).1 ?_
      repeat' walk_at "ms"
      rfl
    · rw [if_neg z2]
      refine Cl.eq (fn_add5 N hp hs1 (s2 := 1 - s2) (by omega) (bitXor_one hs2) (by omega) (by omega) hb1 hb2 (by omega) (by omega) (by omega) (by omega)) ?_
      repeat' walk_at "ms"
      rfl
end

end
section
local macro_rules | `(tactic| walk_at "opmore") => `(tactic| first
  | ((with_reducible refine' op_sd ?h1 ?hk ?h2); (case h1 => assumption); (case h2 => (intros; with_unfolding_all rfl)))
  | ((with_reducible refine' op_pair ?h1 ?hk ?h2); (case h1 => assumption); (case h2 => (intros; with_unfolding_all rfl))))
local macro_rules | `(tactic| walk_at "call") => `(tactic| ((with_reducible refine' Cl.eq (fn_trailing ?h1) ?hk); walk_at "s1"))
local macro_rules | `(tactic| walk_at "norm") => `(tactic| (try simp only [bitAnd_m1] at *))
local macro_rules | `(tactic| walk_at "call") => `(tactic| ((with_reducible refine' Cl.eq (fn_u_normalize ?hS ?h1 ?h2 ?h3) ?hk); (case hS => assumption); walk_at "s1"; walk_at "s2"; walk_at "s3"))
local macro_rules | `(tactic| walk_at "call") => `(tactic| ((with_reducible refine' Cl.eq (fn_normalize ?hS ?h1 ?h2 ?h3) ?hk); (case hS => assumption); walk_at "s1"; walk_at "s2"; walk_at "s3"))
local macro_rules | `(tactic| walk_at "call") => `(tactic| (with_reducible refine' Cl.eq fn_from_man_exp0 ?hk))
local macro_rules | `(tactic| walk_at "call") => `(tactic| first
  | ((with_reducible refine' NormOk.call' ?hN ?h1 ?h2 ?hk); (case hN => assumption); walk_at "s1"; walk_at "s2")
  | ((with_reducible refine' NormOk.call ?hN ?h1 ?h2 ?hk); (case hN => assumption); walk_at "s1"; walk_at "s2"))
local macro_rules | `(tactic| walk_at "call") => `(tactic| first | (with_reducible refine' Cl.eq fn_mpf_neg0 ?hk) | ((with_reducible refine' Cl.eq (fn_mpf_neg ?h1) ?hk); walk_at "s1"))
section
variable {w : World} {p : Program} {loose : List Str} {mean : ExcName → Option Value} {mg mb : Str → Option Value} {f : FI} {d : Nat} {X : Prop}

theorem fn_mpf_mul {rnd : Str} {e1 e2 : Int} {M1 M2 prec : Nat} {R : Int → Nat → Int → V} (N : NormOk w p loose mean mg mb X rnd prec R) (hp : 1 ≤ prec) (m1 : 0 < M1) (m2 : 0 < M2) (b1 : bl M1 ≤ 1000) (b2 : bl M2 ≤ 1000) :
    Cl (GG w p loose mean mg mb) f (d + 4) (.ref 160) [.tup [.int 0, .int M1, .int e1, .int (bl M1 : Nat)], .tup [.int 0, .int M2, .int e2, .int (bl M2 : Nat)], .int prec, .str rnd] (fun v => v = R 0 (M1 * M2) (e1 + e2)) X := by
  have g1 : (M1 : Int).natAbs < BIG := lt_big (k := 1000) (by rw [Int.natAbs_natCast]; exact bl_le.mp b1) (by decide)
  have g2 : (M2 : Int).natAbs < BIG := lt_big (k := 1000) (by rw [Int.natAbs_natCast]; exact bl_le.mp b2) (by decide)
  have hz : (M1 : Int) * M2 ≠ 0 := by
    have := Nat.mul_pos m1 m2
    rw [← Int.natCast_mul]; omega
  have hz0 : 0 ≤ (M1 : Int) * M2 := by rw [← Int.natCast_mul]; omega
  have hz1 : ((M1 : Int) * M2).natAbs < 2 * N7 := by
    rw [← Int.natCast_mul, Int.natAbs_natCast]
    have : M1 * M2 < N7 := lt_N7 (k := 2000) (by
      rw [show 2000 = 1000 + 1000 from rfl, Nat.pow_add]
      exact Nat.mul_lt_mul'' (bl_le.mp b1) (bl_le.mp b2)) (by decide)
    omega
  refine' fn_enter (defs := []) (dvs := []) nsmpf_mul gsmpf_mul [Str.ofString "ssign", Str.ofString "sman", Str.ofString "sexp", Str.ofString "sbc", Str.ofString "tsign", Str.ofString "tman", Str.ofString "texp", Str.ofString "tbc", Str.ofString "sign", Str.ofString "man", Str.ofString "bc", Str.ofString "s_special", Str.ofString "t_special"] 13 ?ho ?hcd ?hbind ?hns ?hlen ?hok .nil ?hco ?hgen ?hcell ?hρ ?hb
  walk_at "enter"
  case hbind => (intro s vals X hl; match vals, hl with | [_, _, _, _], _ => exact binds_K X rfl (by (show List.lookup _ (hd.heap_39 _) = _); k_is) rfl rfl rfl)
  repeat' walk_at "ms"
  exact congrArg (fun k => R 0 k (e1 + e2)) (by rw [← Int.natCast_mul, Int.natAbs_natCast])
theorem fn_mpf_mul0 {rnd : Str} {s1 e1 s2 e2 b1 b2 prec : Int} {M1 M2 : Nat} (h : (M1 = 0 ∧ e1 = 0) ∨ (M2 = 0 ∧ e2 = 0)) (g1 : (M1 : Int).natAbs < BIG) (g2 : (M2 : Int).natAbs < BIG) (k1 : M1 = 0 → e1 = 0) (k2 : M2 = 0 → e2 = 0) :
    Cl (GG w p loose mean mg mb) f (d + 4) (.ref 160) [.tup [.int 0, .int M1, .int e1, .int b1], .tup [.int 0, .int M2, .int e2, .int b2], .int prec, .str rnd] (fun v => v = .tup [.int 0, .int 0, .int 0, .int 0]) X := by
  have hz : (M1 : Int) * M2 = 0 := by
    rcases h with ⟨h, -⟩ | ⟨h, -⟩ <;> subst h <;> simp
  refine' fn_enter (defs := []) (dvs := []) nsmpf_mul gsmpf_mul [Str.ofString "ssign", Str.ofString "sman", Str.ofString "sexp", Str.ofString "sbc", Str.ofString "tsign", Str.ofString "tman", Str.ofString "texp", Str.ofString "tbc", Str.ofString "sign", Str.ofString "man", Str.ofString "bc", Str.ofString "s_special", Str.ofString "t_special"] 13 ?ho ?hcd ?hbind ?hns ?hlen ?hok .nil ?hco ?hgen ?hcell ?hρ ?hb
  walk_at "enter"
  case hbind => (intro s vals X hl; match vals, hl with | [_, _, _, _], _ => exact binds_K X rfl (by (show List.lookup _ (hd.heap_39 _) = _); k_is) rfl rfl rfl)
  repeat' walk_at "ms"
  all_goals rfl
theorem fn_mpf_abs {v : V} {s e : Int} {M : Nat} (h : Mpf v s M e) : Cl (GG w p loose mean mg mb) f (d + 1) (.ref 129) [v] (fun v => v = .tup [.int 0, .int M, .int e, .int (bl M : Nat)]) X := by
  obtain ⟨rfl, hs, hm, hb⟩ := h
  refine' fn_enter (defs := [.int 0 397, .str (Str.ofString "d") 212]) (dvs := [.int 0, .str (Str.ofString "d")]) nsmpf_abs gsmpf_abs [Str.ofString "sign", Str.ofString "man", Str.ofString "exp", Str.ofString "bc"] 4 ?ho ?hcd ?hbind ?hns ?hlen ?hok (.cons .int (.cons .str .nil)) ?hco ?hgen ?hcell ?hρ ?hb
  walk_at "enter"
  case hbind => (intro s vals X hl; match vals, hl with | [_], _ => exact binds_K X rfl (by (show List.lookup _ (hd.heap_39 _) = _); k_is) rfl rfl rfl)
  repeat' walk_at "ms"
  all_goals (first | rfl | (rename_i h; rw [h]))
theorem fn_mpf_sign {v : V} {s e : Int} {M : Nat} (h : Mpf v s M e) : Cl (GG w p loose mean mg mb) f (d + 1) (.ref 136) [v] (fun v => v = .int (if M = 0 then 0 else if s = 0 then 1 else -1)) X := by
  obtain ⟨rfl, hs, hm, hb⟩ := h
  refine' fn_enter (defs := []) (dvs := []) nsmpf_sign gsmpf_sign [Str.ofString "sign", Str.ofString "man", Str.ofString "exp", Str.ofString "bc"] 4 ?ho ?hcd ?hbind ?hns ?hlen ?hok .nil ?hco ?hgen ?hcell ?hρ ?hb
  walk_at "enter"
  case hbind => (intro s vals X hl; match vals, hl with | [_], _ => exact BindsTo.of_eq rfl)
  repeat' walk_at "ms"
  · rename_i h0 _ _
    rw [if_pos h0]
  · rename_i h0
    rw [if_neg h0]
    rcases hs with rfl | rfl <;> rfl
/-- the sign of the difference -/
def cmpI (s1 : Int) (M1 : Nat) (e1 : Int) (s2 : Int) (M2 : Nat) (e2 : Int) : Int :=
  let D := addI s1 M1 e1 (1 - s2) M2 e2
  if D < 0 then -1 else if D = 0 then 0 else 1
theorem norm_tup {dn : Bool} {s e : Int} {m prec : Nat} (hm : 0 < m) (hp : 1 ≤ prec) : ∃ x y z : Int, norm dn s m e prec = .tup [.int s, .int x, .int y, .int z] := by
  unfold norm
  have : 0 < rdn dn m (bl m - prec) := by
    unfold rdn
    by_cases h : bl m ≤ prec
    · rw [show bl m - prec = 0 by omega]; cases dn <;> simp <;> omega
    · cases dn
      · exact (up_bl (k := bl m - prec) (P := prec) (by omega) hp).1
      · exact (down_bl (k := bl m - prec) (P := prec) (by omega) hp).1
  rw [canon_pos this]
  exact ⟨_, _, _, rfl⟩
local macro_rules | `(tactic| walk_at "call") => `(tactic| ((with_reducible refine' Cl.eq (fn_mpf_sign ?h1) ?hk); walk_at "s1"))
theorem sgv_neg {s i : Int} (h : s = 0 ∨ s = 1) : sgv (1 - s) i = - sgv s i := by rcases h with rfl | rfl <;> simp [sgv]
theorem cmpI_z2 {s1 e1 : Int} {M1 : Nat} (hs : s1 = 0 ∨ s1 = 1) : cmpI s1 M1 e1 0 0 0 = if M1 = 0 then 0 else if s1 = 0 then 1 else -1 := by
  by_cases h : M1 = 0
  · subst h
    rcases hs with rfl | rfl <;> simp [cmpI, addI, sgv]
  · have p1 : 0 < (M1 : Int) * 2 ^ (e1 - 0).toNat := Int.mul_pos (by omega) (Int.pow_pos (by decide))
    unfold cmpI addI
    rw [sgv_neg (.inl rfl), if_neg h]
    rcases hs with rfl | rfl <;> simp [sgv] at * <;> (repeat' split) <;> first | rfl | omega
theorem cmpI_z1 {s2 e2 : Int} {M2 : Nat} (hs : s2 = 0 ∨ s2 = 1) : cmpI 0 0 0 s2 M2 e2 = -(if M2 = 0 then 0 else if s2 = 0 then 1 else -1) := by
  by_cases h : M2 = 0
  · subst h
    rcases hs with rfl | rfl <;> simp [cmpI, addI, sgv]
  · have p1 : 0 < (M2 : Int) * 2 ^ (e2 - 0).toNat := Int.mul_pos (by omega) (Int.pow_pos (by decide))
    unfold cmpI addI
    rw [sgv_neg hs, if_neg h]
    rcases hs with rfl | rfl <;> simp [sgv] at * <;> (repeat' split) <;> first | rfl | omega
theorem fn_mpf_cmp_z {v1 v2 : V} {s1 s2 e1 e2 : Int} {M1 M2 : Nat} (h1 : Mpf v1 s1 M1 e1) (h2 : Mpf v2 s2 M2 e2) (hz : M1 = 0 ∨ M2 = 0) :
    Cl (GG w p loose mean mg mb) f (d + 8) (.ref 77) [v1, v2] (fun v => v = .int (cmpI s1 M1 e1 s2 M2 e2)) X := by
  have q1 := h1
  have q2 := h2
  obtain ⟨rfl, hs1, hm1, hb1⟩ := h1
  obtain ⟨rfl, hs2, hm2, hb2⟩ := h2
  have z1 : M1 = 0 → bl M1 = 0 := fun h => by rw [h]; rfl
  have z2 : M2 = 0 → bl M2 = 0 := fun h => by rw [h]; rfl
  refine' fn_enter (defs := []) (dvs := []) nsmpf_cmp gsmpf_cmp [Str.ofString "ssign", Str.ofString "sman", Str.ofString "sexp", Str.ofString "sbc", Str.ofString "tsign", Str.ofString "tman", Str.ofString "texp", Str.ofString "tbc", Str.ofString "a", Str.ofString "b", Str.ofString "delta"] 11 ?ho ?hcd ?hbind ?hns ?hlen ?hok .nil ?hco ?hgen ?hcell ?hρ ?hb
  walk_at "enter"
  case hbind => (intro s vals X hl; match vals, hl with | [_, _], _ => exact BindsTo.of_eq rfl)
  repeat' walk_at "ms"
  all_goals first
    | (obtain ⟨rfl, rfl, rfl⟩ : M1 = 0 ∧ s1 = 0 ∧ e1 = 0 := by omega
       rw [cmpI_z1 hs2]; done)
    | (obtain ⟨rfl, rfl, rfl⟩ : M2 = 0 ∧ s2 = 0 ∧ e2 = 0 := by omega
       rw [cmpI_z2 hs1]; done)
theorem mag_lt {M1 M2 : Nat} {e1 e2 : Int} (m1 : 0 < M1) (m2 : 0 < M2) (h : (bl M1 : Int) + e1 < bl M2 + e2) : (M1 : Int) * 2 ^ (e1 - e2).toNat < (M2 : Int) * 2 ^ (e2 - e1).toNat := by
  have a := bl_mul_pow m1 (e1 - e2).toNat
  have b := bl_mul_pow m2 (e2 - e1).toNat
  have c : bl (M1 * 2 ^ (e1 - e2).toNat) < bl (M2 * 2 ^ (e2 - e1).toNat) := by omega
  have d : M1 * 2 ^ (e1 - e2).toNat < M2 * 2 ^ (e2 - e1).toNat := Nat.lt_of_lt_of_le (lt_bl _) (bl_lt.mp c)
  have e := Int.ofNat_lt.mpr d
  rw [Int.natCast_mul, Int.natCast_mul, Int.natCast_pow, Int.natCast_pow] at e
  exact e
theorem mag_ne {M1 M2 : Nat} {e1 e2 : Int} (m1 : M1 % 2 = 1) (m2 : M2 % 2 = 1) (h : e1 ≠ e2) : (M1 : Int) * 2 ^ (e1 - e2).toNat ≠ (M2 : Int) * 2 ^ (e2 - e1).toNat := by
  intro k
  have k' : M1 * 2 ^ (e1 - e2).toNat = M2 * 2 ^ (e2 - e1).toNat := by
    apply Int.ofNat_inj.mp
    rw [Int.natCast_mul, Int.natCast_mul, Int.natCast_pow, Int.natCast_pow]
    exact k
  have := congrArg tz k'
  rw [tz_mul m1, tz_mul m2] at this
  omega
theorem cmpI_ne {s1 s2 e1 e2 : Int} {M1 M2 : Nat} (m1 : M1 % 2 = 1) (m2 : M2 % 2 = 1) (h1 : s1 = 0 ∨ s1 = 1) (h2 : s2 = 0 ∨ s2 = 1) (h : e1 ≠ e2 ∨ s1 ≠ s2) : addI s1 M1 e1 (1 - s2) M2 e2 ≠ 0 := by
  have p1 : 0 < (M1 : Int) * 2 ^ (e1 - e2).toNat := Int.mul_pos (by omega) (Int.pow_pos (by decide))
  have p2 : 0 < (M2 : Int) * 2 ^ (e2 - e1).toNat := Int.mul_pos (by omega) (Int.pow_pos (by decide))
  have hn := fun k => mag_ne m1 m2 k (e1 := e1) (e2 := e2)
  unfold addI
  rw [sgv_neg h2]
  generalize (M1 : Int) * 2 ^ (e1 - e2).toNat = A at *
  generalize (M2 : Int) * 2 ^ (e2 - e1).toNat = B at *
  rcases h1 with rfl | rfl <;> rcases h2 with rfl | rfl <;> simp [sgv] at * <;> first | omega | (have := hn h; omega)
theorem cmpI_eq {s1 s2 e1 e2 A B : Int} {M1 M2 : Nat} (h2 : s2 = 0 ∨ s2 = 1) (hA : (M1 : Int) * 2 ^ (e1 - e2).toNat = A) (hB : (M2 : Int) * 2 ^ (e2 - e1).toNat = B) :
    cmpI s1 M1 e1 s2 M2 e2 = if sgv s1 A - sgv s2 B < 0 then -1 else if sgv s1 A - sgv s2 B = 0 then 0 else 1 := by
  unfold cmpI addI
  rw [hA, hB, sgv_neg h2, ← Int.sub_eq_add_neg]
theorem fn_mpf_cmp_n {s1 s2 e1 e2 : Int} {M1 M2 : Nat} (m1 : M1 % 2 = 1) (m2 : M2 % 2 = 1) (hs1 : s1 = 0 ∨ s1 = 1) (hs2 : s2 = 0 ∨ s2 = 1) (b1 : bl M1 ≤ 1000) (b2 : bl M2 ≤ 1000) (he : e1 - e2 ≤ 5000) (he' : e2 - e1 ≤ 5000) :
    Cl (GG w p loose mean mg mb) f (d + 8) (.ref 77) [.tup [.int s1, .int M1, .int e1, .int (bl M1 : Nat)], .tup [.int s2, .int M2, .int e2, .int (bl M2 : Nat)]] (fun v => v = .int (cmpI s1 M1 e1 s2 M2 e2)) X := by
  have q1 : Mpf (.tup [.int s1, .int M1, .int e1, .int (bl M1 : Nat)]) s1 M1 e1 := ⟨rfl, hs1, .inl m1, b1⟩
  have q2 : Mpf (.tup [.int s2, .int M2, .int e2, .int (bl M2 : Nat)]) s2 M2 e2 := ⟨rfl, hs2, .inl m2, b2⟩
  have p1 : 0 < (M1 : Int) * 2 ^ (e1 - e2).toNat := Int.mul_pos (by omega) (Int.pow_pos (by decide))
  have p2 : 0 < (M2 : Int) * 2 ^ (e2 - e1).toNat := Int.mul_pos (by omega) (Int.pow_pos (by decide))
  have k1 := @mag_lt M1 M2 e1 e2 (by omega) (by omega)
  have k2 := @mag_lt M2 M1 e2 e1 (by omega) (by omega)
  have k3 := @mag_ne M1 M2 e1 e2 m1 m2
  have k4 : e1 = e2 → (M1 : Int) * 2 ^ (e1 - e2).toNat = M1 := fun h => by rw [h]; simp
  have k5 : e1 = e2 → (M2 : Int) * 2 ^ (e2 - e1).toNat = M2 := fun h => by rw [h]; simp
  have kc := fun A B => @cmpI_eq s1 s2 e1 e2 A B M1 M2 hs2
  have kd : addI s1 M1 e1 (1 - s2) M2 e2 = sgv s1 ((M1 : Int) * 2 ^ (e1 - e2).toNat) - sgv s2 ((M2 : Int) * 2 ^ (e2 - e1).toNat) := by
    unfold addI
    rw [sgv_neg hs2, ← Int.sub_eq_add_neg]
  have kn := @cmpI_ne s1 s2 e1 e2 M1 M2 m1 m2 hs1 hs2
  generalize hA : (M1 : Int) * 2 ^ (e1 - e2).toNat = A at *
  generalize hB : (M2 : Int) * 2 ^ (e2 - e1).toNat = B at *
  have kc' := kc A B rfl rfl
  clear kc
  generalize hD : addI s1 M1 e1 (1 - s2) M2 e2 = D at *
  refine' fn_enter (defs := []) (dvs := []) nsmpf_cmp gsmpf_cmp [Str.ofString "ssign", Str.ofString "sman", Str.ofString "sexp", Str.ofString "sbc", Str.ofString "tsign", Str.ofString "tman", Str.ofString "texp", Str.ofString "tbc", Str.ofString "a", Str.ofString "b", Str.ofString "delta"] 11 ?ho ?hcd ?hbind ?hns ?hlen ?hok .nil ?hco ?hgen ?hcell ?hρ ?hb
  walk_at "enter"
  case hbind => (intro s vals X hl; match vals, hl with | [_, _], _ => exact BindsTo.of_eq rfl)
  repeat' walk_at "ms"
  all_goals try (with_reducible show V.int _ = V.int _; rw [kc']; refine congrArg V.int ?_; clear kc' q1 q2; rcases hs1 with rfl | rfl <;> rcases hs2 with rfl | rfl <;> simp [sgv] at * <;> (repeat' split) <;> omega)
  all_goals (
    have hne := kn (.inl (by omega))
    obtain ⟨x, y, z, hxyz⟩ := norm_tup (dn := dnOf 1 0 (sg D)) (s := sg D) (e := if e1 < e2 then e1 else e2) (m := D.natAbs) (prec := 5) (by omega) (by decide)
    have hv : addV (fun s m e => norm (dnOf 1 0 s) s m e 5) s1 M1 e1 (1 - s2) M2 e2 = .tup [.int (sg D), .int x, .int y, .int z] := by
      unfold addV
      rw [if_neg (by omega), if_neg (by omega), hD]
      exact hxyz
    refine Cl.eq (fn_mpf_sub (prec := 5) (normOk_dir (sd_f _) (.inr rfl) (.inl rfl) (by decide)) (by decide) q1 q2 ⟨.inr (.inr he), .inr (.inr he'), .inr (.inr (.inr (by omega))), .inr (.inr (.inr (by omega)))⟩) ?_
    rw [hv]
    clear hv
    have hD0 := kn (.inl (by omega))
    have hsg : sg D = 0 ∨ sg D = 1 := by unfold sg; split <;> simp
    have hsg' : sg D = 1 ↔ D < 0 := by unfold sg; split <;> omega
    clear hxyz
    generalize sg D = sD at *
    repeat' walk_at "ms"
    all_goals (rw [kc']; refine congrArg V.int ?_; clear kc' q1 q2; rcases hs1 with rfl | rfl <;> rcases hs2 with rfl | rfl <;> simp [sgv] at * <;> (repeat' split) <;> omega))
end

end
section
local macro_rules | `(tactic| walk_at "opmore") => `(tactic| first
  | ((with_reducible refine' op_sd ?h1 ?hk ?h2); (case h1 => assumption); (case h2 => (intros; with_unfolding_all rfl)))
  | ((with_reducible refine' op_pair ?h1 ?hk ?h2); (case h1 => assumption); (case h2 => (intros; with_unfolding_all rfl))))
local macro_rules | `(tactic| walk_at "call") => `(tactic| ((with_reducible refine' Cl.eq (fn_trailing ?h1) ?hk); walk_at "s1"))
local macro_rules | `(tactic| walk_at "norm") => `(tactic| (try simp only [bitAnd_m1] at *))
local macro_rules | `(tactic| walk_at "call") => `(tactic| ((with_reducible refine' Cl.eq (fn_u_normalize ?hS ?h1 ?h2 ?h3) ?hk); (case hS => assumption); walk_at "s1"; walk_at "s2"; walk_at "s3"))
local macro_rules | `(tactic| walk_at "call") => `(tactic| ((with_reducible refine' Cl.eq (fn_normalize ?hS ?h1 ?h2 ?h3) ?hk); (case hS => assumption); walk_at "s1"; walk_at "s2"; walk_at "s3"))
local macro_rules | `(tactic| walk_at "call") => `(tactic| (with_reducible refine' Cl.eq fn_from_man_exp0 ?hk))
local macro_rules | `(tactic| walk_at "call") => `(tactic| first
  | ((with_reducible refine' NormOk.call' ?hN ?h1 ?h2 ?hk); (case hN => assumption); walk_at "s1"; walk_at "s2")
  | ((with_reducible refine' NormOk.call ?hN ?h1 ?h2 ?hk); (case hN => assumption); walk_at "s1"; walk_at "s2"))
local macro_rules | `(tactic| walk_at "call") => `(tactic| first | (with_reducible refine' Cl.eq fn_mpf_neg0 ?hk) | ((with_reducible refine' Cl.eq (fn_mpf_neg ?h1) ?hk); walk_at "s1"))
section
variable {w : World} {p : Program} {loose : List Str} {mean : ExcName → Option Value} {mg mb : Str → Option Value} {f : FI} {d : Nat} {X : Prop}

theorem fn_mpf_cmp {v1 v2 : V} {s1 s2 e1 e2 : Int} {M1 M2 : Nat} (h1 : Mpf v1 s1 M1 e1) (h2 : Mpf v2 s2 M2 e2) (he : M1 = 0 ∨ M2 = 0 ∨ (e1 - e2 ≤ 5000 ∧ e2 - e1 ≤ 5000)) :
    Cl (GG w p loose mean mg mb) f (d + 8) (.ref 77) [v1, v2] (fun v => v = .int (cmpI s1 M1 e1 s2 M2 e2)) X := by
  by_cases hz : M1 = 0 ∨ M2 = 0
  · exact fn_mpf_cmp_z h1 h2 hz
  · obtain ⟨rfl, hs1, hm1, hb1⟩ := h1
    obtain ⟨rfl, hs2, hm2, hb2⟩ := h2
    exact fn_mpf_cmp_n (by omega) (by omega) hs1 hs2 hb1 hb2 (by omega) (by omega)
local macro_rules | `(tactic| walk_at "call") => `(tactic| ((with_reducible refine' Cl.eq (fn_mpf_cmp ?h1 ?h2 ?h3) ?hk); walk_at "s1"; walk_at "s2"; walk_at "s3"))
theorem fn_mpf_lt {v1 v2 : V} {s1 s2 e1 e2 : Int} {M1 M2 : Nat} (h1 : Mpf v1 s1 M1 e1) (h2 : Mpf v2 s2 M2 e2) (he : M1 = 0 ∨ M2 = 0 ∨ (e1 - e2 ≤ 5000 ∧ e2 - e1 ≤ 5000)) :
    Cl (GG w p loose mean mg mb) f (d + 9) (.ref 84) [v1, v2] (fun v => v = .bool (decide (cmpI s1 M1 e1 s2 M2 e2 < 0))) X := by
  have q1 := h1
  have q2 := h2
  obtain ⟨rfl, hs1, hm1, hb1⟩ := h1
  obtain ⟨rfl, hs2, hm2, hb2⟩ := h2
  refine' fn_enter (defs := []) (dvs := []) nsmpf_lt gsmpf_lt [] 0 ?ho ?hcd ?hbind ?hns ?hlen ?hok .nil ?hco ?hgen ?hcell ?hρ ?hb
  walk_at "enter"
  case hbind => (intro s vals X hl; match vals, hl with | [_, _], _ => exact BindsTo.of_eq rfl)
  repeat' walk_at "ms"
  all_goals rfl
theorem fn_mpf_le {v1 v2 : V} {s1 s2 e1 e2 : Int} {M1 M2 : Nat} (h1 : Mpf v1 s1 M1 e1) (h2 : Mpf v2 s2 M2 e2) (he : M1 = 0 ∨ M2 = 0 ∨ (e1 - e2 ≤ 5000 ∧ e2 - e1 ≤ 5000)) :
    Cl (GG w p loose mean mg mb) f (d + 9) (.ref 91) [v1, v2] (fun v => v = .bool (decide (cmpI s1 M1 e1 s2 M2 e2 ≤ 0))) X := by
  have q1 := h1
  have q2 := h2
  obtain ⟨rfl, hs1, hm1, hb1⟩ := h1
  obtain ⟨rfl, hs2, hm2, hb2⟩ := h2
  refine' fn_enter (defs := []) (dvs := []) nsmpf_le gsmpf_le [] 0 ?ho ?hcd ?hbind ?hns ?hlen ?hok .nil ?hco ?hgen ?hcell ?hρ ?hb
  walk_at "enter"
  case hbind => (intro s vals X hl; match vals, hl with | [_, _], _ => exact BindsTo.of_eq rfl)
  repeat' walk_at "ms"
  all_goals rfl
theorem fn_mpf_gt {v1 v2 : V} {s1 s2 e1 e2 : Int} {M1 M2 : Nat} (h1 : Mpf v1 s1 M1 e1) (h2 : Mpf v2 s2 M2 e2) (he : M1 = 0 ∨ M2 = 0 ∨ (e1 - e2 ≤ 5000 ∧ e2 - e1 ≤ 5000)) :
    Cl (GG w p loose mean mg mb) f (d + 9) (.ref 98) [v1, v2] (fun v => v = .bool (decide (cmpI s1 M1 e1 s2 M2 e2 > 0))) X := by
  have q1 := h1
  have q2 := h2
  obtain ⟨rfl, hs1, hm1, hb1⟩ := h1
  obtain ⟨rfl, hs2, hm2, hb2⟩ := h2
  refine' fn_enter (defs := []) (dvs := []) nsmpf_gt gsmpf_gt [] 0 ?ho ?hcd ?hbind ?hns ?hlen ?hok .nil ?hco ?hgen ?hcell ?hρ ?hb
  walk_at "enter"
  case hbind => (intro s vals X hl; match vals, hl with | [_, _], _ => exact BindsTo.of_eq rfl)
  repeat' walk_at "ms"
  all_goals rfl
theorem fn_mpf_ge {v1 v2 : V} {s1 s2 e1 e2 : Int} {M1 M2 : Nat} (h1 : Mpf v1 s1 M1 e1) (h2 : Mpf v2 s2 M2 e2) (he : M1 = 0 ∨ M2 = 0 ∨ (e1 - e2 ≤ 5000 ∧ e2 - e1 ≤ 5000)) :
    Cl (GG w p loose mean mg mb) f (d + 9) (.ref 105) [v1, v2] (fun v => v = .bool (decide (cmpI s1 M1 e1 s2 M2 e2 ≥ 0))) X := by
  have q1 := h1
  have q2 := h2
  obtain ⟨rfl, hs1, hm1, hb1⟩ := h1
  obtain ⟨rfl, hs2, hm2, hb2⟩ := h2
  refine' fn_enter (defs := []) (dvs := []) nsmpf_ge gsmpf_ge [] 0 ?ho ?hcd ?hbind ?hns ?hlen ?hok .nil ?hco ?hgen ?hcell ?hρ ?hb
  walk_at "enter"
  case hbind => (intro s vals X hl; match vals, hl with | [_, _], _ => exact BindsTo.of_eq rfl)
  repeat' walk_at "ms"
  all_goals rfl
local macro_rules | `(tactic| walk_at "call") => `(tactic| ((with_reducible refine' Cl.eq (fn_mpf_lt ?h1 ?h2 ?h3) ?hk); walk_at "s1"; walk_at "s2"; walk_at "s3"))
local macro_rules | `(tactic| walk_at "call") => `(tactic| ((with_reducible refine' Cl.eq (fn_mpf_le ?h1 ?h2 ?h3) ?hk); walk_at "s1"; walk_at "s2"; walk_at "s3"))
local macro_rules | `(tactic| walk_at "call") => `(tactic| ((with_reducible refine' Cl.eq (fn_mpf_gt ?h1 ?h2 ?h3) ?hk); walk_at "s1"; walk_at "s2"; walk_at "s3"))
local macro_rules | `(tactic| walk_at "call") => `(tactic| ((with_reducible refine' Cl.eq (fn_mpf_ge ?h1 ?h2 ?h3) ?hk); walk_at "s1"; walk_at "s2"; walk_at "s3"))

theorem fn_MAX {v1 v2 : V} {s1 s2 e1 e2 : Int} {M1 M2 : Nat} (h1 : Mpf v1 s1 M1 e1) (h2 : Mpf v2 s2 M2 e2) (he : M1 = 0 ∨ M2 = 0 ∨ (e1 - e2 ≤ 5000 ∧ e2 - e1 ≤ 5000)) :
    Cl (GG w p loose mean mg mb) f (d + 10) (.ref 250) [v1, v2] (fun v => v = if cmpI s1 M1 e1 s2 M2 e2 ≥ 0 then v1 else v2) X := by
  refine' fn_enter (defs := []) (dvs := []) nsMAX gsMAX [] 0 ?ho ?hcd ?hbind ?hns ?hlen ?hok .nil ?hco ?hgen ?hcell ?hρ ?hb
  walk_at "enter"
  case hbind => (intro s vals X hl; match vals, hl with | [_, _], _ => exact BindsTo.of_eq rfl)
  repeat' walk_at "ms"
  · rename_i h
    rw [if_pos h]
  · rename_i h
    rw [if_neg (by omega)]
theorem fn_mpf_shift {v : V} {s e k : Int} {M : Nat} (h : Mpf v s M e) :
    Cl (GG w p loose mean mg mb) f (d + 1) (.ref 167) [v, .int k] (fun v => v = canon s M (e + k)) X := by
  obtain ⟨rfl, hs, hm, hb⟩ := h
  refine' fn_enter (defs := []) (dvs := []) nsmpf_shift gsmpf_shift [Str.ofString "sign", Str.ofString "man", Str.ofString "exp", Str.ofString "bc"] 4 ?ho ?hcd ?hbind ?hns ?hlen ?hok .nil ?hco ?hgen ?hcell ?hρ ?hb
  walk_at "enter"
  case hbind => (intro s vals X hl; match vals, hl with | [_, _], _ => exact BindsTo.of_eq rfl)
  repeat' walk_at "ms"
  · obtain ⟨rfl, rfl, rfl⟩ : M = 0 ∧ s = 0 ∧ e = 0 := by omega
    rfl
  · have ho : M % 2 = 1 := by omega
    rw [canon_pos (by omega)]
    unfold odd
    rw [tz_odd ho]
    simp

theorem fn_mpf_div0 {rnd : Str} {M2 : Nat} {e2 prec : Int} (h2 : 0 < M2) :
    Cl (GG w p loose mean mg mb) f (d + 4) (.ref 175) [.tup [.int 0, .int 0, .int 0, .int 0], .tup [.int 0, .int M2, .int e2, .int (bl M2 : Nat)], .int prec, .str rnd] (fun v => v = .tup [.int 0, .int 0, .int 0, .int 0]) X := by
  refine' fn_enter (defs := []) (dvs := []) nsmpf_div gsmpf_div [Str.ofString "ssign", Str.ofString "sman", Str.ofString "sexp", Str.ofString "sbc", Str.ofString "tsign", Str.ofString "tman", Str.ofString "texp", Str.ofString "tbc", Str.ofString "s_special", Str.ofString "t_special", Str.ofString "sign", Str.ofString "extra", Str.ofString "quot", Str.ofString "rem", Str.ofString "bc"] 15 ?ho ?hcd ?hbind ?hns ?hlen ?hok .nil ?hco ?hgen ?hcell ?hρ ?hb
  walk_at "enter"
  case hbind => (intro s vals X hl; match vals, hl with | [_, _, _, _], _ => exact binds_K X rfl (by (show List.lookup _ (hd.heap_39 _) = _); k_is) rfl rfl rfl)
  repeat' walk_at "ms"
  all_goals rfl
local macro_rules | `(tactic| walk_at "call") => `(tactic| (with_reducible refine' Cl.eq fn_from_int1 ?hk))
theorem fn_from_rational {rnd : Str} {d0 d1 i : Int} {q prec : Nat} (S : Sd (hd.heap_39 w.params) rnd d0 d1) (h0 : d0 = 0 ∨ d0 = 1) (h1 : d1 = 0 ∨ d1 = 1) (hp : 1 ≤ prec) (hp' : prec ≤ 1000) (hq : 0 < q) (bq : bl q ≤ 1000) (bi : bl i.natAbs ≤ 1000) :
    Cl (GG w p loose mean mg mb) f (d + 5) (.ref 70) [.int i, .int q, .int prec, .str rnd] (fun v => v = if i = 0 then .tup [.int 0, .int 0, .int 0, .int 0] else divV (dnOf d0 d1 (sg i)) (sg i) (odd i.natAbs) (odd q) (tz i.natAbs - tz q) prec) X := by
  refine' fn_enter (defs := []) (dvs := []) nsfrom_rational gsfrom_rational [] 0 ?ho ?hcd ?hbind ?hns ?hlen ?hok .nil ?hco ?hgen ?hcell ?hρ ?hb
  walk_at "enter"
  case hbind => (intro s vals X hl; match vals, hl with | [_, _, _, _], _ => exact binds_K X rfl (by (show List.lookup _ (hd.heap_39 _) = _); k_is) rfl rfl rfl)
  repeat' walk_at "ms"
  have q0 : ¬ ((q : Nat) : Int) < 0 := by omega
  rw [if_neg q0, Int.natAbs_natCast, canon_pos hq]
  by_cases hi : i = 0
  · subst hi
    rw [if_pos rfl]
    refine Cl.eq (fn_mpf_div0 (by have := odd_spec hq; omega)) ?_
    repeat' walk_at "ms"
    rfl
  · rw [if_neg hi, canon_pos (by omega)]
    have o1 := odd_spec (m := i.natAbs) (by omega)
    have o2 := odd_spec hq
    have l1 : odd i.natAbs ≤ i.natAbs := Nat.div_le_self _ _
    have l2 : odd q ≤ q := Nat.div_le_self _ _
    have hs : sg i = 0 ∨ sg i = 1 := by unfold sg; split <;> simp
    refine Cl.eq (fn_mpf_div S (dn := dnOf d0 d1 (sg i)) (s := sg i) hp hp' hs ?_ (by omega) (by omega) (Nat.le_trans (bl_mono l1) bi) (Nat.le_trans (bl_mono l2) bq)) ?_
    · unfold dnOf
      rcases h0 with rfl | rfl <;> rcases h1 with rfl | rfl <;> rcases hs with h | h <;> rw [h] <;> rfl
    · repeat' walk_at "ms"
      rw [show (0 : Int) + tz i.natAbs - (0 + tz q) = tz i.natAbs - tz q by omega]
end

end
section
local macro_rules | `(tactic| walk_at "opmore") => `(tactic| first
  | ((with_reducible refine' op_sd ?h1 ?hk ?h2); (case h1 => assumption); (case h2 => (intros; with_unfolding_all rfl)))
  | ((with_reducible refine' op_pair ?h1 ?hk ?h2); (case h1 => assumption); (case h2 => (intros; with_unfolding_all rfl))))
local macro_rules | `(tactic| walk_at "call") => `(tactic| ((with_reducible refine' Cl.eq (fn_trailing ?h1) ?hk); walk_at "s1"))
local macro_rules | `(tactic| walk_at "norm") => `(tactic| (try simp only [bitAnd_m1] at *))
local macro_rules | `(tactic| walk_at "call") => `(tactic| ((with_reducible refine' Cl.eq (fn_u_normalize ?hS ?h1 ?h2 ?h3) ?hk); (case hS => assumption); walk_at "s1"; walk_at "s2"; walk_at "s3"))
section
variable {w : World} {p : Program} {loose : List Str} {mean : ExcName → Option Value} {mg mb : Str → Option Value} {f : FI} {d : Nat} {X : Prop}

def rN (A B : Nat) : Nat := A / B + if 2 * (A % B) > B ∨ (2 * (A % B) = B ∧ A / B % 2 = 1) then 1 else 0
def normN (s : Int) (m : Nat) (e : Int) (prec : Nat) : V := canon s (rN m (2 ^ (bl m - prec))) (e + (bl m - prec : Nat))
theorem rN_one (m : Nat) : rN m 1 = m := by unfold rN; rw [Nat.div_one, Nat.mod_one]; simp
theorem normN_zero (s e : Int) (prec : Nat) : normN s 0 e prec = .tup [.int 0, .int 0, .int 0, .int 0] := by
  unfold normN
  rw [bl_zero, show (2 : Nat) ^ (0 - prec) = 1 by rw [Nat.zero_sub], rN_one]
  rfl
theorem land_two (t : Nat) : t &&& 2 = 2 * (t / 2 % 2) := by
  rcases Nat.mod_two_eq_zero_or_one t with h | h
  · calc t &&& 2 = (2 * (t / 2)) &&& (2 * 1) := by congr 1; omega
      _ = 2 * ((t / 2) &&& 1) := land_dd _ _
      _ = _ := by rw [Nat.and_one_is_mod]
  · calc t &&& 2 = 2 &&& (2 * (t / 2) + 1) := by rw [Nat.and_comm]; congr 1; omega
      _ = (2 * 1) &&& (2 * (t / 2) + 1) := rfl
      _ = 2 * (1 &&& (t / 2)) := land_double _ _
      _ = _ := by rw [Nat.and_comm, Nat.and_one_is_mod]
theorem bitAnd_nat (a b : Nat) : Builtin.bitAnd (a : Int) (b : Int) = ((a &&& b : Nat) : Int) := by
  unfold Builtin.bitAnd
  rw [decide_eq_true (by omega), decide_eq_true (by omega)]
  show (((a : Int).toNat &&& (b : Int).toNat : Nat) : Int) = _
  rw [Int.toNat_natCast, Int.toNat_natCast]
theorem rN_half {m j : Nat} : rN m (2 ^ (j + 1)) = m / 2 ^ j / 2 + if m / 2 ^ j % 2 = 1 ∧ (m / 2 ^ j / 2 % 2 = 1 ∨ m % 2 ^ j ≠ 0) then 1 else 0 := by
  unfold rN
  have hp : 0 < 2 ^ j := Nat.pow_pos (by decide)
  rw [Nat.pow_succ]
  have e1 : m / (2 ^ j * 2) = m / 2 ^ j / 2 := by rw [Nat.div_div_eq_div_mul]
  have e2 : m % (2 ^ j * 2) = m % 2 ^ j + 2 ^ j * (m / 2 ^ j % 2) := by rw [Nat.mod_mul]
  rw [e1, e2]
  have h1 := Nat.mod_lt m hp
  generalize m % 2 ^ j = r at *
  generalize m / 2 ^ j = t at *
  generalize 2 ^ j = q at *
  rcases Nat.mod_two_eq_zero_or_one t with h | h
  · rw [h, Nat.mul_zero]
    rw [if_neg (by omega), if_neg (by omega)]
  · rw [h, Nat.mul_one]
    by_cases c : t / 2 % 2 = 1 ∨ r ≠ 0
    · rw [if_pos (by omega), if_pos ⟨rfl, c⟩]
    · rw [if_neg (by omega), if_neg (by omega)]
theorem near_bl {m k P : Nat} (hk : bl m = k + P) (hP : 1 ≤ P) : 0 < rN m (2 ^ k) ∧ (bl (rN m (2 ^ k)) = P ∨ rN m (2 ^ k) = 2 ^ P) := by
  obtain ⟨h0, hd⟩ := down_bl hk hP
  have h1 := lt_bl (m / 2 ^ k)
  rw [hd] at h1
  have h2 : m / 2 ^ k ≤ rN m (2 ^ k) := Nat.le_add_right _ _
  have h3 : rN m (2 ^ k) ≤ m / 2 ^ k + 1 := by unfold rN; split <;> omega
  refine ⟨by omega, ?_⟩
  rcases Nat.lt_or_ge (rN m (2 ^ k)) (2 ^ P) with h | h
  · left
    have a := bl_mono h2
    have b := bl_le.mpr h
    omega
  · right; omega
theorem nq1 (t : Nat) : Builtin.bitAnd (t : Int) 2 = ((2 * (t / 2 % 2) : Nat) : Int) := by
  rw [show (2 : Int) = ((2 : Nat) : Int) from rfl, bitAnd_nat, land_two]
theorem nq2 (m j : Nat) : Builtin.bitAnd (m : Int) (1 * 2 ^ j - 1) = ((m % 2 ^ j : Nat) : Int) := by
  have hp : 0 < 2 ^ j := Nat.pow_pos (n := j) (show 0 < 2 by decide)
  rw [show (1 * 2 ^ j - 1 : Int) = ((2 ^ j - 1 : Nat) : Int) by rw [Int.natCast_sub hp, Int.natCast_pow]; simp, bitAnd_nat, Nat.and_two_pow_sub_one_eq_mod]
theorem nq2' (m j : Nat) : Builtin.bitAnd (m : Int) (2 ^ j - 1) = ((m % 2 ^ j : Nat) : Int) := by rw [← nq2, Int.one_mul]
theorem nq3 (t : Nat) : (t : Int) / 2 ^ Int.toNat 1 = ((t / 2 : Nat) : Int) := by rw [rd_down]; rfl
theorem nq4 (a b : Nat) : ((a : Int) - b - 1).toNat = a - b - 1 := by omega
theorem nq5 (t : Nat) : ((t / 2 : Nat) : Int) + 1 = ((t / 2 + 1 : Nat) : Int) := by omega
local macro_rules | `(tactic| walk_at "call") => `(tactic| ((with_reducible refine' Cl.eq (fn_trailing ?h1) ?hk); walk_at "s1"))
local macro_rules | `(tactic| walk_at "norm") => `(tactic| (try simp only [bitAnd_m1] at *))
theorem fn_u_normalizeN {s : Int} {m prec : Nat} {e : Int} (hp : 1 ≤ prec) (hs : s = 0 ∨ s = 1) (hmb : bl m ≤ 7000) :
    Cl (GG w p loose mean mg mb) f (d + 2) (.ref 39) [.int s, .int m, .int e, .int (bl m : Nat), .int prec, .str (Str.ofString "n")] (fun v => v = normN s m e prec) X := by
  refine' fn_enter (defs := []) (dvs := []) nsu_normalize gsu_normalize [Str.ofString "n", Str.ofString "t"] 2 ?ho ?hcd ?hbind ?hns ?hlen ?hok .nil ?hco ?hgen ?hcell ?hρ ?hb
  walk_at "enter"
  case hbind => (intro s vals X hl; match vals, hl with | [_, _, _, _, _, _], _ => exact BindsTo.of_eq rfl)
  refine exs_cons ?_
  repeat' walk_at "m1"
  · rename_i h0; subst h0; exact (normN_zero _ _ _).symm
  refine then_next (exs_cons ?_)
  repeat' walk_at "m1"
  rename_i hm0
  refine then_next (exs_join (fun ρ => ∃ (M : Nat) (B nv : Int) (tv : Option V), ρ = [some (.int s), some (.int M), some (.int (e + (bl m - prec : Nat))), some (.int B), some (.int prec), some (.str (Str.ofString "n")), some (.int nv), tv] ∧ 0 < M ∧ normN s m e prec = canon s M (e + (bl m - prec : Nat))
      ∧ (B = bl M ∨ (0 ≤ B ∧ M = 2 ^ B.toNat))) ?_ ?_)
  · by_cases hb : bl m ≤ prec
    · repeat' walk_at "ms"
      refine ⟨m, bl m, (bl m : Int) - prec, none, ?_, by omega, ?_, .inl rfl⟩
      · rw [show bl m - prec = 0 by omega]; simp
      · unfold normN; rw [show bl m - prec = 0 by omega, Nat.pow_zero, rN_one]
    · obtain ⟨n1, n2⟩ := near_bl (m := m) (k := bl m - prec) (P := prec) (by omega) hp
      have n3 := @rN_half m (bl m - prec - 1)
      rw [show bl m - prec - 1 + 1 = bl m - prec by omega] at n3
      have fin : ∀ (M : Nat) (tv : Option V), M = rN m (2 ^ (bl m - prec)) → ∃ (M' : Nat) (B nv : Int) (tv' : Option V), [some (V.int s), some (V.int M), some (V.int (e + ((bl m : Int) - prec))), some (V.int prec), some (.int prec), some (.str (Str.ofString "n")), some (.int ((bl m : Int) - prec)), tv] = [some (V.int s), some (V.int M'), some (.int (e + (bl m - prec : Nat))), some (.int B), some (.int prec), some (.str (Str.ofString "n")), some (.int nv), tv'] ∧ 0 < M' ∧ normN s m e prec = canon s M' (e + (bl m - prec : Nat))
          ∧ (B = bl M' ∨ (0 ≤ B ∧ M' = 2 ^ B.toNat)) := by
        rintro M tv rfl
        refine ⟨_, prec, _, tv, by rw [show ((bl m : Int) - prec) = ((bl m - prec : Nat) : Int) by omega], n1, rfl, n2.elim (fun b => .inl (by rw [b])) fun b => .inr ⟨by omega, by simpa using b⟩⟩
      rw [n3] at fin
      clear n1 n2 n3
      repeat' walk_at "ms"
      all_goals simp only [nq4, nq5, rd_down, nq1, nq2, nq2', nq3] at *
      all_goals generalize hM : m / 2 ^ (bl m - prec - 1) = t at *
      all_goals generalize hr : m % 2 ^ (bl m - prec - 1) = r at *
      all_goals
        refine join_next ?_
        first
        | (rw [if_pos (by omega)] at fin; exact fin _ _ rfl)
        | (rw [if_neg (by omega)] at fin; exact fin _ _ rfl)
  · rintro _ ⟨M, B, nv, tv, rfl, hM, hn, hB⟩
    have ho := odd_spec hM
    have hc : (M : Int) / 2 ^ tz M = (odd M : Nat) := by rw [rd_down]; rfl
    repeat' walk_at "ms"
    · rename_i h1 h2
      rw [hn]
      exact leaf_fin hM hB (by simpa using hc) rfl (.inl ⟨by simpa using h2, rfl⟩)
    · rename_i h1 h2
      rw [hn]
      exact leaf_fin hM hB (by simpa using hc) rfl (.inr ⟨by simpa using h2, rfl⟩)
    · rename_i h1 h2
      have ht : tz M = 0 := tz_odd (by omega)
      have ho' : odd M = M := by unfold odd; rw [ht]; simp
      rw [hn]
      exact leaf_fin hM hB (by rw [ho']) (by rw [ht]; simp) (.inl ⟨by omega, rfl⟩)
    · rename_i h1 h2
      have ht : tz M = 0 := tz_odd (by omega)
      have ho' : odd M = M := by unfold odd; rw [ht]; simp
      rw [hn]
      exact leaf_fin hM hB (by rw [ho']) (by rw [ht]; simp) (.inr ⟨by omega, by rw [ht]; simp⟩)
end

end
section


/-! rounding a quotient -/
def rU (dn : Bool) (A B : Nat) : Nat := if dn then A / B else (A + B - 1) / B
theorem up_eq {A B : Nat} (hB : 0 < B) : (A + B - 1) / B = A / B + if A % B = 0 then 0 else 1 := by
  have h := Nat.div_add_mod A B
  have h1 := Nat.mod_lt A hB
  by_cases c : A % B = 0
  · rw [if_pos c]
    have : A + B - 1 = (B - 1) + B * (A / B) := by omega
    rw [this, Nat.add_mul_div_left _ _ hB, Nat.div_eq_of_lt (by omega)]
    omega
  · rw [if_neg c]
    have : A + B - 1 = (A % B - 1) + B * (A / B + 1) := by rw [Nat.mul_add]; omega
    rw [this, Nat.add_mul_div_left _ _ hB, Nat.div_eq_of_lt (by omega)]
    omega
structure Rnd (r : Nat → Nat → Nat) : Prop where
  sc : ∀ A B c, 0 < B → 0 < c → r (A * c) (B * c) = r A B
  ex : ∀ A B, 0 < B → r (A * B) B = A
theorem rnd_d (dn : Bool) : Rnd (rU dn) where
  sc A B c hB hc := by
    unfold rU
    cases dn
    · simp only [Bool.false_eq_true, if_false]
      rw [up_eq hB, up_eq (Nat.mul_pos hB hc), Nat.mul_div_mul_right _ _ hc, Nat.mul_mod_mul_right]
      congr 1
      by_cases h : A % B = 0
      · rw [h]; simp
      · rw [if_neg h, if_neg]
        have := Nat.mul_pos (Nat.pos_of_ne_zero h) hc
        omega
    · simp only [if_true]
      exact Nat.mul_div_mul_right _ _ hc
  ex A B hB := by
    unfold rU
    cases dn
    · simp only [Bool.false_eq_true, if_false]
      rw [up_eq hB, Nat.mul_div_cancel _ hB, Nat.mul_mod_left]; rfl
    · simp only [if_true]
      exact Nat.mul_div_cancel _ hB
theorem rnd_n : Rnd rN where
  sc A B c hB hc := by
    unfold rN
    rw [Nat.mul_div_mul_right _ _ hc, Nat.mul_mod_mul_right]
    congr 1
    have e : 2 * (A % B * c) = (2 * (A % B)) * c := by rw [Nat.mul_assoc]
    rw [e]
    have h1 : (2 * (A % B)) * c > B * c ↔ 2 * (A % B) > B := Nat.mul_lt_mul_right hc
    have h2 : (2 * (A % B)) * c = B * c ↔ 2 * (A % B) = B := Nat.mul_left_inj (by omega)
    simp only [h1, h2]
  ex A B hB := by
    unfold rN
    rw [Nat.mul_div_cancel _ hB, Nat.mul_mod_left, if_neg]
    · rfl
    · omega
theorem Rnd.cross {r} (R : Rnd r) {x y x' y' : Nat} (hy : 0 < y) (hy' : 0 < y') (h : x * y' = x' * y) : r x y = r x' y' := by
  rw [← R.sc x y y' hy hy', ← R.sc x' y' y hy' hy, h, Nat.mul_comm y y']
theorem two_pos (k : Nat) : 0 < 2 ^ k := Nat.pow_pos (by decide)
/-- the quotient, rounded to so many bits -/
def RQ (r : Nat → Nat → Nat) (s : Int) (A B P : Nat) (v : V) : Prop :=
  ∃ i j : Nat, 2 ^ (P - 1) * (B * 2 ^ j) ≤ A * 2 ^ i ∧ A * 2 ^ i < 2 ^ P * (B * 2 ^ j) ∧ v = canon s (r (A * 2 ^ i) (B * 2 ^ j)) ((j : Int) - i)
theorem rq_le {A B A' B' P i j i' j' : Nat} (hB : 0 < B) (hB' : 0 < B') (hP : 1 ≤ P) (h1 : 2 ^ (P - 1) * (B * 2 ^ j) ≤ A * 2 ^ i) (h2 : A' * 2 ^ i' < 2 ^ P * (B' * 2 ^ j')) (h : A * B' = A' * B) : j + i' ≤ j' + i := by
  refine Nat.le_of_not_lt fun hlt => ?_
  have a := Nat.mul_le_mul_right (B' * 2 ^ i') h1
  have b := Nat.mul_lt_mul_of_pos_right h2 (Nat.mul_pos hB (two_pos i))
  have e1 : A * 2 ^ i * (B' * 2 ^ i') = A' * 2 ^ i' * (B * 2 ^ i) := by
    calc A * 2 ^ i * (B' * 2 ^ i') = A * B' * (2 ^ i * 2 ^ i') := by ac_rfl
      _ = A' * B * (2 ^ i * 2 ^ i') := by rw [h]
      _ = _ := by ac_rfl
  have e2 : 2 ^ (P - 1) * (B * 2 ^ j) * (B' * 2 ^ i') = B * B' * 2 ^ (P - 1 + (j + i')) := by rw [Nat.pow_add, Nat.pow_add]; ac_rfl
  have e3 : 2 ^ P * (B' * 2 ^ j') * (B * 2 ^ i) = B * B' * 2 ^ (P + (j' + i)) := by rw [Nat.pow_add, Nat.pow_add]; ac_rfl
  rw [e1, e2] at a
  rw [e3] at b
  have c : B * B' * 2 ^ (P + (j' + i)) ≤ B * B' * 2 ^ (P - 1 + (j + i')) := Nat.mul_le_mul_left _ (Nat.pow_le_pow_right (by decide) (by omega))
  omega
theorem rq_unique {r} (R : Rnd r) {s : Int} {A B A' B' P : Nat} {v v' : V} (hB : 0 < B) (hB' : 0 < B') (hP : 1 ≤ P) (h : RQ r s A B P v) (h' : RQ r s A' B' P v') (e : A * B' = A' * B) : v = v' := by
  obtain ⟨i, j, a1, a2, rfl⟩ := h
  obtain ⟨i', j', b1, b2, rfl⟩ := h'
  have l1 := rq_le hB hB' hP a1 b2 e
  have l2 := rq_le hB' hB hP b1 a2 e.symm
  have he : j + i' = j' + i := by omega
  have e1 : r (A * 2 ^ i) (B * 2 ^ j) = r (A' * 2 ^ i') (B' * 2 ^ j') := by
    refine R.cross (Nat.mul_pos hB (two_pos _)) (Nat.mul_pos hB' (two_pos _)) ?_
    calc A * 2 ^ i * (B' * 2 ^ j') = A * B' * (2 ^ (j' + i)) := by rw [Nat.pow_add]; ac_rfl
      _ = A' * B * 2 ^ (j + i') := by rw [e, he]
      _ = _ := by rw [Nat.pow_add]; ac_rfl
  rw [e1]
  congr 1
  omega
def normR (r : Nat → Nat → Nat) (s : Int) (m : Nat) (e : Int) (P : Nat) : V := canon s (r m (2 ^ (bl m - P))) (e + (bl m - P : Nat))
theorem norm_eq (dn : Bool) (s : Int) (m : Nat) (e : Int) (P : Nat) : norm dn s m e P = normR (rU dn) s m e P := rfl
theorem normN_eq (s : Int) (m : Nat) (e : Int) (P : Nat) : normN s m e P = normR rN s m e P := rfl
theorem rq_norm {r} (R : Rnd r) {s : Int} {m P : Nat} (hm : 0 < m) (hP : 1 ≤ P) (a b : Nat) : RQ r s (m * 2 ^ a) (2 ^ b) P (normR r s m ((a : Int) - b) P) := by
  have g := bl_ge hm
  have l := lt_bl m
  have hb := bl_pos hm
  by_cases h : bl m ≤ P
  · refine ⟨b + (P - bl m), a, ?_, ?_, ?_⟩
    · calc 2 ^ (P - 1) * (2 ^ b * 2 ^ a) = 2 ^ (bl m - 1) * (2 ^ a * 2 ^ (b + (P - bl m))) := by
            rw [← Nat.pow_add, ← Nat.pow_add, ← Nat.pow_add, ← Nat.pow_add]; congr 1; omega
        _ ≤ m * (2 ^ a * 2 ^ (b + (P - bl m))) := Nat.mul_le_mul_right _ g
        _ = _ := by ac_rfl
    · calc m * 2 ^ a * 2 ^ (b + (P - bl m)) = m * (2 ^ a * 2 ^ (b + (P - bl m))) := by ac_rfl
        _ < 2 ^ bl m * (2 ^ a * 2 ^ (b + (P - bl m))) := Nat.mul_lt_mul_of_pos_right l (Nat.mul_pos (two_pos _) (two_pos _))
        _ = _ := by rw [← Nat.pow_add, ← Nat.pow_add, ← Nat.pow_add, ← Nat.pow_add]; congr 1; omega
    · unfold normR
      have z : bl m - P = 0 := by omega
      rw [z, show r m (2 ^ 0) = m by have := R.ex m 1 (by decide); rwa [Nat.mul_one] at this]
      have e : r (m * 2 ^ a * 2 ^ (b + (P - bl m))) (2 ^ b * 2 ^ a) = m * 2 ^ (P - bl m) := by
        rw [show m * 2 ^ a * 2 ^ (b + (P - bl m)) = (m * 2 ^ (P - bl m)) * (2 ^ b * 2 ^ a) by rw [Nat.pow_add]; ac_rfl]
        exact R.ex _ _ (Nat.mul_pos (two_pos _) (two_pos _))
      rw [e, canon_mul]
      congr 1
      omega
  · refine ⟨b, bl m - P + a, ?_, ?_, ?_⟩
    · calc 2 ^ (P - 1) * (2 ^ b * 2 ^ (bl m - P + a)) = 2 ^ (bl m - 1) * (2 ^ a * 2 ^ b) := by
            rw [← Nat.pow_add, ← Nat.pow_add, ← Nat.pow_add, ← Nat.pow_add]; congr 1; omega
        _ ≤ m * (2 ^ a * 2 ^ b) := Nat.mul_le_mul_right _ g
        _ = _ := by ac_rfl
    · calc m * 2 ^ a * 2 ^ b = m * (2 ^ a * 2 ^ b) := by ac_rfl
        _ < 2 ^ bl m * (2 ^ a * 2 ^ b) := Nat.mul_lt_mul_of_pos_right l (Nat.mul_pos (two_pos _) (two_pos _))
        _ = _ := by rw [← Nat.pow_add, ← Nat.pow_add, ← Nat.pow_add, ← Nat.pow_add]; congr 1; omega
    · unfold normR
      have e : r (m * 2 ^ a * 2 ^ b) (2 ^ b * 2 ^ (bl m - P + a)) = r m (2 ^ (bl m - P)) := by
        rw [show m * 2 ^ a * 2 ^ b = m * (2 ^ a * 2 ^ b) by ac_rfl, show 2 ^ b * 2 ^ (bl m - P + a) = 2 ^ (bl m - P) * (2 ^ a * 2 ^ b) by rw [Nat.pow_add]; ac_rfl]
        exact R.sc _ _ _ (two_pos _) (Nat.mul_pos (two_pos _) (two_pos _))
      rw [e]
      congr 1
      omega
theorem normR_scale {r} (R : Rnd r) {s e : Int} {m P : Nat} (k : Nat) (hP : 1 ≤ P) (h0 : r 0 1 = 0) : normR r s (m * 2 ^ k) e P = normR r s m (e + k) P := by
  rcases Nat.eq_zero_or_pos m with rfl | hm
  · rw [Nat.zero_mul]
    unfold normR
    rw [bl_zero, Nat.zero_sub, Nat.pow_zero, h0]; rfl
  · have e1 : ((e.toNat : Int) - (-e).toNat) = e := by omega
    have e2 : (((e.toNat + k : Nat) : Int) - (-e).toNat) = e + k := by omega
    have a := rq_norm R (s := s) (Nat.mul_pos hm (two_pos k)) hP e.toNat (-e).toNat
    have b := rq_norm R (s := s) hm hP (e.toNat + k) (-e).toNat
    rw [e1] at a
    rw [e2] at b
    exact rq_unique R (two_pos _) (two_pos _) hP a b (by rw [Nat.pow_add]; ac_rfl)
/-- sums of whole numbers over one exponent -/
def sg' (i : Int) : Int := sg i
theorem mpf_int (a E : Int) (ha : bl a.natAbs ≤ 1000) : ∃ (s : Int) (M : Nat) (e : Int) (k : Nat), Mpf (canon (sg a) a.natAbs E) s M e ∧ (M = 0 → a = 0) ∧ (M ≠ 0 → s = sg a ∧ e = E + k ∧ a.natAbs = M * 2 ^ k ∧ k ≤ 1000) := by
  by_cases h : a = 0
  · subst h
    exact ⟨0, 0, 0, 0, mpf_zero, fun _ => rfl, fun h => absurd rfl h⟩
  · have hs : sg a = 0 ∨ sg a = 1 := by unfold sg; split <;> simp
    have o := odd_spec (m := a.natAbs) (by omega)
    refine ⟨_, _, _, tz a.natAbs, mpf_canon hs (by omega) ha, fun h0 => ?_, fun _ => ⟨rfl, rfl, o.2, ?_⟩⟩
    · have := o.1; omega
    · have : bl a.natAbs = bl (odd a.natAbs) + tz a.natAbs := by
        conv => lhs; rw [o.2]
        exact bl_mul_pow (by omega) _
      omega
theorem sgv_sg (i : Int) : sgv (sg i) i.natAbs = i := by unfold sgv sg; split <;> simp <;> omega
theorem sgv_mul (s : Int) (m k : Int) : sgv s (m * k) = sgv s m * k := by unfold sgv; split <;> simp [Int.neg_mul]
theorem addI_int {a b E s1 s2 e1 e2 : Int} {M1 M2 k1 k2 : Nat} (h1 : s1 = sg a) (h2 : s2 = sg b) (q1 : e1 = E + k1) (q2 : e2 = E + k2) (a1 : a.natAbs = M1 * 2 ^ k1) (a2 : b.natAbs = M2 * 2 ^ k2) :
    ∃ k : Nat, (if e1 < e2 then e1 else e2) = E + k ∧ addI s1 M1 e1 s2 M2 e2 * 2 ^ k = a + b := by
  subst h1 h2 q1 q2
  have z1 : ∀ j : Nat, sgv (sg a) ((M1 : Int) * 2 ^ k1) = a := fun _ => by
    have := sgv_sg a
    rw [a1, Int.natCast_mul, Int.natCast_pow] at this
    exact this
  have z2 : ∀ j : Nat, sgv (sg b) ((M2 : Int) * 2 ^ k2) = b := fun _ => by
    have := sgv_sg b
    rw [a2, Int.natCast_mul, Int.natCast_pow] at this
    exact this
  unfold addI
  by_cases h : k1 < k2
  · refine ⟨k1, by rw [if_pos (by omega)], ?_⟩
    rw [Int.add_mul, ← sgv_mul, ← sgv_mul, show (E + (k1 : Int) - (E + k2)).toNat = 0 by omega, Int.pow_zero, Int.mul_one, Int.mul_assoc, ← Int.pow_add, show (E + (k2 : Int) - (E + k1)).toNat + k1 = k2 by omega, z1 0, z2 0]
  · refine ⟨k2, by rw [if_neg (by omega)], ?_⟩
    rw [Int.add_mul, ← sgv_mul, ← sgv_mul, show (E + (k2 : Int) - (E + k1)).toNat = 0 by omega, Int.pow_zero, Int.mul_one, Int.mul_assoc, ← Int.pow_add, show (E + (k1 : Int) - (E + k2)).toNat + k2 = k1 by omega, z1 0, z2 0]
theorem sg_mul (i : Int) (k : Nat) : sg (i * 2 ^ k) = sg i := by
  have hp : 0 < (2 : Int) ^ k := Int.pow_pos (by decide)
  unfold sg
  by_cases h : i < 0
  · rw [if_pos h, if_pos (Int.mul_neg_of_neg_of_pos h hp)]
  · rw [if_neg h, if_neg (by have := Int.mul_nonneg (a := i) (b := 2 ^ k) (by omega) (by omega); omega)]
theorem addV_int {rs : Int → Nat → Nat → Nat} (R : ∀ s, Rnd (rs s)) (h0 : ∀ s, rs s 0 1 = 0) {a b E s1 s2 e1 e2 : Int} {M1 M2 k1 k2 P : Nat} (hP : 1 ≤ P)
    (g1 : M1 = 0 → a = 0) (f1 : M1 ≠ 0 → s1 = sg a ∧ e1 = E + k1 ∧ a.natAbs = M1 * 2 ^ k1)
    (g2 : M2 = 0 → b = 0) (f2 : M2 ≠ 0 → s2 = sg b ∧ e2 = E + k2 ∧ b.natAbs = M2 * 2 ^ k2) :
    addV (fun s m e => normR (rs s) s m e P) s1 M1 e1 s2 M2 e2 = normR (rs (sg (a + b))) (sg (a + b)) (a + b).natAbs E P := by
  have nz : ∀ s E, normR (rs s) s 0 E P = V.tup [.int 0, .int 0, .int 0, .int 0] := fun s E => by
    unfold normR
    rw [bl_zero, Nat.zero_sub, Nat.pow_zero, h0]; rfl
  unfold addV
  by_cases z1 : M1 = 0
  · have := g1 z1
    subst this
    rw [if_pos z1, Int.zero_add]
    by_cases z2 : M2 = 0
    · have := g2 z2
      subst this
      rw [if_pos z2, Int.natAbs_zero, nz]
    · obtain ⟨rfl, rfl, q⟩ := f2 z2
      rw [if_neg z2, q, normR_scale (R _) _ hP (h0 _)]
  · obtain ⟨rfl, rfl, q⟩ := f1 z1
    rw [if_neg z1]
    by_cases z2 : M2 = 0
    · have := g2 z2
      subst this
      rw [if_pos z2, Int.add_zero, q, normR_scale (R _) _ hP (h0 _)]
    · obtain ⟨rfl, rfl, q2⟩ := f2 z2
      rw [if_neg z2]
      obtain ⟨k, e1, e2⟩ := addI_int (E := E) rfl rfl rfl rfl q q2
      rw [e1, ← e2, sg_mul, Int.natAbs_mul, Int.natAbs_pow, show Int.natAbs 2 = 2 from rfl, normR_scale (R _) _ hP (h0 _)]

end
section
local macro_rules | `(tactic| walk_at "opmore") => `(tactic| first
  | ((with_reducible refine' op_sd ?h1 ?hk ?h2); (case h1 => assumption); (case h2 => (intros; with_unfolding_all rfl)))
  | ((with_reducible refine' op_pair ?h1 ?hk ?h2); (case h1 => assumption); (case h2 => (intros; with_unfolding_all rfl))))
local macro_rules | `(tactic| walk_at "call") => `(tactic| ((with_reducible refine' Cl.eq (fn_trailing ?h1) ?hk); walk_at "s1"))
local macro_rules | `(tactic| walk_at "norm") => `(tactic| (try simp only [bitAnd_m1] at *))
local macro_rules | `(tactic| walk_at "call") => `(tactic| ((with_reducible refine' Cl.eq (fn_u_normalize ?hS ?h1 ?h2 ?h3) ?hk); (case hS => assumption); walk_at "s1"; walk_at "s2"; walk_at "s3"))
local macro_rules | `(tactic| walk_at "call") => `(tactic| ((with_reducible refine' Cl.eq (fn_normalize ?hS ?h1 ?h2 ?h3) ?hk); (case hS => assumption); walk_at "s1"; walk_at "s2"; walk_at "s3"))
local macro_rules | `(tactic| walk_at "call") => `(tactic| (with_reducible refine' Cl.eq fn_from_man_exp0 ?hk))
local macro_rules | `(tactic| walk_at "call") => `(tactic| first
  | ((with_reducible refine' NormOk.call' ?hN ?h1 ?h2 ?hk); (case hN => assumption); walk_at "s1"; walk_at "s2")
  | ((with_reducible refine' NormOk.call ?hN ?h1 ?h2 ?hk); (case hN => assumption); walk_at "s1"; walk_at "s2"))
local macro_rules | `(tactic| walk_at "call") => `(tactic| first | (with_reducible refine' Cl.eq fn_mpf_neg0 ?hk) | ((with_reducible refine' Cl.eq (fn_mpf_neg ?h1) ?hk); walk_at "s1"))
section
variable {w : World} {p : Program} {loose : List Str} {mean : ExcName → Option Value} {mg mb : Str → Option Value} {f : FI} {d : Nat} {X : Prop}

local macro_rules | `(tactic| walk_at "call") => `(tactic| ((with_reducible refine' Cl.eq (fn_u_normalizeN ?h1 ?h2 ?h3) ?hk); walk_at "s1"; walk_at "s2"; walk_at "s3"))
theorem fn_normalizeN {s : Int} {m prec : Nat} {e : Int} (hp : 1 ≤ prec) (hs : s = 0 ∨ s = 1) (hmb : bl m ≤ 7000) :
    Cl (GG w p loose mean mg mb) f (d + 3) (.ref 46) [.int s, .int m, .int e, .int (bl m : Nat), .int prec, .str (Str.ofString "n")] (fun v => v = normR rN s m e prec) X := by
  refine' fn_enter (defs := []) (dvs := []) nsnormalize gsnormalize [] 0 ?ho ?hcd ?hbind ?hns ?hlen ?hok .nil ?hco ?hgen ?hcell ?hρ ?hb
  walk_at "enter"
  case hbind => (intro s vals X hl; match vals, hl with | [_, _, _, _, _, _], _ => exact BindsTo.of_eq rfl)
  repeat' walk_at "ms"
  rfl
theorem normOk_n {prec : Nat} (hp : 1 ≤ prec) : NormOk w p loose mean mg mb X (Str.ofString "n") prec (fun s m e => normR rN s m e prec) := fun f d s m e hs hm => fn_normalizeN hp hs (N7_bl hm)
theorem fn_shift_canon {s e k : Int} {m : Nat} (hs : s = 0 ∨ s = 1) (hb : bl m ≤ 1000) :
    Cl (GG w p loose mean mg mb) f (d + 1) (.ref 167) [canon s m e, .int k] (fun v => v = canon s m (e + k)) X := by
  by_cases h : m = 0
  · subst h
    exact Cl.eq (fn_mpf_shift mpf_zero) rfl
  · refine Cl.eq (fn_mpf_shift (mpf_canon hs (by omega) hb)) ?_
    have o := odd_spec (m := m) (by omega)
    rw [show canon s m (e + k) = canon s (odd m * 2 ^ tz m) (e + k) by rw [← o.2], canon_mul]
    congr 1
    omega
theorem sg_or (i : Int) : sg i = 0 ∨ sg i = 1 := by unfold sg; split <;> simp
theorem rN_bl {m P : Nat} (hP : 1 ≤ P) (hb : bl m ≤ 999) : bl (rN m (2 ^ (bl m - P))) ≤ 1000 := by
  by_cases h : bl m ≤ P
  · rw [show bl m - P = 0 by omega, Nat.pow_zero, rN_one]; omega
  · rcases (near_bl (m := m) (k := bl m - P) (P := P) (by omega) hP).2 with a | a
    · omega
    · rw [a, bl_pow]; omega
theorem bl_add (a b : Int) {k : Nat} (ha : bl a.natAbs ≤ k) (hb : bl b.natAbs ≤ k) : bl (a + b).natAbs ≤ k + 1 := by
  have h1 := bl_le.mp ha
  have h2 := bl_le.mp hb
  refine bl_le.mpr ?_
  rw [Nat.pow_succ]
  omega
theorem tz_le {m : Nat} (h : 0 < m) : tz m ≤ bl m := by
  obtain ⟨ho, e⟩ := odd_spec h
  have := bl_mul_pow (n := odd m) (by omega) (tz m)
  rw [← e] at this
  omega
theorem near_int {a b E s1 s2 e1 e2 : Int} {M1 M2 k1 k2 P : Nat} (ha : bl a.natAbs ≤ 100) (hb : bl b.natAbs ≤ 100)
    (g1 : M1 = 0 → a = 0) (f1 : M1 ≠ 0 → s1 = sg a ∧ e1 = E + k1 ∧ a.natAbs = M1 * 2 ^ k1)
    (g2 : M2 = 0 → b = 0) (f2 : M2 ≠ 0 → s2 = sg b ∧ e2 = E + k2 ∧ b.natAbs = M2 * 2 ^ k2) : Near P M1 e1 M2 e2 := by
  have t1 : M1 ≠ 0 → k1 ≤ 99 := fun h => by
    have := bl_mul_pow (n := M1) (by omega) k1
    rw [← (f1 h).2.2] at this
    have := bl_pos (n := M1) (by omega)
    omega
  have t2 : M2 ≠ 0 → k2 ≤ 99 := fun h => by
    have := bl_mul_pow (n := M2) (by omega) k2
    rw [← (f2 h).2.2] at this
    have := bl_pos (n := M2) (by omega)
    omega
  by_cases z1 : M1 = 0
  · exact ⟨.inl z1, .inl z1, .inl z1, .inl z1⟩
  by_cases z2 : M2 = 0
  · exact ⟨.inr (.inl z2), .inr (.inl z2), .inr (.inl z2), .inr (.inl z2)⟩
  have := (f1 z1).2.1
  have := (f2 z2).2.1
  have := t1 z1
  have := t2 z2
  exact ⟨by omega, by omega, by omega, by omega⟩
theorem fn_mpi_mid {a b : Int} {prec : Nat} (hp : 1 ≤ prec) (ha : bl a.natAbs ≤ 100) (hb : bl b.natAbs ≤ 100) :
    Cl (GG w p loose mean mg mb) f (d + 5) (.ref 243) [.tup [canon (sg a) a.natAbs (-1), canon (sg b) b.natAbs (-1)], .int prec] (fun v => v = normR rN (sg (a + b)) (a + b).natAbs (-2) prec) X := by
  obtain ⟨s1, M1, e1, k1, m1, g1, f1⟩ := mpf_int a (-1) (by omega)
  obtain ⟨s2, M2, e2, k2, m2, g2, f2⟩ := mpf_int b (-1) (by omega)
  replace f1 := fun h => (⟨(f1 h).1, (f1 h).2.1, (f1 h).2.2.1⟩ : _ ∧ _ ∧ _)
  replace f2 := fun h => (⟨(f2 h).1, (f2 h).2.1, (f2 h).2.2.1⟩ : _ ∧ _ ∧ _)
  have hv := addV_int (rs := fun _ => rN) (fun _ => rnd_n) (fun _ => rfl) hp g1 f1 g2 f2
  have hn := near_int (P := prec) ha hb g1 f1 g2 f2
  refine' fn_enter (defs := []) (dvs := []) nsmpi_mid gsmpi_mid [Str.ofString "sa", Str.ofString "sb"] 2 ?ho ?hcd ?hbind ?hns ?hlen ?hok .nil ?hco ?hgen ?hcell ?hρ ?hb
  walk_at "enter"
  case hbind => (intro s vals X hl; match vals, hl with | [_, _], _ => exact BindsTo.of_eq rfl)
  repeat' walk_at "ms"
  refine Cl.eq (fn_mpf_add (normOk_n hp) hp m1 m2 hn) ?_
  rw [hv]
  repeat' walk_at "ms"
  unfold normR
  refine Cl.eq (fn_shift_canon (sg_or _) (rN_bl hp (by have := bl_add a b ha hb; omega))) ?_
  repeat' walk_at "ms"
  congr 1
  omega
theorem fn_mpi_delta {a b : Int} {prec : Nat} (hp : 1 ≤ prec) (ha : bl a.natAbs ≤ 100) (hb : bl b.natAbs ≤ 100) :
    Cl (GG w p loose mean mg mb) f (d + 6) (.ref 236) [.tup [canon (sg a) a.natAbs (-1), canon (sg b) b.natAbs (-1)], .int prec] (fun v => v = normR (rU false) (sg (b - a)) (b - a).natAbs (-1) prec) X := by
  obtain ⟨s1, M1, e1, k1, m1, g1, f1⟩ := mpf_int a (-1) (by omega)
  obtain ⟨s2, M2, e2, k2, m2, g2, f2⟩ := mpf_int b (-1) (by omega)
  replace f1 := fun h => (⟨(f1 h).1, (f1 h).2.1, (f1 h).2.2.1⟩ : _ ∧ _ ∧ _)
  replace f2 := fun h => (⟨(f2 h).1, (f2 h).2.1, (f2 h).2.2.1⟩ : _ ∧ _ ∧ _)
  have fa : M1 ≠ 0 → 1 - s1 = sg (-a) ∧ e1 = -1 + k1 ∧ (-a).natAbs = M1 * 2 ^ k1 := fun h => by
    obtain ⟨x, y, z⟩ := f1 h
    refine ⟨?_, y, by omega⟩
    have : a ≠ 0 := by
      intro h0
      subst h0
      have := Nat.mul_pos (Nat.pos_of_ne_zero h) (two_pos k1)
      omega
    rw [x]
    unfold sg
    split <;> split <;> omega
  have hv := addV_int (rs := fun _ => rU false) (fun _ => rnd_d _) (fun _ => rfl) (E := -1) hp g2 f2 (a := b) (b := -a) (fun h => by rw [g1 h]; rfl) fa
  have hn := near_int (P := prec) hb ha g2 f2 g1 f1
  refine' fn_enter (defs := []) (dvs := []) nsmpi_delta gsmpi_delta [Str.ofString "sa", Str.ofString "sb"] 2 ?ho ?hcd ?hbind ?hns ?hlen ?hok .nil ?hco ?hgen ?hcell ?hρ ?hb
  walk_at "enter"
  case hbind => (intro s vals X hl; match vals, hl with | [_, _], _ => exact BindsTo.of_eq rfl)
  repeat' walk_at "ms"
  refine Cl.eq (fn_mpf_sub (normOk_dir (sd_u _) (.inl rfl) (.inl rfl) hp) hp m2 m1 hn) ?_
  have e : (fun s m e => norm (dnOf 0 0 s) s m e prec) = fun (s : Int) (m : Nat) (e : Int) => normR (rU false) s m e prec := by
    funext s m e
    rw [norm_eq]
    congr 2
    unfold dnOf
    split <;> rfl
  rw [e, hv]
  repeat' walk_at "ms"
  rw [← Int.sub_eq_add_neg]
end

end
section
local macro_rules | `(tactic| walk_at "opmore") => `(tactic| first
  | ((with_reducible refine' op_sd ?h1 ?hk ?h2); (case h1 => assumption); (case h2 => (intros; with_unfolding_all rfl)))
  | ((with_reducible refine' op_pair ?h1 ?hk ?h2); (case h1 => assumption); (case h2 => (intros; with_unfolding_all rfl))))
local macro_rules | `(tactic| walk_at "call") => `(tactic| ((with_reducible refine' Cl.eq (fn_trailing ?h1) ?hk); walk_at "s1"))
local macro_rules | `(tactic| walk_at "norm") => `(tactic| (try simp only [bitAnd_m1] at *))
local macro_rules | `(tactic| walk_at "call") => `(tactic| ((with_reducible refine' Cl.eq (fn_u_normalize ?hS ?h1 ?h2 ?h3) ?hk); (case hS => assumption); walk_at "s1"; walk_at "s2"; walk_at "s3"))
local macro_rules | `(tactic| walk_at "call") => `(tactic| ((with_reducible refine' Cl.eq (fn_normalize ?hS ?h1 ?h2 ?h3) ?hk); (case hS => assumption); walk_at "s1"; walk_at "s2"; walk_at "s3"))
local macro_rules | `(tactic| walk_at "call") => `(tactic| (with_reducible refine' Cl.eq fn_from_man_exp0 ?hk))
local macro_rules | `(tactic| walk_at "call") => `(tactic| first
  | ((with_reducible refine' NormOk.call' ?hN ?h1 ?h2 ?hk); (case hN => assumption); walk_at "s1"; walk_at "s2")
  | ((with_reducible refine' NormOk.call ?hN ?h1 ?h2 ?hk); (case hN => assumption); walk_at "s1"; walk_at "s2"))
local macro_rules | `(tactic| walk_at "call") => `(tactic| first | (with_reducible refine' Cl.eq fn_mpf_neg0 ?hk) | ((with_reducible refine' Cl.eq (fn_mpf_neg ?h1) ?hk); walk_at "s1"))
section
variable {w : World} {p : Program} {loose : List Str} {mean : ExcName → Option Value} {mg mb : Str → Option Value} {f : FI} {d : Nat} {X : Prop}

local macro_rules | `(tactic| walk_at "exmore") => `(tactic| ((with_reducible refine' ex_raiseC ?hb ?hm ?hx); (case hb => exact blValueError _); (case hm => walk_at "inl"); (case hx => assumption)))
local macro_rules | `(tactic| walk_at "call") => `(tactic| ((with_reducible refine' Cl.eq (fn_mpf_lt ?h1 ?h2 ?h3) ?hk); walk_at "s1"; walk_at "s2"; walk_at "s3"))
local macro_rules | `(tactic| walk_at "call") => `(tactic| ((with_reducible refine' Cl.eq (fn_mpf_le ?h1 ?h2 ?h3) ?hk); walk_at "s1"; walk_at "s2"; walk_at "s3"))
local macro_rules | `(tactic| walk_at "call") => `(tactic| ((with_reducible refine' Cl.eq (fn_mpf_gt ?h1 ?h2 ?h3) ?hk); walk_at "s1"; walk_at "s2"; walk_at "s3"))
local macro_rules | `(tactic| walk_at "call") => `(tactic| ((with_reducible refine' Cl.eq (fn_mpf_ge ?h1 ?h2 ?h3) ?hk); walk_at "s1"; walk_at "s2"; walk_at "s3"))

/-- what the comparison answers; none: it raises -/
def ans_lt (c1 c2 : Int) : Option Bool := if c1 < 0 then some true else if c2 ≥ 0 then some false else none
theorem fn_mpi_lt {a b a' b' : V} {sa sb ta tb ea eb fa fb : Int} {Ma Mb Na Nb : Nat} (h1 : Mpf a sa Ma ea) (h2 : Mpf b sb Mb eb) (h3 : Mpf a' ta Na fa) (h4 : Mpf b' tb Nb fb)
    (r1 : Mb = 0 ∨ Na = 0 ∨ (eb - fa ≤ 5000 ∧ fa - eb ≤ 5000)) (r2 : Ma = 0 ∨ Nb = 0 ∨ (ea - fb ≤ 5000 ∧ fb - ea ≤ 5000)) (hX : ans_lt (cmpI sb Mb eb ta Na fa) (cmpI sa Ma ea tb Nb fb) = none → X) :
    Cl (GG w p loose mean mg mb) f (d + 10) (.ref 208) [.tup [a, b], .tup [a', b']] (fun v => ∃ t, ans_lt (cmpI sb Mb eb ta Na fa) (cmpI sa Ma ea tb Nb fb) = some t ∧ v = .bool t) X := by
  generalize hc1 : cmpI sb Mb eb ta Na fa = c1 at *
  generalize hc2 : cmpI sa Ma ea tb Nb fb = c2 at *
  refine' fn_enter (defs := []) (dvs := []) nsmpi_lt gsmpi_lt [Str.ofString "sa", Str.ofString "sb", Str.ofString "ta", Str.ofString "tb"] 4 ?ho ?hcd ?hbind ?hns ?hlen ?hok .nil ?hco ?hgen ?hcell ?hρ ?hb
  walk_at "enter"
  case hbind => (intro s vals X hl; match vals, hl with | [_, _], _ => exact BindsTo.of_eq rfl)
  walk_at "st"
  walk_at "nx"
  refine then_next (exs_cons ?_)
  repeat' walk_at "m1"
  · rename_i h
    rw [hc1] at h
    exact ⟨true, by unfold ans_lt; rw [if_pos (by simpa using h)], rfl⟩
  rename_i k1
  rw [hc1] at k1
  refine then_next (exs_cons ?_)
  repeat' walk_at "m1"
  · rename_i h
    rw [hc2] at h
    exact ⟨false, by unfold ans_lt; rw [if_neg (by simpa using k1), if_pos (by simpa using h)], rfl⟩
  rename_i k2
  rw [hc2] at k2
  have hx : X := hX (by unfold ans_lt; rw [if_neg (by simpa using k1), if_neg (by simpa using k2)])
  refine then_next (exs_cons ?_)
  repeat' walk_at "m1"

/-- what the comparison answers; none: it raises -/
def ans_le (c1 c2 : Int) : Option Bool := if c1 ≤ 0 then some true else if c2 > 0 then some false else none
theorem fn_mpi_le {a b a' b' : V} {sa sb ta tb ea eb fa fb : Int} {Ma Mb Na Nb : Nat} (h1 : Mpf a sa Ma ea) (h2 : Mpf b sb Mb eb) (h3 : Mpf a' ta Na fa) (h4 : Mpf b' tb Nb fb)
    (r1 : Mb = 0 ∨ Na = 0 ∨ (eb - fa ≤ 5000 ∧ fa - eb ≤ 5000)) (r2 : Ma = 0 ∨ Nb = 0 ∨ (ea - fb ≤ 5000 ∧ fb - ea ≤ 5000)) (hX : ans_le (cmpI sb Mb eb ta Na fa) (cmpI sa Ma ea tb Nb fb) = none → X) :
    Cl (GG w p loose mean mg mb) f (d + 10) (.ref 215) [.tup [a, b], .tup [a', b']] (fun v => ∃ t, ans_le (cmpI sb Mb eb ta Na fa) (cmpI sa Ma ea tb Nb fb) = some t ∧ v = .bool t) X := by
  generalize hc1 : cmpI sb Mb eb ta Na fa = c1 at *
  generalize hc2 : cmpI sa Ma ea tb Nb fb = c2 at *
  refine' fn_enter (defs := []) (dvs := []) nsmpi_le gsmpi_le [Str.ofString "sa", Str.ofString "sb", Str.ofString "ta", Str.ofString "tb"] 4 ?ho ?hcd ?hbind ?hns ?hlen ?hok .nil ?hco ?hgen ?hcell ?hρ ?hb
  walk_at "enter"
  case hbind => (intro s vals X hl; match vals, hl with | [_, _], _ => exact BindsTo.of_eq rfl)
  walk_at "st"
  walk_at "nx"
  refine then_next (exs_cons ?_)
  repeat' walk_at "m1"
  · rename_i h
    rw [hc1] at h
    exact ⟨true, by unfold ans_le; rw [if_pos (by simpa using h)], rfl⟩
  rename_i k1
  rw [hc1] at k1
  refine then_next (exs_cons ?_)
  repeat' walk_at "m1"
  · rename_i h
    rw [hc2] at h
    exact ⟨false, by unfold ans_le; rw [if_neg (by simpa using k1), if_pos (by simpa using h)], rfl⟩
  rename_i k2
  rw [hc2] at k2
  have hx : X := hX (by unfold ans_le; rw [if_neg (by simpa using k1), if_neg (by simpa using k2)])
  refine then_next (exs_cons ?_)
  repeat' walk_at "m1"
local macro_rules | `(tactic| walk_at "call") => `(tactic| ((with_reducible refine' Cl.mono (fn_mpi_lt ?h1 ?h2 ?h3 ?h4 ?r1 ?r2 ?hX) ?hk); (case h1 => assumption); (case h2 => assumption); (case h3 => assumption); (case h4 => assumption); (case r1 => assumption); (case r2 => assumption); (case hX => assumption)))
theorem fn_mpi_gt {a b a' b' : V} {sa sb ta tb ea eb fa fb : Int} {Ma Mb Na Nb : Nat} (h3 : Mpf a sa Ma ea) (h4 : Mpf b sb Mb eb) (h1 : Mpf a' ta Na fa) (h2 : Mpf b' tb Nb fb)
    (r1 : Nb = 0 ∨ Ma = 0 ∨ (fb - ea ≤ 5000 ∧ ea - fb ≤ 5000)) (r2 : Na = 0 ∨ Mb = 0 ∨ (fa - eb ≤ 5000 ∧ eb - fa ≤ 5000)) (hX : ans_lt (cmpI tb Nb fb sa Ma ea) (cmpI ta Na fa sb Mb eb) = none → X) :
    Cl (GG w p loose mean mg mb) f (d + 11) (.ref 222) [.tup [a, b], .tup [a', b']] (fun v => ∃ t, ans_lt (cmpI tb Nb fb sa Ma ea) (cmpI ta Na fa sb Mb eb) = some t ∧ v = .bool t) X := by
  refine' fn_enter (defs := []) (dvs := []) nsmpi_gt gsmpi_gt [] 0 ?ho ?hcd ?hbind ?hns ?hlen ?hok .nil ?hco ?hgen ?hcell ?hρ ?hb
  walk_at "enter"
  case hbind => (intro s vals X hl; match vals, hl with | [_, _], _ => exact BindsTo.of_eq rfl)
  repeat' walk_at "ms"
  intro v hv
  repeat' walk_at "ms"
  exact hv
local macro_rules | `(tactic| walk_at "call") => `(tactic| ((with_reducible refine' Cl.mono (fn_mpi_le ?h1 ?h2 ?h3 ?h4 ?r1 ?r2 ?hX) ?hk); (case h1 => assumption); (case h2 => assumption); (case h3 => assumption); (case h4 => assumption); (case r1 => assumption); (case r2 => assumption); (case hX => assumption)))
theorem fn_mpi_ge {a b a' b' : V} {sa sb ta tb ea eb fa fb : Int} {Ma Mb Na Nb : Nat} (h3 : Mpf a sa Ma ea) (h4 : Mpf b sb Mb eb) (h1 : Mpf a' ta Na fa) (h2 : Mpf b' tb Nb fb)
    (r1 : Nb = 0 ∨ Ma = 0 ∨ (fb - ea ≤ 5000 ∧ ea - fb ≤ 5000)) (r2 : Na = 0 ∨ Mb = 0 ∨ (fa - eb ≤ 5000 ∧ eb - fa ≤ 5000)) (hX : ans_le (cmpI tb Nb fb sa Ma ea) (cmpI ta Na fa sb Mb eb) = none → X) :
    Cl (GG w p loose mean mg mb) f (d + 11) (.ref 229) [.tup [a, b], .tup [a', b']] (fun v => ∃ t, ans_le (cmpI tb Nb fb sa Ma ea) (cmpI ta Na fa sb Mb eb) = some t ∧ v = .bool t) X := by
  refine' fn_enter (defs := []) (dvs := []) nsmpi_ge gsmpi_ge [] 0 ?ho ?hcd ?hbind ?hns ?hlen ?hok .nil ?hco ?hgen ?hcell ?hρ ?hb
  walk_at "enter"
  case hbind => (intro s vals X hl; match vals, hl with | [_, _], _ => exact BindsTo.of_eq rfl)
  repeat' walk_at "ms"
  intro v hv
  repeat' walk_at "ms"
  exact hv
end

end
section
local macro_rules | `(tactic| walk_at "opmore") => `(tactic| first
  | ((with_reducible refine' op_sd ?h1 ?hk ?h2); (case h1 => assumption); (case h2 => (intros; with_unfolding_all rfl)))
  | ((with_reducible refine' op_pair ?h1 ?hk ?h2); (case h1 => assumption); (case h2 => (intros; with_unfolding_all rfl))))
local macro_rules | `(tactic| walk_at "call") => `(tactic| ((with_reducible refine' Cl.eq (fn_trailing ?h1) ?hk); walk_at "s1"))
local macro_rules | `(tactic| walk_at "norm") => `(tactic| (try simp only [bitAnd_m1] at *))
local macro_rules | `(tactic| walk_at "call") => `(tactic| ((with_reducible refine' Cl.eq (fn_u_normalize ?hS ?h1 ?h2 ?h3) ?hk); (case hS => assumption); walk_at "s1"; walk_at "s2"; walk_at "s3"))
local macro_rules | `(tactic| walk_at "call") => `(tactic| ((with_reducible refine' Cl.eq (fn_normalize ?hS ?h1 ?h2 ?h3) ?hk); (case hS => assumption); walk_at "s1"; walk_at "s2"; walk_at "s3"))
local macro_rules | `(tactic| walk_at "call") => `(tactic| (with_reducible refine' Cl.eq fn_from_man_exp0 ?hk))
local macro_rules | `(tactic| walk_at "call") => `(tactic| first
  | ((with_reducible refine' NormOk.call' ?hN ?h1 ?h2 ?hk); (case hN => assumption); walk_at "s1"; walk_at "s2")
  | ((with_reducible refine' NormOk.call ?hN ?h1 ?h2 ?hk); (case hN => assumption); walk_at "s1"; walk_at "s2"))
local macro_rules | `(tactic| walk_at "call") => `(tactic| first | (with_reducible refine' Cl.eq fn_mpf_neg0 ?hk) | ((with_reducible refine' Cl.eq (fn_mpf_neg ?h1) ?hk); walk_at "s1"))
local macro_rules | `(tactic| walk_at "exmore") => `(tactic| ((with_reducible refine' ex_swap2 ?hs ?hk ?h1); (case hs => (intro; kernel_rfl)); (case h1 => (intro; rfl))))
local macro_rules | `(tactic| walk_at "m0") => `(tactic| ((with_reducible show (∃ _ _, V.tup _ = V.tup _ ∧ _)); (with_reducible refine ⟨_, _, rfl, ?_⟩)))
local macro_rules | `(tactic| walk_at "tst") => `(tactic| (with_reducible refine tst_if ?_))
section
variable {w : World} {p : Program} {loose : List Str} {mean : ExcName → Option Value} {mg mb : Str → Option Value} {f : FI} {d : Nat} {X : Prop}

def num (ns : List Int) (at_ : Nat) : Int := ns[at_]?.getD (43 * at_ + 19)
local macro_rules | `(tactic| walk_at "call") => `(tactic| ((with_reducible refine' cl_lenL ?hk ?h1); walk_at "s1"))
local macro_rules | `(tactic| walk_at "side") => `(tactic| first | assumption | omega | decide | (simp only [List.length_map]; omega))
theorem fn_law_number {ns : List Int} {k : Nat} (hn : ns.length ≤ 100) (hk : k ≤ 100) : Cl (GG w p loose mean mg mb) f (d + 1) (.ref 271) [.lst (ns.map V.int), .int k] (fun v => v = .int (num ns k)) X := by
  have gk : ((k : Nat) : Int).natAbs < BIG := small_lt_big (by omega)
  refine' fn_enter (defs := []) (dvs := []) nsu_law_number gsu_law_number [] 0 ?ho ?hcd ?hbind ?hns ?hlen ?hok .nil ?hco ?hgen ?hcell ?hρ ?hb
  walk_at "enter"
  case hbind => (intro s vals X hl; match vals, hl with | [_, _], _ => exact BindsTo.of_eq rfl)
  repeat' walk_at "ms"
  · rename_i h
    have h' : k < ns.length := by simpa using h
    refine sub_lst (k := k) (v := .int (num ns k)) ?_ (by omega) (by omega) ?_ (by intros; with_unfolding_all rfl)
    · unfold num
      rw [Int.toNat_natCast, List.getElem?_map, List.getElem?_eq_getElem h']
      rfl
    · repeat' walk_at "ms"
      rfl
  · rename_i h
    have h' : ns.length ≤ k := by simpa using h
    unfold num
    rw [List.getElem?_eq_none h']
    rfl

theorem canon_half {s e : Int} {M : Nat} (h : M % 2 = 0) : canon s (M / 2) (e + 1) = canon s M e := by
  have : M = M / 2 * 2 ^ 1 := by omega
  conv => rhs; rw [this, canon_mul]
  rfl
theorem fn_law_told {i e : Int} : Cl (GG w p loose mean mg mb) f (d + 1) (.ref 278) [.int i, .int e] (fun v => v = canon (sg i) i.natAbs e) X := by
  refine' fn_enter (defs := []) (dvs := []) nsu_law_told gsu_law_told [Str.ofString "size", Str.ofString "side"] 2 ?ho ?hcd ?hbind ?hns ?hlen ?hok .nil ?hco ?hgen ?hcell ?hρ ?hb
  walk_at "enter"
  case hbind => (intro s vals X hl; match vals, hl with | [_, _], _ => exact BindsTo.of_eq rfl)
  refine exs_cons ?_
  repeat' walk_at "m1"
  · rename_i h
    subst h
    rfl
  rename_i h0
  refine then_next (exs_cons ?_)
  have fin : ∀ x : Int, (if i < 0 then x = 1 else x = 0) → (if i < 0 then -i else i) = ((i.natAbs : Nat) : Int) ∧ x = sg i := fun x hx => by
    unfold sg
    split at hx <;> (rename_i hh; simp only [hh, if_true, if_false]; omega)
  repeat' walk_at "m1"
  all_goals
    rename_i h1
    refine then_next (exs_cons (ex_while (fun n ρ => ∃ (M : Nat) (e' : Int), n = M ∧ 0 < M ∧ canon (sg i) M e' = canon (sg i) i.natAbs e ∧ ρ = [some (.int i), some (.int e'), some (.int M), some (.int (sg i))]) (n := i.natAbs) ?_ ?_))
    · refine ⟨i.natAbs, e, rfl, by omega, rfl, ?_⟩
      first | (rw [(fin 1 (by rw [if_pos h1])).1, ← (fin 1 (by rw [if_pos h1])).2]) | (rw [(fin 0 (by rw [if_neg (by omega)])).1, ← (fin 0 (by rw [if_neg (by omega)])).2])
    · rintro M _ ⟨M', e', hMM, hM, hc, rfl⟩
      subst hMM
      repeat' walk_at "m1"
      · rename_i hz
        refine ⟨M / 2, by omega, M / 2, e' + 1, rfl, by omega, ?_, ?_⟩
        · rw [canon_half (by omega)]; exact hc
        · rw [Int.natCast_ediv]; rfl
      · rename_i hz
        refine then_next (exs_cons ?_)
        repeat' walk_at "m1"
        rw [← hc, canon_pos hM, intBits_nat]
        unfold odd
        rw [tz_odd (by omega)]
        simp
end

end
section


/-- at least b doublings of the other -/
def Ge (a b : Nat) (k : Int) : Prop := b * 2 ^ k.toNat ≤ a * 2 ^ (-k).toNat
theorem ge_iff {a b u v : Nat} {k : Int} (h : (v : Int) - u = k) : b * 2 ^ v ≤ a * 2 ^ u ↔ Ge a b k := by
  unfold Ge
  obtain ⟨t, h1, h2⟩ : ∃ t, v = k.toNat + t ∧ u = (-k).toNat + t := ⟨v - k.toNat, by omega, by omega⟩
  rw [h1, h2, Nat.pow_add, Nat.pow_add, ← Nat.mul_assoc, ← Nat.mul_assoc]
  exact Nat.mul_le_mul_right_iff (two_pos t)
theorem ge_low {a b : Nat} (ha : 0 < a) (hb : 0 < b) : Ge a b ((bl a : Int) - bl b - 1) := by
  have := bl_pos ha
  refine (ge_iff (u := bl b) (v := bl a - 1) (by omega)).mp ?_
  rw [Nat.mul_comm a]
  exact Nat.mul_le_mul (Nat.le_of_lt (lt_bl b)) (bl_ge ha)
theorem ge_high {a b : Nat} (ha : 0 < a) (hb : 0 < b) : ¬ Ge a b ((bl a : Int) - bl b + 1) := by
  have h1 := bl_pos hb
  intro h
  have h := (ge_iff (u := bl b - 1) (v := bl a) (by omega)).mpr h
  have h2 : a * 2 ^ (bl b - 1) < 2 ^ bl a * 2 ^ (bl b - 1) := Nat.mul_lt_mul_of_pos_right (lt_bl a) (two_pos _)
  have h3 : 2 ^ bl a * 2 ^ (bl b - 1) ≤ b * 2 ^ bl a := by rw [Nat.mul_comm b]; exact Nat.mul_le_mul_left _ (bl_ge hb)
  omega
theorem rq_ge {r} {s : Int} {A B P : Nat} {K : Int} (hP : 1 ≤ P) (h1 : Ge A B (K + P - 1)) (h2 : ¬ Ge A B (K + P)) :
    RQ r s A B P (canon s (r (A * 2 ^ (-K).toNat) (B * 2 ^ K.toNat)) K) := by
  refine ⟨(-K).toNat, K.toNat, ?_, ?_, ?_⟩
  · have := (ge_iff (a := A) (b := B) (u := (-K).toNat) (v := K.toNat + (P - 1)) (by omega)).mpr h1
    rw [Nat.pow_add] at this
    calc _ = B * (2 ^ K.toNat * 2 ^ (P - 1)) := by ac_rfl
      _ ≤ _ := this
  · refine Nat.lt_of_not_le fun h => h2 ?_
    refine (ge_iff (a := A) (b := B) (u := (-K).toNat) (v := K.toNat + P) (by omega)).mp ?_
    rw [Nat.pow_add]
    calc _ = 2 ^ P * (B * 2 ^ K.toNat) := by ac_rfl
      _ ≤ _ := h
  · congr 1; omega
theorem rq_win {r} {s : Int} {A B P : Nat} {v : V} (hP : 1 ≤ P) (h : RQ r s A B P v) : ∃ K : Int, Ge A B (K + P - 1) ∧ ¬ Ge A B (K + P) ∧ ∃ i j : Nat, (j : Int) - i = K ∧ v = canon s (r (A * 2 ^ i) (B * 2 ^ j)) K := by
  obtain ⟨i, j, h1, h2, h3⟩ := h
  refine ⟨(j : Int) - i, ?_, fun h => ?_, i, j, rfl, h3⟩
  · refine (ge_iff (u := i) (v := j + (P - 1)) (by omega)).mp ?_
    rw [Nat.pow_add]
    calc _ = 2 ^ (P - 1) * (B * 2 ^ j) := by ac_rfl
      _ ≤ _ := h1
  · have := (ge_iff (u := i) (v := j + P) (by omega)).mpr h
    rw [Nat.pow_add] at this
    have e : B * (2 ^ j * 2 ^ P) = 2 ^ P * (B * 2 ^ j) := by ac_rfl
    omega
theorem ge_cross {A B A' B' : Nat} {k : Int} (hB : 0 < B) (hB' : 0 < B') (e : A * B' = A' * B) : Ge A B k ↔ Ge A' B' k := by
  unfold Ge
  generalize 2 ^ k.toNat = x
  generalize 2 ^ (-k).toNat = y
  constructor
  · intro h
    have h := Nat.mul_le_mul_left B' h
    have e1 : B' * (A * y) = B * (A' * y) := by
      calc B' * (A * y) = (A * B') * y := by ac_rfl
        _ = (A' * B) * y := by rw [e]
        _ = _ := by ac_rfl
    have e2 : B' * (B * x) = B * (B' * x) := by ac_rfl
    rw [e1, e2] at h
    exact Nat.le_of_mul_le_mul_left h hB
  · intro h
    have h := Nat.mul_le_mul_left B h
    have e1 : B * (A' * y) = B' * (A * y) := by
      calc B * (A' * y) = (A' * B) * y := by ac_rfl
        _ = (A * B') * y := by rw [e]
        _ = _ := by ac_rfl
    have e2 : B * (B' * x) = B' * (B * x) := by ac_rfl
    rw [e1, e2] at h
    exact Nat.le_of_mul_le_mul_left h hB'
theorem rq_cross {r} (R : Rnd r) {s : Int} {A B A' B' P : Nat} {v : V} (hB : 0 < B) (hB' : 0 < B') (hP : 1 ≤ P) (h : RQ r s A B P v) (e : A * B' = A' * B) : RQ r s A' B' P v := by
  obtain ⟨K, g1, g2, i, j, hK, rfl⟩ := rq_win hP h
  have := rq_ge (r := r) (s := s) hP ((ge_cross hB hB' e).mp g1) (fun x => g2 ((ge_cross hB hB' e).mpr x))
  have e1 : r (A * 2 ^ i) (B * 2 ^ j) = r (A' * 2 ^ (-K).toNat) (B' * 2 ^ K.toNat) := by
    refine R.cross (Nat.mul_pos hB (two_pos _)) (Nat.mul_pos hB' (two_pos _)) ?_
    obtain ⟨t, t1, t2⟩ : ∃ t, j = K.toNat + t ∧ i = (-K).toNat + t := ⟨j - K.toNat, by omega, by omega⟩
    calc A * 2 ^ i * (B' * 2 ^ K.toNat) = (A * B') * (2 ^ i * 2 ^ K.toNat) := by ac_rfl
      _ = (A' * B) * (2 ^ i * 2 ^ K.toNat) := by rw [e]
      _ = (A' * B) * 2 ^ (i + K.toNat) := by rw [Nat.pow_add]
      _ = (A' * B) * 2 ^ ((-K).toNat + j) := by rw [t1, t2]; congr 2; omega
      _ = (A' * B) * (2 ^ (-K).toNat * 2 ^ j) := by rw [Nat.pow_add]
      _ = _ := by ac_rfl
  rw [e1]
  exact this
/-- division: the last sign tells of a rest -/
theorem rq_div {dn : Bool} {s : Int} {M1 M2 P : Nat} (h1 : 0 < M1) (h2 : 0 < M2) (hP : 1 ≤ P) (a b : Nat) : RQ (rU dn) s (M1 * 2 ^ a) (M2 * 2 ^ b) P (divV dn s M1 M2 ((a : Int) - b) P) := by
  unfold divV
  by_cases e1 : M2 = 1
  · rw [if_pos e1, e1, Nat.one_mul]
    exact rq_norm (rnd_d dn) h1 hP a b
  rw [if_neg e1]
  generalize hx : dvx M1 M2 P = x
  have hxl : bl M1 + x ≥ P + bl M2 + 5 := by rw [← hx]; unfold dvx; split <;> omega
  have hN : 2 ^ (P + 4) * M2 ≤ M1 * 2 ^ x := by
    have g := bl_ge h1
    have l := lt_bl M2
    have q := bl_pos h1
    calc 2 ^ (P + 4) * M2 ≤ 2 ^ (P + 4) * 2 ^ bl M2 := Nat.mul_le_mul_left _ (Nat.le_of_lt l)
      _ = 2 ^ (P + 4 + bl M2) := (Nat.pow_add ..).symm
      _ ≤ 2 ^ (bl M1 - 1 + x) := Nat.pow_le_pow_right (by decide) (by omega)
      _ = 2 ^ (bl M1 - 1) * 2 ^ x := Nat.pow_add ..
      _ ≤ M1 * 2 ^ x := Nat.mul_le_mul_right _ g
  have hq : 2 ^ (P + 4) ≤ M1 * 2 ^ x / M2 := (Nat.le_div_iff_mul_le h2).mpr hN
  have hdm := Nat.div_add_mod (M1 * 2 ^ x) M2
  have hml := Nat.mod_lt (M1 * 2 ^ x) h2
  generalize hNN : M1 * 2 ^ x = N at *
  generalize hqq : N / M2 = q at *
  generalize hr : N % M2 = rr at *
  have hp4 := two_pos (P + 4)
  by_cases e2 : rr = 0
  · rw [if_pos e2, show ((a : Int) - b - x) = ((a : Int) - ((b + x : Nat) : Int)) by omega]
    refine rq_cross (rnd_d dn) (two_pos _) (Nat.mul_pos h2 (two_pos _)) hP (rq_norm (rnd_d dn) (s := s) (m := q) (by omega) hP a (b + x)) ?_
    rw [Nat.pow_add]
    calc q * 2 ^ a * (M2 * 2 ^ b) = (M2 * q) * (2 ^ a * 2 ^ b) := by ac_rfl
      _ = (M1 * 2 ^ x) * (2 ^ a * 2 ^ b) := by rw [hNN, ← hdm, e2, Nat.add_zero]
      _ = _ := by ac_rfl
  · rw [if_neg e2]
    have hm0 : 0 < q * 2 + 1 := by omega
    have bP : P + 4 < bl (q * 2 + 1) := bl_lt.mpr (by omega)
    have g := bl_ge hm0
    have l := lt_bl (q * 2 + 1)
    obtain ⟨k, hk⟩ : ∃ k, bl (q * 2 + 1) = P + (k + 1) := ⟨bl (q * 2 + 1) - P - 1, by omega⟩
    have ev : 2 ^ (P - 1 + (k + 1)) ≤ q * 2 := by
      have : bl (q * 2 + 1) - 1 = P - 1 + k + 1 := by omega
      rw [this, Nat.pow_succ] at g
      rw [show P - 1 + (k + 1) = P - 1 + k + 1 by omega, Nat.pow_succ]
      omega
    have ev2 : q * 2 + 2 ≤ 2 ^ (P + (k + 1)) := by
      rw [hk] at l
      rw [show P + (k + 1) = P + k + 1 by omega, Nat.pow_succ] at l ⊢
      omega
    rw [norm_eq]
    unfold normR
    rw [hk, show P + (k + 1) - P = k + 1 by omega]
    have eA : ∀ C : Nat, M1 * 2 ^ a * 2 ^ (b + x + 1) = (N * 2) * (2 ^ a * 2 ^ b) := fun _ => by
      rw [← hNN, Nat.pow_add, Nat.pow_add]
      simp only [Nat.pow_one]
      ac_rfl
    have eB : ∀ C : Nat, M2 * 2 ^ b * 2 ^ (a + (k + 1)) = (M2 * 2 ^ (k + 1)) * (2 ^ a * 2 ^ b) := fun _ => by
      rw [Nat.pow_add]
      ac_rfl
    have hC : 0 < 2 ^ a * 2 ^ b := Nat.mul_pos (two_pos _) (two_pos _)
    refine ⟨b + x + 1, a + (k + 1), ?_, ?_, ?_⟩
    · rw [eA 0, eB 0, ← Nat.mul_assoc (2 ^ (P - 1))]
      refine Nat.mul_le_mul_right _ ?_
      calc 2 ^ (P - 1) * (M2 * 2 ^ (k + 1)) = M2 * 2 ^ (P - 1 + (k + 1)) := by rw [Nat.pow_add 2 (P - 1) (k + 1)]; ac_rfl
        _ ≤ M2 * (q * 2) := Nat.mul_le_mul_left _ ev
        _ = (M2 * q) * 2 := by ac_rfl
        _ ≤ N * 2 := Nat.mul_le_mul_right _ (by omega)
    · rw [eA 0, eB 0, ← Nat.mul_assoc (2 ^ P)]
      refine Nat.mul_lt_mul_of_pos_right ?_ hC
      calc N * 2 < (M2 * q + M2) * 2 := Nat.mul_lt_mul_of_pos_right (by omega) (by decide)
        _ = M2 * (q * 2 + 2) := by rw [Nat.mul_add, Nat.add_mul]; congr 1; ac_rfl
        _ ≤ M2 * 2 ^ (P + (k + 1)) := Nat.mul_le_mul_left _ ev2
        _ = _ := by rw [Nat.pow_add 2 P (k + 1)]; ac_rfl
    · rw [eA 0, eB 0, (rnd_d dn).sc _ _ _ (Nat.mul_pos h2 (two_pos _)) hC]
      have er : rU dn (N * 2) (M2 * 2 ^ (k + 1)) = rU dn (q * 2 + 1) (2 ^ (k + 1)) := by
        have d1 : N * 2 / (M2 * 2 ^ (k + 1)) = q / 2 ^ k := by
          rw [Nat.pow_succ, ← Nat.mul_assoc, Nat.mul_div_mul_right _ _ (by decide), ← Nat.div_div_eq_div_mul, hqq]
        have d2 : (q * 2 + 1) / 2 ^ (k + 1) = q / 2 ^ k := by
          rw [Nat.pow_succ, Nat.mul_comm (2 ^ k), ← Nat.div_div_eq_div_mul]
          congr 1; omega
        have m1 : N * 2 % (M2 * 2 ^ (k + 1)) ≠ 0 := by
          rw [Nat.pow_succ, ← Nat.mul_assoc, Nat.mul_mod_mul_right]
          intro h
          have h : N % (M2 * 2 ^ k) = 0 := by omega
          have := Nat.mod_mul_right_mod N M2 (2 ^ k)
          rw [h, hr, Nat.zero_mod] at this
          exact e2 this.symm
        have m2 : (q * 2 + 1) % 2 ^ (k + 1) ≠ 0 := by
          intro h
          have := Nat.mod_mul_right_mod (q * 2 + 1) 2 (2 ^ k)
          rw [Nat.mul_comm 2, ← Nat.pow_succ, h] at this
          omega
        unfold rU
        cases dn
        · simp only [Bool.false_eq_true, if_false]
          rw [up_eq (Nat.mul_pos h2 (two_pos _)), up_eq (two_pos _), d1, d2, if_neg m1, if_neg m2]
        · simp only [if_true]
          rw [d1, d2]
      rw [er]
      congr 1
      omega

end
section
local macro_rules | `(tactic| walk_at "opmore") => `(tactic| first
  | ((with_reducible refine' op_sd ?h1 ?hk ?h2); (case h1 => assumption); (case h2 => (intros; with_unfolding_all rfl)))
  | ((with_reducible refine' op_pair ?h1 ?hk ?h2); (case h1 => assumption); (case h2 => (intros; with_unfolding_all rfl))))
local macro_rules | `(tactic| walk_at "call") => `(tactic| ((with_reducible refine' Cl.eq (fn_trailing ?h1) ?hk); walk_at "s1"))
local macro_rules | `(tactic| walk_at "norm") => `(tactic| (try simp only [bitAnd_m1] at *))
local macro_rules | `(tactic| walk_at "call") => `(tactic| ((with_reducible refine' Cl.eq (fn_u_normalize ?hS ?h1 ?h2 ?h3) ?hk); (case hS => assumption); walk_at "s1"; walk_at "s2"; walk_at "s3"))
local macro_rules | `(tactic| walk_at "call") => `(tactic| ((with_reducible refine' Cl.eq (fn_normalize ?hS ?h1 ?h2 ?h3) ?hk); (case hS => assumption); walk_at "s1"; walk_at "s2"; walk_at "s3"))
local macro_rules | `(tactic| walk_at "call") => `(tactic| (with_reducible refine' Cl.eq fn_from_man_exp0 ?hk))
local macro_rules | `(tactic| walk_at "call") => `(tactic| first
  | ((with_reducible refine' NormOk.call' ?hN ?h1 ?h2 ?hk); (case hN => assumption); walk_at "s1"; walk_at "s2")
  | ((with_reducible refine' NormOk.call ?hN ?h1 ?h2 ?hk); (case hN => assumption); walk_at "s1"; walk_at "s2"))
local macro_rules | `(tactic| walk_at "call") => `(tactic| first | (with_reducible refine' Cl.eq fn_mpf_neg0 ?hk) | ((with_reducible refine' Cl.eq (fn_mpf_neg ?h1) ?hk); walk_at "s1"))
local macro_rules | `(tactic| walk_at "exmore") => `(tactic| ((with_reducible refine' ex_swap2 ?hs ?hk ?h1); (case hs => (intro; kernel_rfl)); (case h1 => (intro; rfl))))
local macro_rules | `(tactic| walk_at "m0") => `(tactic| ((with_reducible show (∃ _ _, V.tup _ = V.tup _ ∧ _)); (with_reducible refine ⟨_, _, rfl, ?_⟩)))
local macro_rules | `(tactic| walk_at "tst") => `(tactic| (with_reducible refine tst_if ?_))
section
variable {w : World} {p : Program} {loose : List Str} {mean : ExcName → Option Value} {mg mb : Str → Option Value} {f : FI} {d : Nat} {X : Prop}

theorem ge_pos {A B : Nat} {k : Int} (h : 0 ≤ k) : Ge A B k ↔ (B : Int) * 2 ^ k.toNat ≤ A := by
  unfold Ge
  rw [show (-k).toNat = 0 by omega, Nat.pow_zero, Nat.mul_one]
  have : (B : Int) * 2 ^ k.toNat = ((B * 2 ^ k.toNat : Nat) : Int) := by rw [Int.natCast_mul, Int.natCast_pow]; rfl
  rw [this]
  omega
theorem ge_neg {A B : Nat} {k : Int} (h : k < 0) : Ge A B k ↔ (B : Int) ≤ A * 2 ^ (-k).toNat := by
  unfold Ge
  rw [show k.toNat = 0 by omega, Nat.pow_zero, Nat.mul_one]
  have : (A : Int) * 2 ^ (-k).toNat = ((A * 2 ^ (-k).toNat : Nat) : Int) := by rw [Int.natCast_mul, Int.natCast_pow]; rfl
  rw [this]
  omega
def rW (way top : Int) : Nat → Nat → Nat := if way = 2 then rN else rU (!((way == 1) == decide (top > 0)))
theorem pow_big {k : Int} (h : k ≤ 1000) : ((2 : Int) ^ k.toNat).natAbs < BIG := by
  rw [Int.natAbs_pow]
  exact lt_big (k := 1001) (Nat.pow_lt_pow_right (by decide) (by omega)) (by decide)
theorem mul_pow_cast (A : Nat) (k : Nat) : (A : Int) * 2 ^ k = ((A * 2 ^ k : Nat) : Int) := by rw [Int.natCast_mul, Int.natCast_pow]; rfl
local macro_rules | `(tactic| walk_at "call") => `(tactic| (with_reducible refine' Cl.eq fn_law_told ?hk))
theorem fn_law_end {top way : Int} {B P : Nat} (hB : 0 < B) (hP : 1 ≤ P) (hP' : P ≤ 300) (bA : bl top.natAbs ≤ 300) (bB : bl B ≤ 300) (hw : way = 0 ∨ way = 1 ∨ way = 2) :
    Cl (GG w p loose mean mg mb) f (d + 2) (.ref 285) [.int top, .int B, .int P, .int way] (fun v => (top = 0 → v = .tup [.int 0, .int 0, .int 0, .int 0]) ∧ (top ≠ 0 → RQ (rW way top) (sg top) top.natAbs B P v)) X := by
  have habs : (if top < 0 then -top else top) = ((top.natAbs : Nat) : Int) := by split <;> omega
  generalize hA : top.natAbs = A at *
  have gA : (A : Int).natAbs < BIG := lt_big (k := 300) (by rw [Int.natAbs_natCast]; exact bl_le.mp bA) (by decide)
  have gB : (B : Int).natAbs < BIG := lt_big (k := 300) (by rw [Int.natAbs_natCast]; exact bl_le.mp bB) (by decide)
  have lo := fun h => @ge_low A B h hB
  have hi := fun h => @ge_high A B h hB
  refine' fn_enter (defs := []) (dvs := []) nsu_law_end gsu_law_end [Str.ofString "size", Str.ofString "power", Str.ofString "above", Str.ofString "under", Str.ofString "whole", Str.ofString "rest"] 6 ?ho ?hcd ?hbind ?hns ?hlen ?hok .nil ?hco ?hgen ?hcell ?hρ ?hb
  walk_at "enter"
  case hbind => (intro s vals X hl; match vals, hl with | [_, _, _, _], _ => exact BindsTo.of_eq rfl)
  walk_at "st"
  rw [habs]
  walk_at "nx"
  rw [intBits_nat, intBits_nat]
  obtain ⟨D, hD⟩ : ∃ D : Int, (bl A : Int) - bl B = D := ⟨_, rfl⟩
  rw [hD] at lo hi ⊢
  have p1 := @pow_big D (by omega)
  have p2 := @pow_big (-D) (by omega)
  have p1' : ((2 : Int) ^ (D - P + P).toNat).natAbs < BIG := by rw [Int.sub_add_cancel]; exact p1
  have p2' : ((2 : Int) ^ (-(D - P + P)).toNat).natAbs < BIG := by rw [Int.sub_add_cancel]; exact p2
  refine then_next (exs_join (fun ρ => ∃ K : Int, ρ = [some (.int top), some (.int B), some (.int P), some (.int way), some (.int A), some (.int K), none, none, none, none] ∧ (A ≠ 0 → Ge A B (K + P - 1) ∧ ¬ Ge A B (K + P)) ∧ -700 ≤ K ∧ K ≤ 700) ?_ ?_)
  · have e1 : ∀ k : Int, D - P + k = D + k - P := fun k => by omega
    repeat' walk_at "ms"
    · rename_i h0 h1
      refine join_next ⟨D - P + 1, rfl, fun hA0 => ⟨?_, ?_⟩, by omega, by omega⟩
      · rw [show D - (P : Int) + 1 + P - 1 = D by omega]; exact (ge_pos h0).mpr h1
      · rw [show D - (P : Int) + 1 + P = D + 1 by omega]; exact hi (by omega)
    · rename_i h0 h1
      refine join_next ⟨D - P, rfl, fun hA0 => ⟨?_, ?_⟩, by omega, by omega⟩
      · rw [show D - (P : Int) + P - 1 = D - 1 by omega]; exact lo (by omega)
      · rw [show D - (P : Int) + P = D by omega]; exact fun x => absurd ((ge_pos h0).mp x) (by omega)
    · rename_i h0 h1
      refine join_next ⟨D - P + 1, rfl, fun hA0 => ⟨?_, ?_⟩, by omega, by omega⟩
      · rw [show D - (P : Int) + 1 + P - 1 = D by omega]; exact (ge_neg h0).mpr h1
      · rw [show D - (P : Int) + 1 + P = D + 1 by omega]; exact hi (by omega)
    · rename_i h0 h1
      refine join_next ⟨D - P, rfl, fun hA0 => ⟨?_, ?_⟩, by omega, by omega⟩
      · rw [show D - (P : Int) + P - 1 = D - 1 by omega]; exact lo (by omega)
      · rw [show D - (P : Int) + P = D by omega]; exact fun x => absurd ((ge_neg h0).mp x) (by omega)
  rintro _ ⟨K, rfl, hK, k1, k2⟩
  clear p1 p2 p1' p2' lo hi hD
  have p1 := @pow_big K (by omega)
  have p2 := @pow_big (-K) (by omega)
  obtain ⟨U, hU⟩ : ∃ U : Nat, U = A * 2 ^ (-K).toNat := ⟨_, rfl⟩
  obtain ⟨W, hW⟩ : ∃ W : Nat, W = B * 2 ^ K.toNat := ⟨_, rfl⟩
  have W0 : 0 < W := by rw [hW]; exact Nat.mul_pos hB (two_pos _)
  have gW : (W : Int).natAbs < BIG := by
    rw [Int.natAbs_natCast, hW]
    refine lt_big (k := 1000) ?_ (by decide)
    calc B * 2 ^ K.toNat < 2 ^ 300 * 2 ^ K.toNat := Nat.mul_lt_mul_of_pos_right (bl_le.mp bB) (two_pos _)
      _ = 2 ^ (300 + K.toNat) := (Nat.pow_add ..).symm
      _ ≤ 2 ^ 1000 := Nat.pow_le_pow_right (by decide) (by omega)
  refine exs_join (fun ρ => ρ = [some (.int top), some (.int B), some (.int P), some (.int way), some (.int A), some (.int K), some (.int U), some (.int W), none, none]) ?_ ?_
  · repeat' walk_at "ms"
    · rename_i h
      refine join_next ?_
      rw [hU, hW, show K.toNat = 0 by omega, Nat.pow_zero, Nat.mul_one, ← mul_pow_cast]
    · rename_i h
      refine join_next ?_
      rw [hU, hW, show (-K).toNat = 0 by omega, Nat.pow_zero, Nat.mul_one, ← mul_pow_cast]
  rintro _ rfl
  walk_at "st"
  rw [← Int.natCast_ediv, ← Int.natCast_emod]
  obtain ⟨q, hq⟩ : ∃ q : Nat, q = U / W := ⟨_, rfl⟩
  obtain ⟨t, ht⟩ : ∃ t : Nat, t = U % W := ⟨_, rfl⟩
  rw [← hq, ← ht]
  have gt : (t : Int).natAbs < BIG := by
    rw [Int.natAbs_natCast, ht]
    have := Nat.mod_lt U W0
    rw [Int.natAbs_natCast] at gW
    omega
  have g2 : (2 : Int).natAbs < BIG := small_lt_big (by decide)
  have hr : rW way top U W = q + if way = 2 then (if 2 * t > W ∨ (2 * t = W ∧ q % 2 = 1) then 1 else 0) else if t > 0 ∧ (way = 1 ↔ top > 0) then 1 else 0 := by
    unfold rW
    by_cases h2 : way = 2
    · rw [if_pos h2, if_pos h2, hq, ht]; rfl
    · rw [if_neg h2, if_neg h2]
      unfold rU
      by_cases h1 : way = 1 <;> by_cases h3 : top > 0
      · rw [if_neg (by simp [h1, h3]), up_eq W0, hq, ht]
        by_cases h4 : U % W = 0
        · rw [if_pos h4, if_neg (by omega)]
        · rw [if_neg h4, if_pos ⟨by omega, by simp [h1, h3]⟩]
      · rw [if_pos (by simp [h1, h3]), if_neg (by simp [h1, h3]), hq]; rfl
      · rw [if_pos (by simp [h1, h3]), if_neg (by simp [h1, h3]), hq]; rfl
      · rw [if_neg (by simp [h1, h3]), up_eq W0, hq, ht]
        by_cases h4 : U % W = 0
        · rw [if_pos h4, if_neg (by omega)]
        · rw [if_neg h4, if_pos ⟨by omega, by simp [h1, h3]⟩]
  refine then_next (exs_join (fun ρ => ρ = [some (.int top), some (.int B), some (.int P), some (.int way), some (.int A), some (.int K), some (.int U), some (.int W), some (.int (rW way top U W : Nat)), some (.int t)]) ?_ ?_)
  · rw [hr]
    rcases hw with rfl | rfl | rfl <;> (repeat' walk_at "ms")
    all_goals
      refine join_next ?_
      (repeat' split) <;> first | rfl | (exfalso; omega) | (exfalso; simp at *; omega)
  rintro _ rfl
  have hc0 : ∀ i : Int, (i = (rW way top U W : Nat) ∧ 0 ≤ top) ∨ (i = -(rW way top U W : Nat) ∧ top < 0) → top ≠ 0 → RQ (rW way top) (sg top) A B P (canon (sg i) i.natAbs K) := fun i hi h3 => by
    have := rq_ge (r := rW way top) (s := sg top) hP (hK (by omega)).1 (hK (by omega)).2
    rw [← hU, ← hW] at this
    have e : canon (sg i) i.natAbs K = canon (sg top) (rW way top U W) K := by
      by_cases z : rW way top U W = 0
      · rw [z, show i.natAbs = 0 by omega]; rfl
      · rw [show i.natAbs = rW way top U W by omega]
        congr 1
        unfold sg
        rcases hi with ⟨hi, hi'⟩ | ⟨hi, hi'⟩
        · rw [if_neg (by omega), if_neg (by omega)]
        · rw [if_pos (by omega), if_pos (by omega)]
    rw [e]
    exact this
  repeat' walk_at "ms"
  · exact hc0 _ (.inr ⟨rfl, by assumption⟩) (by assumption)
  · rename_i h0
    have A0 : A = 0 := by omega
    have U0 : U = 0 := by rw [hU, A0, Nat.zero_mul]
    have z : rW way top U W = 0 := by
      rw [hr, hq, ht, U0, Nat.zero_div, Nat.zero_mod]
      (repeat' split) <;> omega
    rw [z]
    rfl
  · exact hc0 _ (.inl ⟨rfl, by assumption⟩) (by assumption)
end

end
section
local macro_rules | `(tactic| walk_at "opmore") => `(tactic| first
  | ((with_reducible refine' op_sd ?h1 ?hk ?h2); (case h1 => assumption); (case h2 => (intros; with_unfolding_all rfl)))
  | ((with_reducible refine' op_pair ?h1 ?hk ?h2); (case h1 => assumption); (case h2 => (intros; with_unfolding_all rfl))))
local macro_rules | `(tactic| walk_at "call") => `(tactic| ((with_reducible refine' Cl.eq (fn_trailing ?h1) ?hk); walk_at "s1"))
local macro_rules | `(tactic| walk_at "norm") => `(tactic| (try simp only [bitAnd_m1] at *))
local macro_rules | `(tactic| walk_at "call") => `(tactic| ((with_reducible refine' Cl.eq (fn_u_normalize ?hS ?h1 ?h2 ?h3) ?hk); (case hS => assumption); walk_at "s1"; walk_at "s2"; walk_at "s3"))
local macro_rules | `(tactic| walk_at "call") => `(tactic| ((with_reducible refine' Cl.eq (fn_normalize ?hS ?h1 ?h2 ?h3) ?hk); (case hS => assumption); walk_at "s1"; walk_at "s2"; walk_at "s3"))
local macro_rules | `(tactic| walk_at "call") => `(tactic| (with_reducible refine' Cl.eq fn_from_man_exp0 ?hk))
local macro_rules | `(tactic| walk_at "call") => `(tactic| first
  | ((with_reducible refine' NormOk.call' ?hN ?h1 ?h2 ?hk); (case hN => assumption); walk_at "s1"; walk_at "s2")
  | ((with_reducible refine' NormOk.call ?hN ?h1 ?h2 ?hk); (case hN => assumption); walk_at "s1"; walk_at "s2"))
local macro_rules | `(tactic| walk_at "call") => `(tactic| first | (with_reducible refine' Cl.eq fn_mpf_neg0 ?hk) | ((with_reducible refine' Cl.eq (fn_mpf_neg ?h1) ?hk); walk_at "s1"))
local macro_rules | `(tactic| walk_at "exmore") => `(tactic| ((with_reducible refine' ex_swap2 ?hs ?hk ?h1); (case hs => (intro; kernel_rfl)); (case h1 => (intro; rfl))))
local macro_rules | `(tactic| walk_at "m0") => `(tactic| ((with_reducible show (∃ _ _, V.tup _ = V.tup _ ∧ _)); (with_reducible refine ⟨_, _, rfl, ?_⟩)))
local macro_rules | `(tactic| walk_at "tst") => `(tactic| (with_reducible refine tst_if ?_))
section
variable {w : World} {p : Program} {loose : List Str} {mean : ExcName → Option Value} {mg mb : Str → Option Value} {f : FI} {d : Nat} {X : Prop}

theorem pow10_big {k : Int} (h : k ≤ 200) : ((10 : Int) ^ k.toNat).natAbs < BIG := by
  rw [Int.natAbs_pow]
  refine lt_big (k := 1000) ?_ (by decide)
  calc (Int.natAbs 10) ^ k.toNat ≤ (2 ^ 4) ^ k.toNat := Nat.pow_le_pow_left (by decide) _
    _ = 2 ^ (4 * k.toNat) := (Nat.pow_mul ..).symm
    _ < 2 ^ 1000 := Nat.pow_lt_pow_right (by decide) (by omega)
theorem mul_lt2 {a b : Int} {m n : Nat} (ha : a.natAbs < 2 ^ m) (hb : b.natAbs < 2 ^ n) : (a * b).natAbs < 2 ^ (m + n) := by
  rw [Int.natAbs_mul, Nat.pow_add]
  exact Nat.mul_lt_mul'' ha hb
def scaled (i b m : Int) : Int × Int := if b ≤ m then (i * 10 ^ (m - b).toNat, 1) else (i, 10 ^ (b - m).toNat)
theorem fn_law_scaled {i b m : Int} (hb : -50 ≤ b) (hb' : b ≤ 50) (hm : -50 ≤ m) (hm' : m ≤ 50) (hi : i.natAbs < 2 ^ 1000) :
    Cl (GG w p loose mean mg mb) f (d + 1) (.ref 299) [.int i, .int b, .int m] (fun v => v = .tup [.int (scaled i b m).1, .int (scaled i b m).2]) X := by
  have gi : i.natAbs < BIG := lt_big hi (by decide)
  have p1 := @pow10_big (m - b) (by omega)
  have p2 := @pow10_big (b - m) (by omega)
  unfold scaled
  refine' fn_enter (defs := []) (dvs := []) nsu_law_scaled gsu_law_scaled [] 0 ?ho ?hcd ?hbind ?hns ?hlen ?hok .nil ?hco ?hgen ?hcell ?hρ ?hb
  walk_at "enter"
  case hbind => (intro s vals X hl; match vals, hl with | [_, _, _], _ => exact BindsTo.of_eq rfl)
  repeat' walk_at "ms"
  · rename_i h
    rw [if_pos (by simpa using h)]
  · rename_i h
    rw [if_neg (by simpa using h)]
def valued (s : Int) (M : Nat) (e : Int) : Int × Int := if 0 ≤ e then (sgv s M * 2 ^ e.toNat, 1) else (sgv s M, 2 ^ (-e).toNat)
theorem fn_law_valued {v : V} {s e : Int} {M : Nat} (h : Mpf v s M e) (he : -1000 ≤ e) (he' : e ≤ 1000) :
    Cl (GG w p loose mean mg mb) f (d + 1) (.ref 306) [v] (fun v => v = .tup [.int (valued s M e).1, .int (valued s M e).2]) X := by
  obtain ⟨rfl, hs, hm, hb⟩ := h
  have gM : (M : Int).natAbs < BIG := lt_big (k := 1000) (by rw [Int.natAbs_natCast]; exact bl_le.mp hb) (by decide)
  have gM' : (-(M : Int)).natAbs < BIG := by rw [Int.natAbs_neg]; exact gM
  have p1 := @pow_big e (by omega)
  have p2 := @pow_big (-e) (by omega)
  unfold valued sgv
  refine' fn_enter (defs := []) (dvs := []) nsu_law_valued gsu_law_valued [Str.ofString "side", Str.ofString "size", Str.ofString "power", Str.ofString "bits", Str.ofString "whole"] 5 ?ho ?hcd ?hbind ?hns ?hlen ?hok .nil ?hco ?hgen ?hcell ?hρ ?hb
  walk_at "enter"
  case hbind => (intro s vals X hl; match vals, hl with | [_], _ => exact BindsTo.of_eq rfl)
  rcases hs with rfl | rfl <;> (repeat' walk_at "ms")
  all_goals (first | (rename_i h; rw [if_pos (by omega)]; rfl) | (rename_i h; rw [if_neg (by omega)]; rfl))
local macro_rules | `(tactic| walk_at "call") => `(tactic| ((with_reducible refine' Cl.eq (fn_law_valued ?h1 ?h2 ?h3) ?hk); walk_at "s1"; walk_at "s2"; walk_at "s3"))
/-- gap and bound -/
def gapI (top below o t : Int) (lo : Bool) : Int := (top * t - o * below) * (if lo then 1 else -1)
theorem fn_law_is_near {v : V} {s e top below T0 T1 most : Int} {M : Nat} {lo : Bool} (h : Mpf v s M e) (he : -1000 ≤ e) (he' : e ≤ 1000) (hm : 0 ≤ most) (hm' : most ≤ 100)
    (g1 : top.natAbs < 2 ^ 400) (g2 : below.natAbs < 2 ^ 400) (g3 : T0.natAbs < 2 ^ 400) (g4 : T1.natAbs < 2 ^ 400) (g5 : (valued s M e).1.natAbs < 2 ^ 1100) (g6 : (valued s M e).2.natAbs < 2 ^ 1100)
    (hg : 0 ≤ gapI top below (valued s M e).1 (valued s M e).2 lo) (hn : gapI top below (valued s M e).1 (valued s M e).2 lo * T1 * 2 ^ most.toNat ≤ 4 * T0 * below * (valued s M e).2) :
    Cl (GG w p loose mean mg mb) f (d + 2) (.ref 313) [v, .int top, .int below, .tup [.int T0, .int T1], .int most, .bool lo] (fun v => v = .bool true) X := by
  obtain ⟨o, ho⟩ : ∃ o, (valued s M e).1 = o := ⟨_, rfl⟩
  obtain ⟨t, ht⟩ : ∃ t, (valued s M e).2 = t := ⟨_, rfl⟩
  rw [ho] at g5 hg hn
  rw [ht] at g6 hg hn
  have q1 : top.natAbs < BIG := lt_big g1 (by decide)
  have q2 : below.natAbs < BIG := lt_big g2 (by decide)
  have q3 : T0.natAbs < BIG := lt_big g3 (by decide)
  have q4 : T1.natAbs < BIG := lt_big g4 (by decide)
  have q5 : o.natAbs < BIG := lt_big g5 (by decide)
  have q6 : t.natAbs < BIG := lt_big g6 (by decide)
  have r1 := mul_lt2 g1 g6
  have r2 := mul_lt2 g5 g2
  have r3 : (top * t - o * below).natAbs < 2 ^ 1501 := by rw [Nat.pow_succ]; omega
  have r3' : (top * t - o * below).natAbs < BIG := lt_big r3 (by decide)
  have r4 : (gapI top below o t lo).natAbs < 2 ^ 1502 := by
    unfold gapI
    rw [Nat.pow_succ]
    cases lo <;> simp <;> omega
  have r4' : (gapI top below o t lo).natAbs < BIG := lt_big r4 (by decide)
  have r5 := lt_big (mul_lt2 r4 g4) (by decide)
  have r6 := mul_lt2 (a := 4) (m := 3) (by decide) g3
  have r6' := lt_big r6 (by decide)
  have r7 := lt_big (mul_lt2 r6 g2) (by decide)
  have r8 : ((2 : Int) ^ most.toNat).natAbs < BIG := pow_big (by omega)
  refine' fn_enter (defs := []) (dvs := []) nsu_law_is_near gsu_law_is_near [Str.ofString "one", Str.ofString "two", Str.ofString "gap"] 3 ?ho ?hcd ?hbind ?hns ?hlen ?hok .nil ?hco ?hgen ?hcell ?hρ ?hb
  walk_at "enter"
  case hbind => (intro s vals X hl; match vals, hl with | [_, _, _, _, _, _], _ => exact BindsTo.of_eq rfl)
  walk_at "st"
  rw [ho, ht]
  have gap1 : gapI top below o t true = (top * t - o * below) * 1 := rfl
  have gap2 : gapI top below o t false = (top * t - o * below) * -1 := rfl
  have s1 : (1 : Int).natAbs < BIG := small_lt_big (by decide)
  have s4 : (4 : Int).natAbs < BIG := small_lt_big (by decide)
  cases lo
  all_goals
    walk_at "nx"
    first | rw [← gap1] | rw [← gap2]
    refine then_next (exs_cons ?_)
    repeat' walk_at "m1"
    all_goals (rw [decide_eq_true hn])
end

end
section
local macro_rules | `(tactic| walk_at "exmore") => `(tactic| ((with_reducible refine' ex_swap2 ?hs ?hk ?h1); (case hs => (intro; kernel_rfl)); (case h1 => (intro; rfl))))
local macro_rules | `(tactic| walk_at "m0") => `(tactic| ((with_reducible show (∃ _ _, V.tup _ = V.tup _ ∧ _)); (with_reducible refine ⟨_, _, rfl, ?_⟩)))
local macro_rules | `(tactic| walk_at "tst") => `(tactic| (with_reducible refine tst_if ?_))
local macro_rules | `(tactic| walk_at "s4") => `(tactic| (first | (case h4 => walk_at "side") | skip))
local macro_rules | `(tactic| walk_at "side") => `(tactic| first | (with_reducible assumption) | (exact Nat.le_of_ble_eq_true rfl) | omega | (simp only [Str.length_append]; omega) | decide | (decide +kernel))
local macro_rules | `(tactic| walk_at "asm") => `(tactic| first | (with_reducible assumption) | (decide +kernel))
local macro_rules | `(tactic| walk_at "evmore") => `(tactic| first
  | ((with_reducible refine' ev_replace ?hk ?h1 ?h2 ?h3 ?h4 ?h5); (case h1 => (decide +kernel)); (case h2 => (decide +kernel)); (case h3 => (intro; rfl)); (case h4 => (intro; rfl)); (case h5 => rfl))
  | ((with_reducible show Ev _ _ _ (Expr.Call (Expr.Attribute _ (Str.ofString "lower") _) _ _ _) _ _ _); (refine' ev_meth0 PySem.F.plainAttrs_str PySem.F.slot_str_lower PySem.F.type_str_lower ?hk ?h1 ?h2); (case h1 => (intro; rfl)); (case h2 => rfl))
  | ((with_reducible show Ev _ _ _ (Expr.Call (Expr.Attribute _ (Str.ofString "strip") _) _ _ _) _ _ _); (refine' ev_meth0 PySem.F.plainAttrs_str PySem.F.slot_str_strip PySem.F.type_str_strip ?hk ?h1 ?h2); (case h1 => (intro; rfl)); (case h2 => rfl))
  | ((with_reducible show Ev _ _ _ (Expr.Call (Expr.Attribute _ (Str.ofString "rstrip") _) _ _ _) _ _ _); (refine' ev_meth1 PySem.F.plainAttrs_str PySem.F.slot_str_rstrip PySem.F.type_str_rstrip ?hk ?h1 ?h2 ?h3 ?h4 ?h5); (case h1 => (intro; rfl)); (case h2 => (intro; rfl)); (case h3 => rfl); (case h4 => (intro; rfl)); (case h5 => (intro; rfl)))
  | ((with_reducible show Ev _ _ _ (Expr.Call (Expr.Attribute _ (Str.ofString "split") _) _ _ _) _ _ _); (refine' ev_meth1 PySem.F.plainAttrs_str PySem.F.slot_str_split PySem.F.type_str_split ?hk ?h1 ?h2 ?h3 ?h4 ?h5); (case h1 => (intro; rfl)); (case h2 => (intro; rfl)); (case h3 => rfl); (case h4 => (intro; rfl)); (case h5 => (intro; rfl)))
  | ((with_reducible show Ev _ _ _ (Expr.Call (Expr.Attribute _ (Str.ofString "startswith") _) _ _ _) _ _ _); (refine' ev_meth1 PySem.F.plainAttrs_str PySem.F.slot_str_startswith PySem.F.type_str_startswith ?hk ?h1 ?h2 ?h3 ?h4 ?h5); (case h1 => (intro; rfl)); (case h2 => (intro; rfl)); (case h3 => rfl); (case h4 => (intro; rfl)); (case h5 => (intro; rfl))))
local macro_rules | `(tactic| walk_at "m0") => `(tactic| ((with_reducible show (∃ _ _, V.str _ = V.str _ ∧ _)); (with_reducible refine' ⟨_, _, rfl, ?h1, ?h2, ?hk⟩); (case h1 => walk_at "asm"); (case h2 => walk_at "side")))
local macro_rules | `(tactic| walk_at "cl") => `(tactic| first
  | (with_reducible refine cl_bl10 ?_)
  | ((with_reducible refine' cl_lower ?h1 ?h2 ?hk); (case h1 => walk_at "asm"); walk_at "s2")
  | ((with_reducible refine' cl_strip ?h1 ?h2 ?hk); (case h1 => walk_at "asm"); walk_at "s2")
  | ((with_reducible refine' cl_rstripC ?h1 ?h2 ?hk); (case h1 => walk_at "asm"); walk_at "s2")
  | ((with_reducible refine' cl_split_1 ?h1 ?h2 ?h3 ?hk); (case h1 => (with_reducible assumption)); (case h2 => (decide +kernel)); walk_at "s3")
  | ((with_reducible refine' cl_split_2 ?h1 ?h2 ?h3 ?hk); (case h1 => (with_reducible assumption)); (case h2 => (decide +kernel)); walk_at "s3")
  | ((with_reducible refine' cl_split_3 ?h1 ?h2 ?h3 ?hk); (case h1 => (with_reducible assumption)); (case h2 => (decide +kernel)); walk_at "s3")
  | ((with_reducible refine' cl_lenS ?h1 ?hk); walk_at "s1")
  | ((with_reducible refine' cl_lenL ?hk ?h1); walk_at "s1")
  | ((with_reducible refine' cl_int_text ?h1 ?h2 ?hk); (case h1 => (with_reducible assumption)); walk_at "s2")
  | ((with_reducible refine' cl_int_text2 ?h1 ?h2 ?hk); (case h1 => (with_reducible assumption)); walk_at "s2")
  | ((with_reducible refine' cl_int_no1 ?h1 ?h2); (case h1 => (with_reducible assumption)); (case h2 => (with_reducible assumption)))
  | ((with_reducible refine' cl_int_no2 ?h1 ?h2); (case h1 => (with_reducible assumption)); (case h2 => (with_reducible assumption)))
  | ((with_reducible refine' cl_pow ?h1 ?h2 ?h3 ?hk); (case h1 => decide); (case h2 => decide); (case h3 => exact small_lt_big (by decide))))
local macro_rules | `(tactic| walk_at "opmore") => `(tactic| first
  | ((with_reducible refine' op_addS ?h1 ?h2 ?hk); walk_at "s1"; walk_at "s2")
  | ((with_reducible refine' op_inS ?h1 ?hk); (case h1 => walk_at "asm"))
  | ((with_reducible refine' op_notInS ?h1 ?hk); (case h1 => walk_at "asm"))
  | ((with_reducible refine' sub_lst ?h3 ?h1 ?h2 ?hk ?h5); (case h3 => rfl); (case h1 => decide); (case h2 => decide); (case h5 => (intros; with_unfolding_all rfl))))
local macro_rules | `(tactic| walk_at "prune") => `(tactic| (try first | (exfalso; omega) | (exfalso; with_reducible assumption) | (with_reducible contradiction)))
section
variable {w : World} {p : Program} {loose : List Str} {mean : ExcName → Option Value} {mg mb : Str → Option Value} {f : FI} {d : Nat} {X : Prop}

inductive SplE (x : Str) : Str → Int → Prop
  | one : Txt.split x (Str.ofString "e") = [x] → SplE x x 0
  | two {a es m} : Txt.split x (Str.ofString "e") = [a, es] → a.length ≤ 500 → es.length ≤ 500 → PySem.intText? es = some m → SplE x a m
inductive SplD (x : Str) : Str → Int → Prop
  | one : Txt.split x (Str.ofString ".") = [x] → SplD x x 0
  | two {a b b'} : Txt.split x (Str.ofString ".") = [a, b] → a.length ≤ 300 → b.length ≤ 300 → b'.length ≤ 300 → Txt.rstripChars b (Str.ofString "0") = b' → ¬ a = Str.ofString "" → SplD x (a ++ b') b'.length
  | three {a b c} : Txt.split x (Str.ofString ".") = [a, b, c] → SplD x x 0
theorem fn_str_to_man_exp {x x0 x1 : Str} {m k n : Int} (h1 : Txt.lower x = x) (h2 : Txt.rstripChars x (Str.ofString "l") = x) (h3 : Txt.replace x (Str.ofString "_") (Str.ofString "") = x) (lx : x.length ≤ 500)
    (hE : SplE x x0 m) (hD : SplD x0 x1 k) (hi : PySem.intText? x1 = some n) :
    Cl (GG w p loose mean mg mb) f (d + 1) (.ref 192) [.str x, .int 10] (fun v => v = .tup [.int n, .int (m - k)]) X := by
  refine' fn_enter (defs := []) (dvs := []) nsstr_to_man_exp gsstr_to_man_exp [Str.ofString "sep", Str.ofString "e2", Str.ofString "parts", Str.ofString "exp", Str.ofString "a", Str.ofString "b"] 6 ?ho ?hcd ?hbind ?hns ?hlen ?hok .nil ?hco ?hgen ?hcell ?hρ ?hb
  walk_at "enter"
  case hbind => (intro s vals X hl; match vals, hl with | [_, _], _ => exact binds_K X rfl (by (show List.lookup _ (hd.heap_39 _) = _); k_is) rfl rfl rfl)
  cases hE <;> cases hD <;> (repeat' walk_at "ms")
  all_goals (first | rfl | (congr 1; done) | (congr 1; simp; done))
theorem no_str_to_man_exp_e {x a es : Str} {Φ : V → Prop} (h1 : Txt.lower x = x) (h2 : Txt.rstripChars x (Str.ofString "l") = x) (h3 : Txt.replace x (Str.ofString "_") (Str.ofString "") = x) (lx : x.length ≤ 500)
    (hE : Txt.split x (Str.ofString "e") = [a, es]) (hn : NoInt es) (hX : X) :
    Cl (GG w p loose mean mg mb) f (d + 1) (.ref 192) [.str x, .int 10] Φ X := by
  refine' fn_enter (defs := []) (dvs := []) nsstr_to_man_exp gsstr_to_man_exp [Str.ofString "sep", Str.ofString "e2", Str.ofString "parts", Str.ofString "exp", Str.ofString "a", Str.ofString "b"] 6 ?ho ?hcd ?hbind ?hns ?hlen ?hok .nil ?hco ?hgen ?hcell ?hρ ?hb
  walk_at "enter"
  case hbind => (intro s vals X hl; match vals, hl with | [_, _], _ => exact binds_K X rfl (by (show List.lookup _ (hd.heap_39 _) = _); k_is) rfl rfl rfl)
  repeat' walk_at "ms"
theorem no_str_to_man_exp {x x1 : Str} {k : Int} {Φ : V → Prop} (h1 : Txt.lower x = x) (h2 : Txt.rstripChars x (Str.ofString "l") = x) (h3 : Txt.replace x (Str.ofString "_") (Str.ofString "") = x) (lx : x.length ≤ 500)
    (hE : Txt.split x (Str.ofString "e") = [x]) (hD : SplD x x1 k) (hn : NoInt x1) (hX : X) :
    Cl (GG w p loose mean mg mb) f (d + 1) (.ref 192) [.str x, .int 10] Φ X := by
  refine' fn_enter (defs := []) (dvs := []) nsstr_to_man_exp gsstr_to_man_exp [Str.ofString "sep", Str.ofString "e2", Str.ofString "parts", Str.ofString "exp", Str.ofString "a", Str.ofString "b"] 6 ?ho ?hcd ?hbind ?hns ?hlen ?hok .nil ?hco ?hgen ?hcell ?hρ ?hb
  walk_at "enter"
  case hbind => (intro s vals X hl; match vals, hl with | [_, _], _ => exact binds_K X rfl (by (show List.lookup _ (hd.heap_39 _) = _); k_is) rfl rfl rfl)
  cases hD <;> (repeat' walk_at "ms")
end

end
section
local macro_rules | `(tactic| walk_at "exmore") => `(tactic| ((with_reducible refine' ex_swap2 ?hs ?hk ?h1); (case hs => (intro; kernel_rfl)); (case h1 => (intro; rfl))))
local macro_rules | `(tactic| walk_at "m0") => `(tactic| ((with_reducible show (∃ _ _, V.tup _ = V.tup _ ∧ _)); (with_reducible refine ⟨_, _, rfl, ?_⟩)))
local macro_rules | `(tactic| walk_at "tst") => `(tactic| (with_reducible refine tst_if ?_))
local macro_rules | `(tactic| walk_at "s4") => `(tactic| (first | (case h4 => walk_at "side") | skip))
local macro_rules | `(tactic| walk_at "side") => `(tactic| first | (with_reducible assumption) | (exact Nat.le_of_ble_eq_true rfl) | omega | (simp only [Str.length_append]; omega) | decide | (decide +kernel))
local macro_rules | `(tactic| walk_at "asm") => `(tactic| first | (with_reducible assumption) | (decide +kernel))
local macro_rules | `(tactic| walk_at "evmore") => `(tactic| first
  | ((with_reducible refine' ev_replace ?hk ?h1 ?h2 ?h3 ?h4 ?h5); (case h1 => (decide +kernel)); (case h2 => (decide +kernel)); (case h3 => (intro; rfl)); (case h4 => (intro; rfl)); (case h5 => rfl))
  | ((with_reducible show Ev _ _ _ (Expr.Call (Expr.Attribute _ (Str.ofString "lower") _) _ _ _) _ _ _); (refine' ev_meth0 PySem.F.plainAttrs_str PySem.F.slot_str_lower PySem.F.type_str_lower ?hk ?h1 ?h2); (case h1 => (intro; rfl)); (case h2 => rfl))
  | ((with_reducible show Ev _ _ _ (Expr.Call (Expr.Attribute _ (Str.ofString "strip") _) _ _ _) _ _ _); (refine' ev_meth0 PySem.F.plainAttrs_str PySem.F.slot_str_strip PySem.F.type_str_strip ?hk ?h1 ?h2); (case h1 => (intro; rfl)); (case h2 => rfl))
  | ((with_reducible show Ev _ _ _ (Expr.Call (Expr.Attribute _ (Str.ofString "rstrip") _) _ _ _) _ _ _); (refine' ev_meth1 PySem.F.plainAttrs_str PySem.F.slot_str_rstrip PySem.F.type_str_rstrip ?hk ?h1 ?h2 ?h3 ?h4 ?h5); (case h1 => (intro; rfl)); (case h2 => (intro; rfl)); (case h3 => rfl); (case h4 => (intro; rfl)); (case h5 => (intro; rfl)))
  | ((with_reducible show Ev _ _ _ (Expr.Call (Expr.Attribute _ (Str.ofString "split") _) _ _ _) _ _ _); (refine' ev_meth1 PySem.F.plainAttrs_str PySem.F.slot_str_split PySem.F.type_str_split ?hk ?h1 ?h2 ?h3 ?h4 ?h5); (case h1 => (intro; rfl)); (case h2 => (intro; rfl)); (case h3 => rfl); (case h4 => (intro; rfl)); (case h5 => (intro; rfl)))
  | ((with_reducible show Ev _ _ _ (Expr.Call (Expr.Attribute _ (Str.ofString "startswith") _) _ _ _) _ _ _); (refine' ev_meth1 PySem.F.plainAttrs_str PySem.F.slot_str_startswith PySem.F.type_str_startswith ?hk ?h1 ?h2 ?h3 ?h4 ?h5); (case h1 => (intro; rfl)); (case h2 => (intro; rfl)); (case h3 => rfl); (case h4 => (intro; rfl)); (case h5 => (intro; rfl))))
local macro_rules | `(tactic| walk_at "m0") => `(tactic| ((with_reducible show (∃ _ _, V.str _ = V.str _ ∧ _)); (with_reducible refine' ⟨_, _, rfl, ?h1, ?h2, ?hk⟩); (case h1 => walk_at "asm"); (case h2 => walk_at "side")))
local macro_rules | `(tactic| walk_at "cl") => `(tactic| first
  | (with_reducible refine cl_bl10 ?_)
  | ((with_reducible refine' cl_lower ?h1 ?h2 ?hk); (case h1 => walk_at "asm"); walk_at "s2")
  | ((with_reducible refine' cl_strip ?h1 ?h2 ?hk); (case h1 => walk_at "asm"); walk_at "s2")
  | ((with_reducible refine' cl_rstripC ?h1 ?h2 ?hk); (case h1 => walk_at "asm"); walk_at "s2")
  | ((with_reducible refine' cl_split_1 ?h1 ?h2 ?h3 ?hk); (case h1 => (with_reducible assumption)); (case h2 => (decide +kernel)); walk_at "s3")
  | ((with_reducible refine' cl_split_2 ?h1 ?h2 ?h3 ?hk); (case h1 => (with_reducible assumption)); (case h2 => (decide +kernel)); walk_at "s3")
  | ((with_reducible refine' cl_split_3 ?h1 ?h2 ?h3 ?hk); (case h1 => (with_reducible assumption)); (case h2 => (decide +kernel)); walk_at "s3")
  | ((with_reducible refine' cl_lenS ?h1 ?hk); walk_at "s1")
  | ((with_reducible refine' cl_lenL ?hk ?h1); walk_at "s1")
  | ((with_reducible refine' cl_int_text ?h1 ?h2 ?hk); (case h1 => (with_reducible assumption)); walk_at "s2")
  | ((with_reducible refine' cl_int_text2 ?h1 ?h2 ?hk); (case h1 => (with_reducible assumption)); walk_at "s2")
  | ((with_reducible refine' cl_int_no1 ?h1 ?h2); (case h1 => (with_reducible assumption)); (case h2 => (with_reducible assumption)))
  | ((with_reducible refine' cl_int_no2 ?h1 ?h2); (case h1 => (with_reducible assumption)); (case h2 => (with_reducible assumption)))
  | ((with_reducible refine' cl_pow ?h1 ?h2 ?h3 ?hk); (case h1 => decide); (case h2 => decide); (case h3 => exact small_lt_big (by decide))))
local macro_rules | `(tactic| walk_at "opmore") => `(tactic| first
  | ((with_reducible refine' op_addS ?h1 ?h2 ?hk); walk_at "s1"; walk_at "s2")
  | ((with_reducible refine' op_inS ?h1 ?hk); (case h1 => walk_at "asm"))
  | ((with_reducible refine' op_notInS ?h1 ?hk); (case h1 => walk_at "asm"))
  | ((with_reducible refine' sub_lst ?h3 ?h1 ?h2 ?hk ?h5); (case h3 => rfl); (case h1 => decide); (case h2 => decide); (case h5 => (intros; with_unfolding_all rfl))))
local macro_rules | `(tactic| walk_at "prune") => `(tactic| (try first | (exfalso; omega) | (exfalso; with_reducible assumption) | (with_reducible contradiction)))
section
variable {w : World} {p : Program} {loose : List Str} {mean : ExcName → Option Value} {mg mb : Str → Option Value} {f : FI} {d : Nat} {X : Prop}

def spKeys : List Str := [Str.ofString "inf", Str.ofString "+inf", Str.ofString "-inf", Str.ofString "nan", Str.ofString "oo", Str.ofString "+oo", Str.ofString "-oo"]
theorem sp_dict (P : Params) {x : Str} (h : x ∉ spKeys) : ∃ es n, List.lookup 193 (hd.heap_39 P) = some ⟨.type "dict", none, .dict es n, #[]⟩ ∧ KeysLit P es.toList ∧ findBy Value.isStrOf es x = none := by
  refine ⟨_, _, by k_is, by exact ⟨⟨_, _, rfl, rfl⟩, ⟨_, _, rfl, rfl⟩, ⟨_, _, rfl, rfl⟩, ⟨_, _, rfl, rfl⟩, ⟨_, _, rfl, rfl⟩, ⟨_, _, rfl, rfl⟩, ⟨_, _, rfl, rfl⟩, trivial⟩, ?_⟩
  simp only [spKeys, List.mem_cons, List.not_mem_nil, or_false, not_or] at h
  obtain ⟨h1, h2, h3, h4, h5, h6, h7⟩ := h
  unfold findBy
  simp only [List.find?_toArray, List.find?, Value.isStrOf, Option.map_eq_none_iff]
  rw [beq_eq_false_iff_ne.mpr (Ne.symm h1), beq_eq_false_iff_ne.mpr (Ne.symm h2), beq_eq_false_iff_ne.mpr (Ne.symm h3), beq_eq_false_iff_ne.mpr (Ne.symm h4), beq_eq_false_iff_ne.mpr (Ne.symm h5), beq_eq_false_iff_ne.mpr (Ne.symm h6), beq_eq_false_iff_ne.mpr (Ne.symm h7)]
theorem op_special {x : Str} {Φ : V → Prop} (hx : x ∉ spKeys) (h : Φ (.bool false)) : Op2 (compareOp .In) (GG w p loose mean mg mb) f d (.str x) (.obj (.ref 193)) Φ X := by
  obtain ⟨es, n, h1, h2, h3⟩ := sp_dict w.params hx
  exact op_inDictK (g := GG w p loose mean mg mb) h1 h2 (fun _ => .inr trivial) h3 (by decide +kernel) h
theorem cl_sw4 {x a b c e : Str} {Φ : V → Prop} (h1 : Txt.startswith x a = false) (h2 : Txt.startswith x b = false) (h3 : Txt.startswith x c = false) (h4 : Txt.startswith x e = false) (h : Φ (.bool false)) :
    Cl (GG w p loose mean mg mb) f d (.builtin "str.startswith") [.str x, .tup [.str a, .str b, .str c, .str e]] Φ X := cl_startswith (ys := [a, b, c, e]) (by simp [h1, h2, h3, h4]) h
theorem cl_sw2 {x a b : Str} {Φ : V → Prop} (h1 : Txt.startswith x a = false) (h2 : Txt.startswith x b = false) (h : Φ (.bool false)) :
    Cl (GG w p loose mean mg mb) f d (.builtin "str.startswith") [.str x, .tup [.str a, .str b]] Φ X := cl_startswith (ys := [a, b]) (by simp [h1, h2]) h
theorem fn_from_int3 {rnd : Str} {d0 d1 i : Int} {prec : Nat} (S : Sd (hd.heap_39 w.params) rnd d0 d1) (h0 : d0 = 0 ∨ d0 = 1) (h1 : d1 = 0 ∨ d1 = 1) (hp : 1 ≤ prec) :
    Cl (GG w p loose mean mg mb) f (d + 5) (.ref 62) [.int i, .int prec, .str rnd] (fun v => v = norm (dnOf d0 d1 (sg i)) (sg i) i.natAbs 0 prec) X := by
  unfold dnOf sg
  by_cases hi : i < 0
  · obtain ⟨m, rfl⟩ : ∃ m : Nat, i = -(m : Int) := ⟨i.natAbs, by omega⟩
    rw [if_pos hi, Int.natAbs_neg, Int.natAbs_natCast]
    exact fn_from_intn S hp (by omega) (by rcases h1 with rfl | rfl <;> rfl)
  · obtain ⟨m, rfl⟩ : ∃ m : Nat, i = (m : Int) := ⟨i.natAbs, by omega⟩
    rw [if_neg hi, Int.natAbs_natCast]
    exact fn_from_intp S hp (by rcases h0 with rfl | rfl <;> rfl)
/-- what the steps ahead of the reading ask of a text -/
structure FS (x : Str) : Prop where
  h1 : Txt.lower x = x
  h2 : Txt.strip x = x
  h3 : x ∉ spKeys
  s1 : Txt.startswith x (Str.ofString "0b") = false
  s2 : Txt.startswith x (Str.ofString "-0b") = false
  s3 : Txt.startswith x (Str.ofString "0B") = false
  s4 : Txt.startswith x (Str.ofString "-0B") = false
  s5 : Txt.startswith x (Str.ofString "0x") = false
  s6 : Txt.startswith x (Str.ofString "-0x") = false
  s7 : Txt.startswith x (Str.ofString "0X") = false
  s8 : Txt.startswith x (Str.ofString "-0X") = false
  s9 : Txt.startswith x (Str.ofString "0o") = false
  s10 : Txt.startswith x (Str.ofString "-0o") = false
  c1 : Txt.contains x (Str.ofString "/") = false
  m2 : Txt.rstripChars x (Str.ofString "l") = x
  m3 : Txt.replace x (Str.ofString "_") (Str.ofString "") = x
  lx : x.length ≤ 500
def fsV (d0 d1 n ex : Int) (prec : Nat) : V :=
  if 0 ≤ ex then norm (dnOf d0 d1 (sg (n * 10 ^ ex.toNat))) (sg (n * 10 ^ ex.toNat)) (n * 10 ^ ex.toNat).natAbs 0 prec
  else if n = 0 then .tup [.int 0, .int 0, .int 0, .int 0] else divV (dnOf d0 d1 (sg n)) (sg n) (odd n.natAbs) (odd (10 ^ (-ex).toNat)) (tz n.natAbs - tz (10 ^ (-ex).toNat)) prec
theorem ten_bl {k : Nat} (h : k ≤ 100) : bl (10 ^ k) ≤ 401 := by
  refine bl_le.mpr ?_
  calc 10 ^ k ≤ (2 ^ 4) ^ k := Nat.pow_le_pow_left (by decide) _
    _ = 2 ^ (4 * k) := (Nat.pow_mul ..).symm
    _ < 2 ^ 401 := Nat.pow_lt_pow_right (by decide) (by omega)
theorem ten_big {k : Int} (h : k ≤ 200) : ((10 : Int) ^ k.toNat).natAbs < BIG := by
  rw [Int.natAbs_pow]
  refine lt_big (k := 1000) ?_ (by decide)
  calc (Int.natAbs 10) ^ k.toNat ≤ (2 ^ 4) ^ k.toNat := Nat.pow_le_pow_left (by decide) _
    _ = 2 ^ (4 * k.toNat) := (Nat.pow_mul ..).symm
    _ < 2 ^ 1000 := Nat.pow_lt_pow_right (by decide) (by omega)
theorem fn_ratC {rnd : Str} {d0 d1 i ex : Int} {prec : Nat} (S : Sd (hd.heap_39 w.params) rnd d0 d1) (h0 : d0 = 0 ∨ d0 = 1) (h1 : d1 = 0 ∨ d1 = 1) (hp : 1 ≤ prec) (hp' : prec ≤ 1000) (he : ex ≤ 100) (bi : bl i.natAbs ≤ 1000) :
    Cl (GG w p loose mean mg mb) f (d + 5) (.ref 70) [.int i, .int (10 ^ ex.toNat), .int prec, .str rnd] (fun v => v = if i = 0 then .tup [.int 0, .int 0, .int 0, .int 0] else divV (dnOf d0 d1 (sg i)) (sg i) (odd i.natAbs) (odd (10 ^ ex.toNat)) (tz i.natAbs - tz (10 ^ ex.toNat)) prec) X := by
  have e : ((10 : Int) ^ ex.toNat) = ((10 ^ ex.toNat : Nat) : Int) := by rw [Int.natCast_pow]; rfl
  rw [e]
  exact fn_from_rational S h0 h1 hp hp' (Nat.pow_pos (by decide)) (by have := ten_bl (k := ex.toNat) (by omega); omega) bi
local macro_rules | `(tactic| walk_at "prune") => `(tactic| (try first | (exfalso; omega) | (exfalso; with_reducible assumption) | (with_reducible contradiction) | (exfalso; split at hc <;> omega)))
local macro_rules | `(tactic| walk_at "opmore") => `(tactic| first
  | ((with_reducible refine' op_special ?h1 ?hk); (case h1 => (with_reducible assumption))))
local macro_rules | `(tactic| walk_at "cl") => `(tactic| first
  | ((with_reducible refine' cl_sw4 ?h1 ?h2 ?h3 ?h4 ?hk); (case h1 => walk_at "asm"); (case h2 => walk_at "asm"); (case h3 => walk_at "asm"); (case h4 => walk_at "asm"))
  | ((with_reducible refine' cl_sw2 ?h1 ?h2 ?hk); (case h1 => walk_at "asm"); (case h2 => walk_at "asm")))
local macro_rules | `(tactic| walk_at "call") => `(tactic| first
  | ((with_reducible refine' Cl.eq (fn_str_to_man_exp ?h1 ?h2 ?h3 ?h4 ?h5 ?h6 ?h7) ?hk); (case h1 => (with_reducible assumption)); (case h2 => (with_reducible assumption)); (case h3 => (with_reducible assumption)); (case h4 => (with_reducible assumption)); (case h5 => (with_reducible assumption)); (case h6 => (with_reducible assumption)); (case h7 => (with_reducible assumption)))
  | ((with_reducible refine' Cl.eq (fn_from_int3 ?h1 ?h2 ?h3 ?h4) ?hk); (case h1 => (with_reducible assumption)); (case h2 => (with_reducible assumption)); (case h3 => (with_reducible assumption)); (case h4 => (with_reducible assumption)))
  | ((with_reducible refine' Cl.eq (fn_ratC ?h1 ?h2 ?h3 ?h4 ?h5 ?h6 ?h7) ?hk); (case h1 => (with_reducible assumption)); (case h2 => (with_reducible assumption)); (case h3 => (with_reducible assumption)); (case h4 => (with_reducible assumption)); (case h5 => (with_reducible assumption)); (case h6 => omega); (case h7 => (with_reducible assumption))))
local macro_rules | `(tactic| walk_at "call") => `(tactic| ((with_reducible show Cl _ _ _ (Value.ref 192) _ _ _); (apply_assumption -exfalso)))
theorem fn_from_str {rnd x x0 x1 : Str} {d0 d1 m k n : Int} {prec : Nat} (S : Sd (hd.heap_39 w.params) rnd d0 d1) (h0 : d0 = 0 ∨ d0 = 1) (h1 : d1 = 0 ∨ d1 = 1) (hp : 1 ≤ prec) (hp' : prec ≤ 1000)
    (H : FS x) (hE : SplE x x0 m) (hD : SplD x0 x1 k) (hi : PySem.intText? x1 = some n) (he : -50 ≤ m - k) (he' : m - k ≤ 50) (hb : bl n.natAbs ≤ 100) :
    Cl (GG w p loose mean mg mb) f (d + 6) (.ref 201) [.str x, .int prec, .str rnd] (fun v => v = fsV d0 d1 n (m - k) prec) X := by
  obtain ⟨t1, t2, t3, s1, s2, s3, s4, s5, s6, s7, s8, s9, s10, c1, m2, m3, lx⟩ := H
  have hb' : bl n.natAbs ≤ 1000 := by omega
  have gn : n.natAbs < BIG := lt_big (bl_le.mp hb) (by decide)
  have g10 := @ten_big (m - k) (by omega)
  have g10' := @ten_big (-(m - k)) (by omega)
  have g1 : (10 : Int).natAbs < BIG := small_lt_big (by decide)
  refine' fn_enter (defs := [.int 0 578]) (dvs := [.int 0]) nsfrom_str gsfrom_str [Str.ofString "p", Str.ofString "q", Str.ofString "man", Str.ofString "exp", Str.ofString "s", Str.ofString "e2"] 6 ?ho ?hcd ?hbind ?hns ?hlen ?hok (.cons .int .nil) ?hco ?hgen ?hcell ?hρ ?hb
  walk_at "enter"
  case hbind => (intro s vals X hl; match vals, hl with | [_, _, _], _ => exact binds_K X rfl (by (show List.lookup _ (hd.heap_39 _) = _); k_is) rfl rfl rfl)
  repeat' walk_at "ms"
  · unfold fsV; rw [if_pos (by omega)]
  · unfold fsV; rw [if_neg (show ¬ 0 ≤ m - k by omega)]
theorem no_from_str_e {rnd x a es : Str} {prec : Int} {Φ : V → Prop} (H : FS x) (hE : Txt.split x (Str.ofString "e") = [a, es]) (hn : NoInt es) (hX : X) :
    Cl (GG w p loose mean mg mb) f (d + 6) (.ref 201) [.str x, .int prec, .str rnd] Φ X := by
  obtain ⟨t1, t2, t3, s1, s2, s3, s4, s5, s6, s7, s8, s9, s10, c1, m2, m3, lx⟩ := H
  have hno : ∀ {f : FI} {d : Nat} {Ψ : V → Prop}, Cl (GG w p loose mean mg mb) f (d + 1) (.ref 192) [.str x, .int 10] Ψ X := no_str_to_man_exp_e t1 m2 m3 lx hE hn hX
  refine' fn_enter (defs := [.int 0 578]) (dvs := [.int 0]) nsfrom_str gsfrom_str [Str.ofString "p", Str.ofString "q", Str.ofString "man", Str.ofString "exp", Str.ofString "s", Str.ofString "e2"] 6 ?ho ?hcd ?hbind ?hns ?hlen ?hok (.cons .int .nil) ?hco ?hgen ?hcell ?hρ ?hb
  walk_at "enter"
  case hbind => (intro s vals X hl; match vals, hl with | [_, _, _], _ => exact binds_K X rfl (by (show List.lookup _ (hd.heap_39 _) = _); k_is) rfl rfl rfl)
  repeat' walk_at "ms"
theorem no_from_str {rnd x x1 : Str} {k prec : Int} {Φ : V → Prop} (H : FS x) (hE : Txt.split x (Str.ofString "e") = [x]) (hD : SplD x x1 k) (hn : NoInt x1) (hX : X) :
    Cl (GG w p loose mean mg mb) f (d + 6) (.ref 201) [.str x, .int prec, .str rnd] Φ X := by
  obtain ⟨t1, t2, t3, s1, s2, s3, s4, s5, s6, s7, s8, s9, s10, c1, m2, m3, lx⟩ := H
  have hno : ∀ {f : FI} {d : Nat} {Ψ : V → Prop}, Cl (GG w p loose mean mg mb) f (d + 1) (.ref 192) [.str x, .int 10] Ψ X := no_str_to_man_exp t1 m2 m3 lx hE hD hn hX
  refine' fn_enter (defs := [.int 0 578]) (dvs := [.int 0]) nsfrom_str gsfrom_str [Str.ofString "p", Str.ofString "q", Str.ofString "man", Str.ofString "exp", Str.ofString "s", Str.ofString "e2"] 6 ?ho ?hcd ?hbind ?hns ?hlen ?hok (.cons .int .nil) ?hco ?hgen ?hcell ?hρ ?hb
  walk_at "enter"
  case hbind => (intro s vals X hl; match vals, hl with | [_, _, _], _ => exact binds_K X rfl (by (show List.lookup _ (hd.heap_39 _) = _); k_is) rfl rfl rfl)
  repeat' walk_at "ms"
theorem fsV_zero {d0 d1 ex : Int} {prec : Nat} : fsV d0 d1 0 ex prec = .tup [.int 0, .int 0, .int 0, .int 0] := by
  unfold fsV
  split
  · simp only [Int.zero_mul, Int.natAbs_zero, norm_zero]
  · rfl
theorem sg_mulpos {i k : Int} (hk : 0 < k) : sg (i * k) = sg i := by
  unfold sg
  by_cases h : i < 0
  · rw [if_pos h, if_pos (Int.mul_neg_of_neg_of_pos h hk)]
  · rw [if_neg h, if_neg (by have := Int.mul_nonneg (Int.not_lt.mp h) (Int.le_of_lt hk); omega)]
theorem fsV_rq {d0 d1 n ex : Int} {prec : Nat} (hn : n ≠ 0) (hP : 1 ≤ prec) : RQ (rU (dnOf d0 d1 (sg n))) (sg n) (n.natAbs * 10 ^ ex.toNat) (10 ^ (-ex).toNat) prec (fsV d0 d1 n ex prec) := by
  have hm : 0 < n.natAbs := Int.natAbs_pos.mpr hn
  unfold fsV
  by_cases h : 0 ≤ ex
  · rw [if_pos h, sg_mulpos (Int.pow_pos (by decide)), Int.natAbs_mul, Int.natAbs_pow, show (-ex).toNat = 0 by omega]
    have := rq_norm (rnd_d (dnOf d0 d1 (sg n))) (s := sg n) (m := n.natAbs * 10 ^ ex.toNat) (P := prec) (Nat.mul_pos hm (Nat.pow_pos (by decide))) hP 0 0
    simpa [norm_eq] using this
  · rw [if_neg h, if_neg hn, show ex.toNat = 0 by omega]
    have o1 := odd_spec hm
    have o2 := odd_spec (m := 10 ^ (-ex).toNat) (Nat.pow_pos (by decide))
    have := rq_div (dn := dnOf d0 d1 (sg n)) (s := sg n) (M1 := odd n.natAbs) (M2 := odd (10 ^ (-ex).toNat)) (P := prec) (by omega) (by omega) hP (tz n.natAbs) (tz (10 ^ (-ex).toNat))
    rw [← o1.2, ← o2.2] at this
    simpa using this
end

end
section
open PySem.NumText

theorem sw_no {l y : List Nat} {c : Nat} (hy : c ∈ y) (hl : c ∉ l) : Txt.startswith (T l) (T y) = false := by
  unfold Txt.startswith
  rw [Bool.and_eq_false_iff]
  right
  rw [StrLaws.subAt_eq, T_toList, T_toList, List.drop_zero]
  refine beq_eq_false_iff_ne.mpr fun e => hl ?_
  exact List.mem_of_mem_take (by rw [e]; exact hy)
def Cs (l : List Nat) : Prop := ∀ c ∈ l, c = 45 ∨ c = 46 ∨ c = 101 ∨ (48 ≤ c ∧ c ≤ 57)
theorem Cs.no {l : List Nat} (h : Cs l) {c : Nat} (hc : ¬ (c = 45 ∨ c = 46 ∨ c = 101 ∨ (48 ≤ c ∧ c ≤ 57))) : c ∉ l := fun k => hc (h c k)
theorem fs_cs {l : List Nat} (h : Cs l) (hl : l.length ≤ 500) : FS (T l) := by
  have st : KXs.Still (T l) := fun c hc => by
    rw [T_toList] at hc
    have := h c hc
    omega
  have lit : ∀ (s : String) (y : List Nat), Str.ofString s = T y → ∀ c, c ∈ y → c ∉ l → Txt.startswith (T l) (Str.ofString s) = false := fun s y e c hy hn => by rw [e]; exact sw_no hy hn
  refine ⟨KXs.lower_still st, KXs.strip_still st, ?_, ?_, ?_, ?_, ?_, ?_, ?_, ?_, ?_, ?_, ?_, ?_, ?_, ?_, by rw [T_len]; exact hl⟩
  · simp only [spKeys, List.mem_cons, List.not_mem_nil, or_false, not_or]
    have k : ∀ (s : String) (y : List Nat) (c : Nat), Str.ofString s = T y → c ∈ y → c ∉ l → ¬ T l = Str.ofString s := fun s y c e hy hn he => hn (by
      rw [e] at he
      rw [T_inj he]; exact hy)
    exact ⟨k _ [105, 110, 102] 105 (by decide +kernel) (by decide) (h.no (by decide)), k _ [43, 105, 110, 102] 105 (by decide +kernel) (by decide) (h.no (by decide)), k _ [45, 105, 110, 102] 105 (by decide +kernel) (by decide) (h.no (by decide)),
      k _ [110, 97, 110] 110 (by decide +kernel) (by decide) (h.no (by decide)), k _ [111, 111] 111 (by decide +kernel) (by decide) (h.no (by decide)), k _ [43, 111, 111] 111 (by decide +kernel) (by decide) (h.no (by decide)), k _ [45, 111, 111] 111 (by decide +kernel) (by decide) (h.no (by decide))⟩
  · exact lit _ [48, 98] (by decide +kernel) 98 (by decide) (h.no (by decide))
  · exact lit _ [45, 48, 98] (by decide +kernel) 98 (by decide) (h.no (by decide))
  · exact lit _ [48, 66] (by decide +kernel) 66 (by decide) (h.no (by decide))
  · exact lit _ [45, 48, 66] (by decide +kernel) 66 (by decide) (h.no (by decide))
  · exact lit _ [48, 120] (by decide +kernel) 120 (by decide) (h.no (by decide))
  · exact lit _ [45, 48, 120] (by decide +kernel) 120 (by decide) (h.no (by decide))
  · exact lit _ [48, 88] (by decide +kernel) 88 (by decide) (h.no (by decide))
  · exact lit _ [45, 48, 88] (by decide +kernel) 88 (by decide) (h.no (by decide))
  · exact lit _ [48, 111] (by decide +kernel) 111 (by decide) (h.no (by decide))
  · exact lit _ [45, 48, 111] (by decide +kernel) 111 (by decide) (h.no (by decide))
  · rw [show Str.ofString "/" = T [47] by decide +kernel, contains_one]
    exact decide_eq_false (h.no (by decide))
  · rw [show Str.ofString "l" = T [108] by decide +kernel]
    refine rstrip_none fun e => h.no (by decide) (List.mem_of_getLast? e)
  · rw [show Str.ofString "_" = T [95] by decide +kernel]
    exact replace0 (h.no (by decide))
/-- digits ahead of the point and behind it -/
structure Dc (I F : List Nat) (N : Nat) : Prop where
  hI : AllDigits I
  nI : I ≠ []
  hF : AllDigits F
  lI : I.length ≤ 20
  lF : F.length ≤ 20
  val : digitsVal (I ++ F) = N
inductive Tl : List Nat → Int → Prop
  | no : Tl [] 0
  | yes {es m} : (∀ c ∈ es, c = 45 ∨ (48 ≤ c ∧ c ≤ 57)) → PySem.intText? (T es) = some m → es.length ≤ 10 → -5 ≤ m → m ≤ 5 → Tl (101 :: es) m
theorem Tl.bnd {tl m} (h : Tl tl m) : -5 ≤ m ∧ m ≤ 5 := by cases h <;> omega
theorem Tl.cs {tl m} (h : Tl tl m) : Cs tl := by
  cases h with
  | no => intro c hc; cases hc
  | yes h1 h2 h3 _ _ =>
    intro c hc
    rcases List.mem_cons.mp hc with rfl | hc
    · omega
    · have := h1 c hc; omega
theorem Tl.len {tl m} (h : Tl tl m) : tl.length ≤ 11 := by
  cases h with
  | no => simp
  | yes h1 h2 h3 _ _ => simp; omega
def ntx (neg : Bool) (I F tl : List Nat) : List Nat := sgn neg ++ I ++ (if F = [] then [] else 46 :: F) ++ tl
theorem sgn_cs (neg : Bool) : Cs (sgn neg) := by cases neg <;> simp [sgn, Cs]
theorem Cs.app {a b : List Nat} (ha : Cs a) (hb : Cs b) : Cs (a ++ b) := fun c hc => (List.mem_append.mp hc).elim (ha c) (hb c)
theorem dig_cs {a : List Nat} (h : AllDigits a) : Cs a := fun c hc => by have := h c hc; omega
theorem dot_cs {F : List Nat} (h : AllDigits F) : Cs (if F = [] then [] else 46 :: F) := by
  split
  · intro c hc; cases hc
  · intro c hc
    rcases List.mem_cons.mp hc with rfl | hc
    · omega
    · exact dig_cs h c hc
theorem ntx_cs {neg I F tl N m} (h : Dc I F N) (ht : Tl tl m) : Cs (ntx neg I F tl) := (((sgn_cs neg).app (dig_cs h.hI)).app (dot_cs h.hF)).app ht.cs
theorem ntx_len {neg I F tl N m} (h : Dc I F N) (ht : Tl tl m) : (ntx neg I F tl).length ≤ 60 := by
  have h1 := h.lI
  have h2 := h.lF
  have h3 := ht.len
  have h4 : (sgn neg).length ≤ 1 := by cases neg <;> decide
  unfold ntx
  simp only [List.length_append]
  split <;> simp <;> omega
theorem not_mem_cs {a : List Nat} {neg : Bool} (h : AllDigits a) {c : Nat} (hc : c = 101 ∨ c = 46) : c ∉ sgn neg ++ a := fun k => by
  rcases List.mem_append.mp k with k | k
  · cases neg
    · cases k
    · have : c = 45 := by simpa [sgn] using k
      omega
  · have := h c k; omega
theorem rd_ntx {neg I F tl N m} (h : Dc I F N) (ht : Tl tl m) : ∃ x0 x1 k, ∃ n : Nat, SplE (T (ntx neg I F tl)) x0 m ∧ SplD x0 x1 k ∧ PySem.intText? x1 = some (if neg then -(n : Int) else n) ∧
    ∃ j : Nat, N = n * 10 ^ j ∧ k + j = F.length ∧ 0 ≤ k := by
  have nE : (101 : Nat) ∉ sgn neg ++ I ++ (if F = [] then [] else 46 :: F) := fun k => by
    rcases List.mem_append.mp k with k | k
    · exact not_mem_cs h.hI (.inl rfl) k
    · split at k
      · cases k
      · rcases List.mem_cons.mp k with k | k
        · omega
        · have := h.hF _ k; omega
  have hl4 : (sgn neg).length ≤ 1 := by cases neg <;> decide
  have hl := h.lI
  have hl2 := h.lF
  have hlen : (sgn neg ++ I ++ (if F = [] then [] else 46 :: F)).length ≤ 100 := by
    simp only [List.length_append]
    split <;> simp <;> omega
  have hE : SplE (T (ntx neg I F tl)) (T (sgn neg ++ I ++ (if F = [] then [] else 46 :: F))) m := by
    have ee : Str.ofString "e" = T [101] := by decide +kernel
    cases ht with
    | no =>
      unfold ntx
      rw [List.append_nil]
      exact .one (by rw [ee]; exact split0 nE)
    | yes h1 h2 h3 _ _ =>
      refine .two (es := T _) ?_ (by rw [T_len]; omega) (by rw [T_len]; omega) h2
      rw [ee]
      exact split1 nE fun k => by have := h1 _ k; omega
  have ed : Str.ofString "." = T [46] := by decide +kernel
  by_cases hF : F = []
  · subst hF
    rw [if_pos rfl, List.append_nil] at hE
    refine ⟨T (sgn neg ++ I), T (sgn neg ++ I), 0, N, hE, ?_, ?_, 0, by simp, by simp, by omega⟩
    · exact .one (by
        rw [ed]
        exact split0 (not_mem_cs h.hI (.inr rfl)))
    · rw [intText_sgn h.hI h.nI (by omega)]
      have := h.val
      rw [List.append_nil] at this
      rw [this]
  · rw [if_neg hF] at hE
    obtain ⟨F', j, eF, hz⟩ := strip_tail 48 F
    have hF' : AllDigits F' := AllDigits.sub h.hF fun c hc => by rw [eF]; exact List.mem_append_left _ hc
    have lF' : F'.length + j = F.length := by rw [eF]; simp
    refine ⟨_, T (sgn neg ++ I) ++ T F', (F'.length : Int), digitsVal (I ++ F'), hE, ?_, ?_, j, ?_, by omega, by omega⟩
    · have := SplD.two (x := T (sgn neg ++ I ++ 46 :: F)) (a := T (sgn neg ++ I)) (b := T F) (b' := T F') (by
        rw [ed]
        exact split1 (not_mem_cs h.hI (.inr rfl)) fun k => by have := h.hF _ k; omega) (by rw [T_len, List.length_append]; omega) (by rw [T_len]; omega) (by rw [T_len]; omega) (by
          rw [show Str.ofString "0" = T [48] by decide +kernel, eF]
          exact rstrip_some hz j) (fun e => by
            have e' : T (sgn neg ++ I) = T [] := e.trans (by decide +kernel)
            have := T_inj e'
            exact h.nI (List.append_eq_nil_iff.mp this).2)
      rw [T_len] at this
      exact this
    · rw [T_app, List.append_assoc, intText_sgn (AllDigits.app h.hI hF') (by simp [h.nI]) (by rw [List.length_append]; omega)]
    · rw [← h.val]
      conv => lhs; rw [eF, ← List.append_assoc, digitsVal_app, digitsVal_zeros, List.length_replicate]
      omega
/-- what a reading gives: the number N · 10 ^ t, rounded -/
def bn (neg : Bool) : Int := if neg then 1 else 0
def NumV (d0 d1 : Int) (neg : Bool) (N : Nat) (t : Int) (prec : Nat) (v : V) : Prop :=
  (N = 0 → v = .tup [.int 0, .int 0, .int 0, .int 0]) ∧ (N ≠ 0 → RQ (rU (dnOf d0 d1 (bn neg))) (bn neg) (N * 10 ^ t.toNat) (10 ^ (-t).toNat) prec v)
section
variable {w : World} {p : Program} {loose : List Str} {mean : ExcName → Option Value} {mg mb : Str → Option Value} {f : FI} {d : Nat} {X : Prop}
theorem fn_num {rnd : Str} {d0 d1 : Int} {prec : Nat} {neg I F tl N m} (S : Sd (hd.heap_39 w.params) rnd d0 d1) (h0 : d0 = 0 ∨ d0 = 1) (h1 : d1 = 0 ∨ d1 = 1) (hp : 1 ≤ prec) (hp' : prec ≤ 1000)
    (h : Dc I F N) (ht : Tl tl m) (hb : bl N ≤ 100) :
    Cl (GG w p loose mean mg mb) f (d + 6) (.ref 201) [.str (T (ntx neg I F tl)), .int prec, .str rnd] (fun v => NumV d0 d1 neg N (m - F.length) prec v) X := by
  obtain ⟨x0, x1, k, n, hE, hD, hi, j, hN, hk, hk0⟩ := rd_ntx (neg := neg) h ht
  have hm := ht.bnd
  have hl := h.lF
  have hn : n ≤ N := by rw [hN]; exact Nat.le_mul_of_pos_right _ (Nat.pow_pos (by decide))
  have hna : (if neg then -(n : Int) else n).natAbs = n := by cases neg <;> simp
  refine (fn_from_str S h0 h1 hp hp' (fs_cs (ntx_cs h ht) (by have := ntx_len (neg := neg) h ht; omega)) hE hD hi (by omega) (by omega) (by rw [hna]; exact Nat.le_trans (bl_mono hn) hb)).mono fun v e => ?_
  subst e
  refine ⟨fun hz => ?_, fun hz => ?_⟩
  · have : n = 0 := by omega
    subst this
    have : (if neg then -((0 : Nat) : Int) else ((0 : Nat) : Int)) = 0 := by cases neg <;> rfl
    rw [this]
    exact fsV_zero
  · have hnz : n ≠ 0 := fun e => hz (by rw [hN, e, Nat.zero_mul])
    have hsg : sg (if neg then -(n : Int) else n) = bn neg := by
      cases neg
      · show (if (n : Int) < 0 then (1 : Int) else 0) = 0
        rw [if_neg (by omega)]
      · show (if -(n : Int) < 0 then (1 : Int) else 0) = 1
        rw [if_pos (by omega)]
    have := fsV_rq (d0 := d0) (d1 := d1) (n := if neg then -(n : Int) else n) (ex := m - k) (prec := prec) (by cases neg <;> simp <;> exact hnz) hp
    rw [hsg, hna] at this
    refine rq_cross (rnd_d _) (Nat.pow_pos (by decide)) (Nat.pow_pos (by decide)) hp this ?_
    rw [hN, Nat.mul_assoc, ← Nat.pow_add, Nat.mul_assoc, Nat.mul_assoc, ← Nat.pow_add, ← Nat.pow_add]
    congr 2
    omega
end

end
section


/-! values as fractions -/
abbrev p2 (k : Int) : Rat := (2 : Rat) ^ k
theorem p2_pos (k : Int) : 0 < p2 k := Rat.zpow_pos (by decide)
theorem p2_add (a b : Int) : p2 (a + b) = p2 a * p2 b := Rat.zpow_add (by decide) a b
theorem p2_zero : p2 0 = 1 := Rat.zpow_zero 2
theorem p2_nat (k : Nat) : p2 k = ((2 ^ k : Nat) : Rat) := by
  rw [Rat.natCast_pow]
  exact Rat.zpow_natCast 2 k
theorem p2_one_le (k : Nat) : 1 ≤ p2 k := by
  rw [p2_nat]
  have : ((1 : Nat) : Rat) ≤ ((2 ^ k : Nat) : Rat) := Rat.natCast_le_natCast.mpr (two_pos k)
  exact this
theorem p2_le {a b : Int} (h : a ≤ b) : p2 a ≤ p2 b := by
  obtain ⟨k, rfl⟩ : ∃ k : Nat, b = a + k := ⟨(b - a).toNat, by omega⟩
  rw [p2_add]
  have h1 := Rat.mul_le_mul_of_nonneg_left (p2_one_le k) (Rat.le_of_lt (p2_pos a))
  rwa [Rat.mul_one] at h1
theorem p2_lt {a b : Int} (h : p2 a < p2 b) : a < b := by
  refine Int.not_le.mp fun k => ?_
  exact Rat.not_le.mpr h (p2_le k)
theorem p2_inv (k : Int) : p2 k * p2 (-k) = 1 := by rw [← p2_add, Int.add_right_neg, p2_zero]
def mg (M : Nat) (e : Int) : Rat := (M : Rat) * p2 e
theorem mg_nonneg (M : Nat) (e : Int) : 0 ≤ mg M e := Rat.mul_nonneg Rat.natCast_nonneg (Rat.le_of_lt (p2_pos e))
theorem mg_lt (M : Nat) (e : Int) : mg M e < p2 (bl M + e) := by
  rw [p2_add, p2_nat]
  exact Rat.mul_lt_mul_of_pos_right (Rat.natCast_lt_natCast.mpr (lt_bl M)) (p2_pos e)
theorem mg_ge {M : Nat} (h : 0 < M) (e : Int) : p2 (bl M + e - 1) ≤ mg M e := by
  have hb := bl_pos h
  obtain ⟨k, hk⟩ : ∃ k : Nat, bl M = k + 1 := ⟨bl M - 1, by omega⟩
  have e1 : ((bl M : Nat) : Int) + e - 1 = (k : Int) + e := by omega
  rw [e1, p2_add, p2_nat]
  refine Rat.mul_le_mul_of_nonneg_right (Rat.natCast_le_natCast.mpr ?_) (Rat.le_of_lt (p2_pos e))
  have := bl_ge h
  rwa [hk] at this
theorem mg_mul (m k : Nat) (e : Int) : mg (m * 2 ^ k) e = mg m (e + k) := by
  unfold mg
  rw [Rat.natCast_mul, p2_add, ← p2_nat, Rat.mul_assoc, Rat.mul_comm (p2 k)]
theorem mg_odd {m : Nat} (h : 0 < m) (e : Int) : mg (odd m) (e + tz m) = mg m e := by
  rw [← mg_mul, ← (odd_spec h).2]
theorem rU_lo (dn : Bool) {A B : Nat} (hB : 0 < B) : (dn = true → rU dn A B * B ≤ A) ∧ (dn = false → A ≤ rU dn A B * B) ∧ rU dn A B * B ≤ A + B ∧ A ≤ rU dn A B * B + B := by
  have h := Nat.div_add_mod A B
  have h1 := Nat.mod_lt A hB
  have hc : B * (A / B) = A / B * B := Nat.mul_comm ..
  cases dn
  · unfold rU
    simp only [Bool.false_eq_true, if_false]
    rw [up_eq hB, Nat.add_mul]
    split <;> refine ⟨by simp, fun _ => ?_, ?_, ?_⟩ <;> omega
  · unfold rU
    simp only [if_true]
    refine ⟨fun _ => ?_, by simp, ?_, ?_⟩ <;> omega
/-- the rounding of a quotient, as fractions -/
structure Apx (v : V) (s : Int) (M : Nat) (e : Int) (A B P : Nat) (dn : Bool) : Prop where
  mpf : Mpf v s M e
  pos : 0 < M
  hbl : bl M ≤ P
  dwn : dn = true → mg M e ≤ (A : Rat) / B
  up : dn = false → (A : Rat) / B ≤ mg M e
  hi : mg M e ≤ (A : Rat) / B + (A : Rat) / B * p2 (1 - P)
  lo : (A : Rat) / B ≤ mg M e + (A : Rat) / B * p2 (1 - P)
  e1 : -((P : Int) + bl B) ≤ e
  e2 : e ≤ bl A + 1
theorem rswap (a b c : Rat) : a * b * c = a * c * b := by rw [Rat.mul_assoc, Rat.mul_comm b, ← Rat.mul_assoc]
theorem rq_apx {dn : Bool} {s : Int} {A B P : Nat} {v : V} (hA : 0 < A) (hB : 0 < B) (hP : 1 ≤ P) (hP' : P ≤ 500) (hs : s = 0 ∨ s = 1) (h : RQ (rU dn) s A B P v) : ∃ M e, Apx v s M e A B P dn := by
  obtain ⟨i, j, a1, a2, rfl⟩ := h
  have hB' : 0 < B * 2 ^ j := Nat.mul_pos hB (two_pos j)
  obtain ⟨m, hm⟩ : ∃ m, m = rU dn (A * 2 ^ i) (B * 2 ^ j) := ⟨_, rfl⟩
  have hr := rU_lo dn (A := A * 2 ^ i) hB'
  rw [← hm] at hr ⊢
  obtain ⟨r1, r2, r3, r4⟩ := hr
  -- m is within its bits
  have m1 : 2 ^ (P - 1) ≤ m := by
    cases dn
    · have := r2 rfl
      exact Nat.le_of_mul_le_mul_right (Nat.le_trans a1 this) hB'
    · have h2 : m = A * 2 ^ i / (B * 2 ^ j) := by rw [hm]; rfl
      rw [h2]
      exact (Nat.le_div_iff_mul_le hB').mpr a1
  have m2 : m ≤ 2 ^ P := by
    cases dn
    · have h2 : m = (A * 2 ^ i + B * 2 ^ j - 1) / (B * 2 ^ j) := by rw [hm]; rfl
      rw [h2]
      refine Nat.le_of_lt_succ ((Nat.div_lt_iff_lt_mul hB').mpr ?_)
      rw [Nat.succ_mul]
      omega
    · refine Nat.le_of_lt ?_
      have := r1 rfl
      exact Nat.lt_of_mul_lt_mul_right (Nat.lt_of_le_of_lt this a2)
  have mp : 0 < m := Nat.lt_of_lt_of_le (two_pos _) m1
  have ho := odd_spec mp
  have hbm : bl m ≤ P + 1 := bl_le.mpr (by rw [Nat.pow_succ]; have := two_pos P; omega)
  have hbo : bl m = bl (odd m) + tz m := by
    conv => lhs; rw [ho.2]
    exact bl_mul_pow (by omega) _
  have hop : 0 < bl (odd m) := bl_pos (by omega)
  have hbl : bl (odd m) ≤ P := by
    by_cases hz : tz m = 0
    · rw [hz, Nat.pow_zero, Nat.mul_one] at ho
      refine bl_le.mpr (Nat.lt_of_le_of_ne (ho.2 ▸ m2) fun e => ?_)
      have := ho.1
      rw [e] at this
      have : 2 ^ P % 2 = 0 := by rw [show P = (P - 1) + 1 by omega, Nat.pow_succ, Nat.mul_mod_left]
      omega
    · omega
  have G : (0 : Rat) < p2 i * B := Rat.mul_pos (p2_pos i) (Rat.natCast_pos.mpr hB)
  have Bne : (B : Rat) ≠ 0 := Rat.ne_of_gt (Rat.natCast_pos.mpr hB)
  have eA : (A : Rat) / B * (p2 i * B) = ((A * 2 ^ i : Nat) : Rat) := by
    rw [Rat.mul_comm (p2 i), ← Rat.mul_assoc, Rat.div_mul_cancel Bne, Rat.natCast_mul, p2_nat]
  have eM : mg m ((j : Int) - i) * (p2 i * B) = ((m * (B * 2 ^ j) : Nat) : Rat) := by
    unfold mg
    rw [Rat.mul_assoc, ← Rat.mul_assoc (p2 _), ← p2_add, show (j : Int) - i + i = j by omega, Rat.natCast_mul, Rat.natCast_mul, ← p2_nat, Rat.mul_comm (p2 j)]
  have cm : ∀ {a b : Nat}, a ≤ b → (a : Rat) ≤ b := fun h => Rat.natCast_le_natCast.mpr h
  have eps : ((B * 2 ^ j : Nat) : Rat) ≤ ((A * 2 ^ i : Nat) : Rat) * p2 (1 - P) := by
    have h1 := Rat.mul_le_mul_of_nonneg_right (cm a1) (Rat.le_of_lt (p2_pos (1 - P)))
    rw [Rat.natCast_mul, ← p2_nat, Rat.mul_comm (p2 _), Rat.mul_assoc, ← p2_add, show (((P - 1 : Nat) : Int) + (1 - (P : Int))) = 0 by omega, p2_zero, Rat.mul_one] at h1
    exact h1
  refine ⟨odd m, (j : Int) - i + tz m, ⟨mpf_canon hs mp (by omega), by omega, hbl, fun hd => ?_, fun hd => ?_, ?_, ?_, ?_, ?_⟩⟩
  · rw [mg_odd mp]
    refine Rat.le_of_mul_le_mul_right ?_ G
    rw [eA, eM]
    exact cm (r1 hd)
  · rw [mg_odd mp]
    refine Rat.le_of_mul_le_mul_right ?_ G
    rw [eA, eM]
    exact cm (r2 hd)
  · rw [mg_odd mp]
    refine Rat.le_of_mul_le_mul_right ?_ G
    rw [Rat.add_mul, rswap, eA, eM]
    have h2 := cm r3
    rw [Rat.natCast_add] at h2
    exact Rat.le_trans h2 (Rat.add_le_add_left.mpr eps)
  · rw [mg_odd mp]
    refine Rat.le_of_mul_le_mul_right ?_ G
    rw [Rat.add_mul, rswap, eA, eM]
    have h2 := cm r4
    rw [Rat.natCast_add] at h2
    exact Rat.le_trans h2 (Rat.add_le_add_left.mpr eps)
  · -- exponents
    have h3 : 2 ^ i < 2 ^ (P + bl B + j) := by
      calc 2 ^ i ≤ A * 2 ^ i := Nat.le_mul_of_pos_left _ hA
        _ < 2 ^ P * (B * 2 ^ j) := a2
        _ ≤ 2 ^ P * (2 ^ bl B * 2 ^ j) := Nat.mul_le_mul_left _ (Nat.mul_le_mul_right _ (Nat.le_of_lt (lt_bl B)))
        _ = _ := by rw [Nat.pow_add, Nat.pow_add, Nat.mul_assoc]
    have := (Nat.pow_lt_pow_iff_right (by decide : 1 < 2)).mp h3
    omega
  · have h3 : 2 ^ (P - 1 + j) < 2 ^ (bl A + i) := by
      calc 2 ^ (P - 1 + j) = 2 ^ (P - 1) * (1 * 2 ^ j) := by rw [Nat.one_mul, Nat.pow_add]
        _ ≤ 2 ^ (P - 1) * (B * 2 ^ j) := Nat.mul_le_mul_left _ (Nat.mul_le_mul_right _ hB)
        _ ≤ A * 2 ^ i := a1
        _ < 2 ^ bl A * 2 ^ i := Nat.mul_lt_mul_of_pos_right (lt_bl A) (two_pos i)
        _ = _ := (Nat.pow_add ..).symm
    have := (Nat.pow_lt_pow_iff_right (by decide : 1 < 2)).mp h3
    omega

end
section


def qv (s : Int) (M : Nat) (e : Int) : Rat := if s = 0 then mg M e else -mg M e
def sq (s : Int) (a : Rat) : Rat := if s = 0 then a else -a
theorem qv_neg {s : Int} (h : s = 0 ∨ s = 1) (M : Nat) (e : Int) : qv (1 - s) M e = -qv s M e := by
  rcases h with rfl | rfl
  · rfl
  · simp [qv, Rat.neg_neg]
/-- a number next to x on one side; a is its size -/
structure Ap (lo : Bool) (P : Nat) (K : Int) (x a : Rat) (v : V) (s : Int) (M : Nat) (e : Int) : Prop where
  mpf : Mpf v s M e
  hbl : bl M ≤ P
  side : if lo then qv s M e ≤ x else x ≤ qv s M e
  err : if lo then x - qv s M e ≤ a * p2 (1 - P) else qv s M e - x ≤ a * p2 (1 - P)
  mgh : mg M e ≤ a + a * p2 (1 - P)
  e1 : -K ≤ e
  e2 : e ≤ K
  mgl : a ≤ mg M e + a * p2 (1 - P)
/-- the directions -/
def Dir (lo : Bool) (d0 d1 : Int) : Prop := if lo then d0 = 1 ∧ d1 = 0 else d0 = 0 ∧ d1 = 1
theorem Apx.ap {lo dn : Bool} {v : V} {s : Int} {M : Nat} {e : Int} {A B P : Nat} (h : Apx v s M e A B P dn) (hs : s = 0 ∨ s = 1) (hd : dn = (lo == decide (s = 0))) {K : Int} (hK : (bl A : Int) + bl B + P + 1 ≤ K) :
    Ap lo P K (sq s ((A : Rat) / B)) ((A : Rat) / B) v s M e := by
  have h1 := h.e1
  have h2 := h.e2
  have q1 := h.dwn
  have q2 := h.up
  have q3 := h.hi
  have q4 := h.lo
  refine ⟨h.mpf, h.hbl, ?_, ?_, q3, by omega, by omega, q4⟩
  · rcases hs with rfl | rfl <;> cases lo <;> simp only [qv, sq, if_true, Bool.false_eq_true, if_false] <;> simp at hd <;> subst hd <;> simp at q1 q2 <;> grind
  · rcases hs with rfl | rfl <;> cases lo <;> simp only [qv, sq, if_true, Bool.false_eq_true, if_false] <;> simp at hd <;> subst hd <;> simp at q1 q2 <;> grind
theorem Ap.zero {lo : Bool} {P : Nat} {K : Int} (hK : 0 ≤ K) : Ap lo P K 0 0 (.tup [.int 0, .int 0, .int 0, .int 0]) 0 0 0 := by
  have z : mg 0 0 = 0 := by unfold mg; exact Rat.zero_mul _
  refine ⟨mpf_zero, by rw [bl_zero]; omega, ?_, ?_, ?_, by omega, by omega, ?_⟩
  · cases lo <;> simp [qv, z] <;> exact Rat.le_refl
  · cases lo <;> simp [qv, z] <;> grind
  · rw [z, Rat.zero_mul, Rat.add_zero]; exact Rat.le_refl
  · rw [z, Rat.zero_mul, Rat.add_zero]; exact Rat.le_refl
theorem dnOf_dir {lo : Bool} {d0 d1 s : Int} (h : Dir lo d0 d1) (hs : s = 0 ∨ s = 1) : dnOf d0 d1 s = (lo == decide (s = 0)) := by
  unfold Dir at h
  unfold dnOf
  cases lo <;> simp at h <;> obtain ⟨rfl, rfl⟩ := h <;> rcases hs with rfl | rfl <;> rfl
theorem rq_ap {lo : Bool} {d0 d1 s : Int} {A B P : Nat} {v : V} (hd : Dir lo d0 d1) (hs : s = 0 ∨ s = 1) (hA : 0 < A) (hB : 0 < B) (hP : 1 ≤ P) (hP' : P ≤ 300) {K : Int} (hK : (bl A : Int) + bl B + P + 1 ≤ K)
    (h : RQ (rU (dnOf d0 d1 s)) s A B P v) : ∃ M e, 0 < M ∧ Ap lo P K (sq s ((A : Rat) / B)) ((A : Rat) / B) v s M e := by
  obtain ⟨M, e, q⟩ := rq_apx hA hB hP (by omega) hs h
  exact ⟨M, e, q.pos, q.ap hs (dnOf_dir hd hs) hK⟩
theorem numv_ap {lo : Bool} {d0 d1 t : Int} {neg : Bool} {N P : Nat} {v : V} (hd : Dir lo d0 d1) (hP : 1 ≤ P) (hP' : P ≤ 80) (hN : bl N ≤ 80) (ht : -10 ≤ t) (ht' : t ≤ 10) (h : NumV d0 d1 neg N t P v) :
    ∃ s M e, (neg = false → s = 0) ∧ (N = 0 → M = 0) ∧ (N ≠ 0 → 0 < M) ∧ Ap lo P 300 (sq (bn neg) (((N * 10 ^ t.toNat : Nat) : Rat) / ((10 ^ (-t).toNat : Nat) : Rat))) (((N * 10 ^ t.toNat : Nat) : Rat) / ((10 ^ (-t).toNat : Nat) : Rat)) v s M e := by
  by_cases hz : N = 0
  · have hv := h.1 hz
    subst hz
    subst hv
    refine ⟨0, 0, 0, fun _ => rfl, fun _ => rfl, fun h => absurd rfl h, ?_⟩
    have e0 : ((0 * 10 ^ t.toNat : Nat) : Rat) / ((10 ^ (-t).toNat : Nat) : Rat) = 0 := by rw [Nat.zero_mul, Rat.div_def]; exact Rat.zero_mul _
    rw [e0]
    have e1 : sq (bn neg) 0 = 0 := by unfold sq; split <;> rfl
    rw [e1]
    exact Ap.zero (by decide)
  · have hr := h.2 hz
    have hs : bn neg = 0 ∨ bn neg = 1 := by cases neg <;> simp [bn]
    have t10 : ∀ k : Nat, k ≤ 10 → bl (10 ^ k) ≤ 34 := fun k hk => bl_le.mpr (Nat.lt_of_le_of_lt (Nat.pow_le_pow_right (by decide) hk) (by decide))
    have b1 : bl (N * 10 ^ t.toNat) ≤ 120 := by
      refine bl_le.mpr ?_
      calc N * 10 ^ t.toNat < 2 ^ 80 * 2 ^ 40 := Nat.mul_lt_mul_of_lt_of_le (bl_le.mp hN) (Nat.le_trans (Nat.le_of_lt (lt_bl _)) (Nat.pow_le_pow_right (by decide) (by have := t10 t.toNat (by omega); omega))) (by decide)
        _ = 2 ^ 120 := by decide
    have b2 := t10 (-t).toNat (by omega)
    obtain ⟨M, e, hM, q⟩ := rq_ap (K := 300) hd hs (Nat.mul_pos (Nat.pos_of_ne_zero hz) (Nat.pow_pos (by decide))) (Nat.pow_pos (by decide)) hP (by omega) (by omega) hr
    exact ⟨_, M, e, fun h => by subst h; rfl, fun h => absurd h hz, fun _ => hM, q⟩
theorem rU_bl {dn : Bool} {m P : Nat} (hP : 1 ≤ P) (hm : 0 < m) : 0 < rU dn m (2 ^ (bl m - P)) ∧ (bl m ≤ P → rU dn m (2 ^ (bl m - P)) = m) ∧ (P ≤ bl m → bl (rU dn m (2 ^ (bl m - P))) ≤ P + 1) := by
  by_cases h : bl m ≤ P
  · have : rU dn m (2 ^ (bl m - P)) = m := by
      rw [Nat.sub_eq_zero_of_le h]
      have := (rnd_d dn).ex m 1 (by decide)
      rwa [Nat.mul_one] at this
    rw [this]
    exact ⟨hm, fun _ => rfl, fun h' => by omega⟩
  · have hk : bl m = (bl m - P) + P := by omega
    refine ⟨?_, fun h' => absurd h' h, fun _ => ?_⟩
    · unfold rU
      cases dn
      · exact (up_bl hk hP).1
      · exact (down_bl hk hP).1
    · unfold rU
      cases dn
      · rcases (up_bl hk hP).2 with e | e
        · simp only [Bool.false_eq_true, if_false]; omega
        · simp only [Bool.false_eq_true, if_false]; rw [e, bl_pow]; omega
      · simp only [if_true]
        rw [(down_bl hk hP).2]; omega
theorem tz_le2 {m : Nat} (h : 0 < m) : tz m ≤ bl m := by
  obtain ⟨ho, e⟩ := odd_spec h
  have := bl_mul_pow (n := odd m) (by omega) (tz m)
  rw [← e] at this
  omega
theorem normR_ap {lo : Bool} {d0 d1 s E : Int} {m P : Nat} (hd : Dir lo d0 d1) (hs : s = 0 ∨ s = 1) (hm : 0 < m) (hP : 1 ≤ P) (hP' : P ≤ 300) {K : Int} (h1 : -K ≤ E) (h2 : E + bl m + 1 ≤ K) :
    ∃ M e, 0 < M ∧ Ap lo P K (sq s (mg m E)) (mg m E) (normR (rU (dnOf d0 d1 s)) s m E P) s M e := by
  have e0 : ((E.toNat : Int) - (-E).toNat) = E := by omega
  have hr := rq_norm (rnd_d (dnOf d0 d1 s)) (s := s) hm hP E.toNat (-E).toNat
  rw [e0] at hr
  obtain ⟨M, e, q⟩ := rq_apx (Nat.mul_pos hm (two_pos _)) (two_pos _) hP (by omega) hs hr
  have ev : ((m * 2 ^ E.toNat : Nat) : Rat) / ((2 ^ (-E).toNat : Nat) : Rat) = mg m E := by
    have hne : ((2 ^ (-E).toNat : Nat) : Rat) ≠ 0 := Rat.ne_of_gt (Rat.natCast_pos.mpr (two_pos _))
    have : mg m E * ((2 ^ (-E).toNat : Nat) : Rat) = ((m * 2 ^ E.toNat : Nat) : Rat) := by
      unfold mg
      rw [← p2_nat, Rat.mul_assoc, ← p2_add, show E + ((-E).toNat : Int) = (E.toNat : Int) by omega, p2_nat, Rat.natCast_mul]
    rw [← this, Rat.mul_div_cancel hne]
  have q' := q.ap (lo := lo) hs (dnOf_dir hd hs) (Int.le_refl _)
  rw [ev] at q'
  -- the exponent
  have hb := rU_bl (dn := dnOf d0 d1 s) hP hm
  have hv := q.mpf.hv
  unfold normR at hv
  rw [canon_pos hb.1] at hv
  simp only [V.tup.injEq, List.cons.injEq, V.int.injEq, and_true] at hv
  obtain ⟨-, -, he, -⟩ := hv
  have ht := tz_le2 hb.1
  refine ⟨M, e, q.pos, q'.mpf, q'.hbl, q'.side, q'.err, q'.mgh, by omega, ?_, q'.mgl⟩
  rw [← he]
  by_cases c : bl m ≤ P
  · have := hb.2.1 c
    rw [this] at ht ⊢
    omega
  · have := hb.2.2 (by omega)
    have : tz (rU (dnOf d0 d1 s) m (2 ^ (bl m - P))) + 1 ≤ bl (rU (dnOf d0 d1 s) m (2 ^ (bl m - P))) := by
      have o := odd_spec hb.1
      have : bl (rU (dnOf d0 d1 s) m (2 ^ (bl m - P))) = bl (odd (rU (dnOf d0 d1 s) m (2 ^ (bl m - P)))) + tz (rU (dnOf d0 d1 s) m (2 ^ (bl m - P))) := by
        conv => lhs; rw [o.2]
        exact bl_mul_pow (by omega) _
      have := bl_pos (n := odd (rU (dnOf d0 d1 s) m (2 ^ (bl m - P)))) (by omega)
      omega
    omega
def rab (x : Rat) : Rat := if 0 ≤ x then x else -x
theorem rab_nonneg (x : Rat) : 0 ≤ rab x := by unfold rab; split <;> grind
theorem sgv_rat {s : Int} (hs : s = 0 ∨ s = 1) (i : Int) : ((sgv s i : Int) : Rat) = sq s (i : Rat) := by
  rcases hs with rfl | rfl
  · rfl
  · simp [sgv, sq, Rat.intCast_neg]
theorem qv_int {s e E : Int} {M : Nat} (hs : s = 0 ∨ s = 1) (h : E ≤ e) : qv s M e = ((sgv s (M * 2 ^ (e - E).toNat) : Int) : Rat) * p2 E := by
  rw [sgv_rat hs, Rat.intCast_mul, Rat.intCast_pow, Rat.intCast_natCast]
  have : (M : Rat) * ((2 : Int) : Rat) ^ (e - E).toNat * p2 E = mg M e := by
    unfold mg
    have h2 : ((2 : Int) : Rat) ^ (e - E).toNat = p2 ((e - E).toNat : Int) := (Rat.zpow_natCast 2 _).symm
    rw [h2, Rat.mul_assoc, ← p2_add, show ((e - E).toNat : Int) + E = e by omega]
  unfold qv sq
  split
  · exact this.symm
  · rw [← this, Rat.neg_mul]
theorem int_rat (a : Int) (E : Int) : (a : Rat) * p2 E = sq (sg a) (mg a.natAbs E) ∧ mg a.natAbs E = rab ((a : Rat) * p2 E) := by
  have hp := p2_pos E
  unfold sq sg mg rab
  by_cases h : a < 0
  · have e : (a : Rat) = -((a.natAbs : Nat) : Rat) := by
      rw [← Rat.intCast_natCast, ← Rat.intCast_neg]; congr 1; omega
    rw [if_pos h, if_neg (by decide), e, Rat.neg_mul]
    have h1 : (0 : Rat) < ((a.natAbs : Nat) : Rat) := Rat.natCast_pos.mpr (by omega)
    have h2 := Rat.mul_pos h1 hp
    exact ⟨rfl, by rw [if_neg (by grind), Rat.neg_neg]⟩
  · have e : (a : Rat) = ((a.natAbs : Nat) : Rat) := by
      rw [← Rat.intCast_natCast]; congr 1; omega
    rw [if_neg h, if_pos rfl, e]
    have h2 : 0 ≤ ((a.natAbs : Nat) : Rat) * p2 E := Rat.mul_nonneg Rat.natCast_nonneg (Rat.le_of_lt hp)
    exact ⟨rfl, by rw [if_pos h2]⟩
theorem addv_ap {lo : Bool} {d0 d1 s1 s2 e1 e2 : Int} {M1 M2 P : Nat} (hd : Dir lo d0 d1) (hs1 : s1 = 0 ∨ s1 = 1) (hs2 : s2 = 0 ∨ s2 = 1) (hP : 1 ≤ P) (hP' : P ≤ 300) {K L : Int} (k1 : -K ≤ e1) (k2 : -K ≤ e2)
    (l1 : (bl M1 : Int) + e1 ≤ L) (l2 : (bl M2 : Int) + e2 ≤ L) (lk : L + 2 ≤ K) (K0 : 0 ≤ K) :
    ∃ s M e, Ap lo P K (qv s1 M1 e1 + qv s2 M2 e2) (rab (qv s1 M1 e1 + qv s2 M2 e2)) (addV (fun s m e => norm (dnOf d0 d1 s) s m e P) s1 M1 e1 s2 M2 e2) s M e := by
  obtain ⟨E, hE⟩ : ∃ E, E = if e1 < e2 then e1 else e2 := ⟨_, rfl⟩
  have hE1 : E ≤ e1 := by rw [hE]; split <;> omega
  have hE2 : E ≤ e2 := by rw [hE]; split <;> omega
  have hEK : -K ≤ E := by rw [hE]; split <;> omega
  have n1 := qv_int (M := M1) hs1 hE1
  have n2 := qv_int (M := M2) hs2 hE2
  obtain ⟨a, ha⟩ : ∃ a, a = sgv s1 (M1 * 2 ^ (e1 - E).toNat) := ⟨_, rfl⟩
  obtain ⟨b, hb⟩ : ∃ b, b = sgv s2 (M2 * 2 ^ (e2 - E).toNat) := ⟨_, rfl⟩
  have na : a.natAbs = M1 * 2 ^ (e1 - E).toNat := by
    have z : (M1 : Int) * 2 ^ (e1 - E).toNat = ((M1 * 2 ^ (e1 - E).toNat : Nat) : Int) := by rw [Int.natCast_mul, Int.natCast_pow]; rfl
    rw [ha, z]; unfold sgv; split
    · exact Int.natAbs_natCast _
    · rw [Int.natAbs_neg]; exact Int.natAbs_natCast _
  have nb : b.natAbs = M2 * 2 ^ (e2 - E).toNat := by
    have z : (M2 : Int) * 2 ^ (e2 - E).toNat = ((M2 * 2 ^ (e2 - E).toNat : Nat) : Int) := by rw [Int.natCast_mul, Int.natCast_pow]; rfl
    rw [hb, z]; unfold sgv; split
    · exact Int.natAbs_natCast _
    · rw [Int.natAbs_neg]; exact Int.natAbs_natCast _
  have sgvp : ∀ {s : Int} {x : Int}, s = 0 ∨ s = 1 → 0 < x → s = sg (sgv s x) := fun {s x} h hx => by
    rcases h with rfl | rfl
    · show (0 : Int) = if x < 0 then 1 else 0
      rw [if_neg (by omega)]
    · show (1 : Int) = if -x < 0 then 1 else 0
      rw [if_pos (by omega)]
  have zp : ∀ k : Nat, (0 : Int) < 2 ^ k := fun k => Int.pow_pos (by decide)
  have hv := addV_int (rs := fun s => rU (dnOf d0 d1 s)) (fun s => rnd_d _) (fun s => by unfold rU; cases dnOf d0 d1 s <;> rfl) (a := a) (b := b) (E := E) (s1 := s1) (s2 := s2) (e1 := e1) (e2 := e2) (M1 := M1) (M2 := M2) (k1 := (e1 - E).toNat) (k2 := (e2 - E).toNat) (P := P) hP
    (fun h => by have := na; rw [h, Nat.zero_mul] at this; omega)
    (fun h => ⟨by rw [ha]; exact sgvp hs1 (Int.mul_pos (by omega) (zp _)), by omega, na⟩)
    (fun h => by have := nb; rw [h, Nat.zero_mul] at this; omega)
    (fun h => ⟨by rw [hb]; exact sgvp hs2 (Int.mul_pos (by omega) (zp _)), by omega, nb⟩)
  have hv' : addV (fun s m e => norm (dnOf d0 d1 s) s m e P) s1 M1 e1 s2 M2 e2 = normR (rU (dnOf d0 d1 (sg (a + b)))) (sg (a + b)) (a + b).natAbs E P := hv
  have hsum : qv s1 M1 e1 + qv s2 M2 e2 = ((a + b : Int) : Rat) * p2 E := by rw [n1, n2, ← ha, ← hb, Rat.intCast_add, Rat.add_mul]
  rw [hv', hsum]
  obtain ⟨i1, i2⟩ := int_rat (a + b) E
  by_cases hz : a + b = 0
  · rw [hz]
    have e0 : normR (rU (dnOf d0 d1 (sg 0))) (sg 0) (0 : Int).natAbs E P = .tup [.int 0, .int 0, .int 0, .int 0] := norm_zero _ _ _ _
    rw [e0]
    have e1 : ((0 : Int) : Rat) * p2 E = 0 := by rw [Rat.intCast_zero]; exact Rat.zero_mul _
    rw [e1]
    have e2 : rab 0 = 0 := by unfold rab; split <;> rfl
    rw [e2]
    exact ⟨_, _, _, Ap.zero K0⟩
  · have hs : sg (a + b) = 0 ∨ sg (a + b) = 1 := by unfold sg; split <;> simp
    have hlen : E + bl (a + b).natAbs + 1 ≤ K := by
      have hLE : E ≤ L := by omega
      have q1 : ∀ (M : Nat) (e : Int), E ≤ e → (bl M : Int) + e ≤ L → M * 2 ^ (e - E).toNat < 2 ^ (L - E).toNat := fun M e hle hl => by
        by_cases hM : M = 0
        · rw [hM, Nat.zero_mul]; exact two_pos _
        · calc M * 2 ^ (e - E).toNat < 2 ^ bl M * 2 ^ (e - E).toNat := Nat.mul_lt_mul_of_pos_right (lt_bl M) (two_pos _)
            _ = 2 ^ (bl M + (e - E).toNat) := (Nat.pow_add ..).symm
            _ ≤ _ := Nat.pow_le_pow_right (by decide) (by omega)
      have q2 : a.natAbs < 2 ^ (L - E).toNat := na ▸ q1 M1 e1 hE1 l1
      have q3 : b.natAbs < 2 ^ (L - E).toNat := nb ▸ q1 M2 e2 hE2 l2
      have q4 : bl (a + b).natAbs ≤ (L - E).toNat + 1 := bl_le.mpr (by rw [Nat.pow_succ]; omega)
      omega
    obtain ⟨M, e, hM, q⟩ := normR_ap (K := K) hd hs (m := (a + b).natAbs) (E := E) (by omega) hP hP' hEK hlen
    rw [← i2, i1]
    exact ⟨_, _, _, q⟩

end
section


theorem p2_m20 : p2 (-20) * 1048576 = 1 := by
  have h := p2_inv 20
  have e : p2 20 = 1048576 := by rw [show (20 : Int) = ((20 : Nat) : Int) from rfl, p2_nat]; rfl
  rw [e] at h
  rw [Rat.mul_comm]; exact h
theorem eta_le {P : Nat} (hP : 1 ≤ P) : p2 (1 - P) ≤ 1 := by
  have := p2_le (a := 1 - (P : Int)) (b := 0) (by omega)
  rwa [p2_zero] at this
theorem eta_two (P : Nat) : p2 (1 - P) = 2 * p2 (-P) := by
  rw [show (1 : Int) - P = 1 + -P by omega, p2_add]
  congr 1
theorem eps_eta (P : Nat) : p2 (1 - ((P + 20 : Nat) : Int)) = p2 (1 - P) * p2 (-20) := by
  rw [← p2_add]; congr 1; omega
theorem qv_mg {s : Int} (M : Nat) (e : Int) : qv s M e ≤ mg M e ∧ -mg M e ≤ qv s M e := by
  have := mg_nonneg M e
  unfold qv
  split <;> constructor <;> grind
theorem near_core {x q1 qy q Y ax r η c ε : Rat} (hc : c * 1048576 = 1) (hη : 0 < η) (hη1 : η ≤ 1) (hε : ε = η * c) (ha : 0 ≤ ax) (hY : 0 ≤ Y)
    (h1 : x - q1 ≤ ax * ε) (h2 : qy ≤ Y + 5 * (Y * ε)) (h3 : q1 - qy - q ≤ r * η) (h4 : r ≤ ax + ax * ε + qy) : x - Y - q ≤ 2 * ((ax + Y) * η) := by
  have hc0 : 0 < c := by grind
  have u0 : 0 ≤ ax * η := Rat.mul_nonneg ha (Rat.le_of_lt hη)
  have w0 : 0 ≤ Y * η := Rat.mul_nonneg hY (Rat.le_of_lt hη)
  have u1 : ax * η * η ≤ ax * η := by have := Rat.mul_le_mul_of_nonneg_left hη1 u0; rwa [Rat.mul_one] at this
  have w1 : Y * η * η ≤ Y * η := by have := Rat.mul_le_mul_of_nonneg_left hη1 w0; rwa [Rat.mul_one] at this
  have g1 : ax * η * c ≤ ax * η * (1 / 1000000) := Rat.mul_le_mul_of_nonneg_left (by grind) u0
  have g2 : Y * η * c ≤ Y * η * (1 / 1000000) := Rat.mul_le_mul_of_nonneg_left (by grind) w0
  have u2 : 0 ≤ ax * η * η := Rat.mul_nonneg u0 (Rat.le_of_lt hη)
  have w2 : 0 ≤ Y * η * η := Rat.mul_nonneg w0 (Rat.le_of_lt hη)
  have g3 : ax * η * η * c ≤ ax * η * η * (1 / 1000000) := Rat.mul_le_mul_of_nonneg_left (by grind) u2
  have g4 : Y * η * η * c ≤ Y * η * η * (1 / 1000000) := Rat.mul_le_mul_of_nonneg_left (by grind) w2
  have e1 : ax * ε = ax * η * c := by rw [hε, Rat.mul_assoc]
  have e2 : Y * ε = Y * η * c := by rw [hε, Rat.mul_assoc]
  have h5 : r * η ≤ (ax + ax * ε + (Y + 5 * (Y * ε))) * η := Rat.mul_le_mul_of_nonneg_right (by grind) (Rat.le_of_lt hη)
  rw [e1] at h1 h5
  rw [e2] at h2 h5
  have e3 : (ax + ax * η * c + (Y + 5 * (Y * η * c))) * η = ax * η + ax * η * η * c + Y * η + 5 * (Y * η * η * c) := by grind
  rw [e3] at h5
  grind
/-- a found end: on its side of z, nearer than four units of so many bits of g -/
def NearV (lo : Bool) (P : Nat) (z g : Rat) (v : V) : Prop :=
  ∃ s M e, Mpf v s M e ∧ bl M ≤ P ∧ -1000 ≤ e ∧ e ≤ 1000 ∧ (if lo then qv s M e ≤ z else z ≤ qv s M e) ∧ (if lo then z - qv s M e else qv s M e - z) ≤ 4 * (g * p2 (-P))
theorem rab_le (a b : Rat) (h1 : a ≤ b) (h2 : -a ≤ b) : rab a ≤ b := by unfold rab; split <;> assumption
theorem near_lo {P : Nat} {K K' : Int} {x ax Y qy : Rat} {va v : V} {s1 e1 s e : Int} {M1 M : Nat} (hP : 1 ≤ P) (hK : K' ≤ 1000) (ha : 0 ≤ ax) (hY : 0 ≤ Y) (A : Ap true (P + 20) K x ax va s1 M1 e1) (y1 : Y ≤ qy) (y2 : qy ≤ Y + 5 * (Y * p2 (1 - ((P + 20 : Nat) : Int))))
    (B : Ap true P K' (qv s1 M1 e1 + -qy) (rab (qv s1 M1 e1 + -qy)) v s M e) : NearV true P (x - Y) (ax + Y) v := by
  have a1 := A.side
  have a2 := A.err
  have a3 := A.mgh
  have b1 := B.side
  have b2 := B.err
  have k1 := B.e1
  have k2 := B.e2
  simp only [if_true] at a1 a2 b1 b2
  refine ⟨s, M, e, B.mpf, B.hbl, by omega, by omega, by simp only [if_true]; grind, ?_⟩
  simp only [if_true]
  have hq := @qv_mg s1 M1 e1
  have hr : rab (qv s1 M1 e1 + -qy) ≤ ax + ax * p2 (1 - ((P + 20 : Nat) : Int)) + qy := rab_le _ _ (by grind) (by grind)
  have key := near_core (q := qv s M e) (r := rab (qv s1 M1 e1 + -qy)) p2_m20 (p2_pos (1 - P)) (eta_le hP) (eps_eta P) ha hY a2 y2 (by grind) hr
  rw [eta_two] at key
  grind
theorem near_hi {P : Nat} {K K' : Int} {x ax Y qy : Rat} {va v : V} {s1 e1 s e : Int} {M1 M : Nat} (hP : 1 ≤ P) (hK : K' ≤ 1000) (ha : 0 ≤ ax) (hY : 0 ≤ Y) (A : Ap false (P + 20) K x ax va s1 M1 e1) (y1 : Y ≤ qy) (y2 : qy ≤ Y + 5 * (Y * p2 (1 - ((P + 20 : Nat) : Int))))
    (B : Ap false P K' (qv s1 M1 e1 + qy) (rab (qv s1 M1 e1 + qy)) v s M e) : NearV false P (x + Y) (ax + Y) v := by
  have a1 := A.side
  have a2 := A.err
  have a3 := A.mgh
  have b1 := B.side
  have b2 := B.err
  have k1 := B.e1
  have k2 := B.e2
  simp only [Bool.false_eq_true, if_false] at a1 a2 b1 b2
  refine ⟨s, M, e, B.mpf, B.hbl, by omega, by omega, by simp only [Bool.false_eq_true, if_false]; grind, ?_⟩
  simp only [Bool.false_eq_true, if_false]
  have hq := @qv_mg s1 M1 e1
  have hr : rab (qv s1 M1 e1 + qy) ≤ ax + ax * p2 (1 - ((P + 20 : Nat) : Int)) + qy := rab_le _ _ (by grind) (by grind)
  have key := near_core (x := -x) (q1 := -qv s1 M1 e1) (q := -qv s M e) (r := rab (qv s1 M1 e1 + qy)) p2_m20 (p2_pos (1 - P)) (eta_le hP) (eps_eta P) ha hY (by grind) y2 (by grind) hr
  rw [eta_two] at key
  grind
/-- a positive number a little above z -/
structure Up (P : Nat) (K : Int) (z : Rat) (v : V) (M : Nat) (e : Int) : Prop where
  mpf : Mpf v 0 M e
  lo : z ≤ mg M e
  hi : mg M e ≤ z + z * p2 (1 - P)
  hbl : bl M ≤ P
  e1 : -K ≤ e
  e2 : e ≤ K
theorem Up.zero {P : Nat} {K : Int} (hK : 0 ≤ K) : Up P K 0 (.tup [.int 0, .int 0, .int 0, .int 0]) 0 0 := by
  have z : mg 0 0 = 0 := by unfold mg; exact Rat.zero_mul _
  exact ⟨mpf_zero, by rw [z]; exact Rat.le_refl, by rw [z, Rat.zero_mul, Rat.add_zero]; exact Rat.le_refl, by rw [bl_zero]; omega, by omega, by omega⟩
theorem mg_mul2 (M1 M2 : Nat) (e1 e2 : Int) : mg (M1 * M2) (e1 + e2) = mg M1 e1 * mg M2 e2 := by
  unfold mg
  rw [Rat.natCast_mul, p2_add]; grind
theorem mg_cmp {M1 M2 : Nat} {e1 e2 : Int} (h : 0 ≤ cmpI 0 M1 e1 0 M2 e2) : mg M2 e2 ≤ mg M1 e1 := by
  rw [cmpI_eq (.inl rfl) rfl rfl] at h
  simp only [sgv, if_true] at h
  obtain ⟨E, hE⟩ : ∃ E, E = if e1 < e2 then e1 else e2 := ⟨_, rfl⟩
  have h1 := qv_int (s := 0) (M := M1) (E := E) (e := e1) (.inl rfl) (by rw [hE]; split <;> omega)
  have h2 := qv_int (s := 0) (M := M2) (E := E) (e := e2) (.inl rfl) (by rw [hE]; split <;> omega)
  have t1 : (e1 - E).toNat = (e1 - e2).toNat := by rw [hE]; split <;> omega
  have t2 : (e2 - E).toNat = (e2 - e1).toNat := by rw [hE]; split <;> omega
  simp only [qv, sgv, if_true, t1, t2] at h1 h2
  rw [h1, h2]
  refine Rat.mul_le_mul_of_nonneg_right (Rat.intCast_le_intCast.mpr ?_) (Rat.le_of_lt (p2_pos E))
  split at h
  · omega
  · omega
theorem mg_cmp' {M1 M2 : Nat} {e1 e2 : Int} (h : ¬ 0 ≤ cmpI 0 M1 e1 0 M2 e2) : mg M1 e1 ≤ mg M2 e2 := by
  rw [cmpI_eq (.inl rfl) rfl rfl] at h
  simp only [sgv, if_true] at h
  obtain ⟨E, hE⟩ : ∃ E, E = if e1 < e2 then e1 else e2 := ⟨_, rfl⟩
  have h1 := qv_int (s := 0) (M := M1) (E := E) (e := e1) (.inl rfl) (by rw [hE]; split <;> omega)
  have h2 := qv_int (s := 0) (M := M2) (E := E) (e := e2) (.inl rfl) (by rw [hE]; split <;> omega)
  have t1 : (e1 - E).toNat = (e1 - e2).toNat := by rw [hE]; split <;> omega
  have t2 : (e2 - E).toNat = (e2 - e1).toNat := by rw [hE]; split <;> omega
  simp only [qv, sgv, if_true, t1, t2] at h1 h2
  rw [h1, h2]
  refine Rat.mul_le_mul_of_nonneg_right (Rat.intCast_le_intCast.mpr ?_) (Rat.le_of_lt (p2_pos E))
  split at h
  · omega
  · split at h <;> omega
/-- the hundredths -/
theorem pct {ax mx Yp qy y1 y2 ε : Rat} (ha : 0 ≤ ax) (hY : 0 ≤ Yp) (he : 0 ≤ ε) (he' : ε ≤ 1 / 1000) (m1 : ax ≤ mx) (m2 : mx ≤ ax + ax * ε) (q1 : Yp ≤ qy) (q2 : qy ≤ Yp + Yp * ε)
    (a1 : mx * qy ≤ y1) (a2 : y1 ≤ mx * qy + mx * qy * ε) (b1 : y1 / 100 ≤ y2) (b2 : y2 ≤ y1 / 100 + y1 / 100 * ε) :
    ax * Yp / 100 ≤ y2 ∧ y2 ≤ ax * Yp / 100 + 5 * (ax * Yp / 100 * ε) := by
  have hm : 0 ≤ mx := Rat.le_trans ha m1
  have l1 : ax * Yp ≤ mx * qy := Rat.le_trans (Rat.mul_le_mul_of_nonneg_right m1 hY) (Rat.mul_le_mul_of_nonneg_left q1 hm)
  have hz : 0 ≤ ax * Yp := Rat.mul_nonneg ha hY
  have hq : 0 ≤ qy := Rat.le_trans hY q1
  have l2 : mx * qy ≤ (ax + ax * ε) * (Yp + Yp * ε) := Rat.le_trans (Rat.mul_le_mul_of_nonneg_right m2 hq) (Rat.mul_le_mul_of_nonneg_left q2 (Rat.le_trans hm m2))
  have e2 : (ax + ax * ε) * (Yp + Yp * ε) = ax * Yp + 2 * (ax * Yp * ε) + ax * Yp * ε * ε := by grind
  rw [e2] at l2
  obtain ⟨z, hzz⟩ : ∃ z, z = ax * Yp := ⟨_, rfl⟩
  rw [← hzz] at l1 l2 hz ⊢
  have z1 : 0 ≤ z * ε := Rat.mul_nonneg hz he
  have z2 : z * ε * ε ≤ z * ε * (1 / 1000) := Rat.mul_le_mul_of_nonneg_left he' z1
  have w1 : mx * qy ≤ z + 5 / 2 * (z * ε) := by grind
  have w2 : mx * qy * ε ≤ (z + 5 / 2 * (z * ε)) * ε := Rat.mul_le_mul_of_nonneg_right w1 he
  have w3 : (z + 5 / 2 * (z * ε)) * ε = z * ε + 5 / 2 * (z * ε * ε) := by grind
  rw [w3] at w2
  have w4 : y1 ≤ z + 7 / 2 * (z * ε) + 5 / 2 * (z * ε * (1 / 1000)) := by grind
  have w5 : y1 * ε ≤ (z + 7 / 2 * (z * ε) + 5 / 2 * (z * ε * (1 / 1000))) * ε := Rat.mul_le_mul_of_nonneg_right w4 he
  have w6 : (z + 7 / 2 * (z * ε) + 5 / 2 * (z * ε * (1 / 1000))) * ε = z * ε + 7 / 2 * (z * ε * ε) + 5 / 2000 * (z * ε * ε) := by grind
  rw [w6] at w5
  have w7 : y1 / 100 * ε = y1 * ε / 100 := by grind
  rw [w7] at b2
  constructor <;> grind
/-- sizes in bits -/
theorem bl_hi {M : Nat} {e k : Int} (hM : 0 < M) (h : mg M e < p2 k) : (bl M : Int) + e ≤ k := by
  have := p2_lt (Std.lt_of_le_of_lt (mg_ge hM e) h)
  omega
theorem bl_lo {M : Nat} {e k : Int} (h : p2 k ≤ mg M e) : k + 1 ≤ (bl M : Int) + e := by
  have := p2_lt (Std.lt_of_le_of_lt h (mg_lt M e))
  omega
theorem near_of {P M1 M2 : Nat} {e1 e2 : Int} (b1 : bl M1 ≤ P + 20) (b2 : bl M2 ≤ P + 20) (hP : P ≤ 60) (r1 : -2000 ≤ e1) (r2 : e1 ≤ 2000) (r3 : -2000 ≤ e2) (r4 : e2 ≤ 2000)
    (h : 0 < M1 → 0 < M2 → ((bl M1 : Int) + e1 ≤ 34 ∧ -26 ≤ (bl M1 : Int) + e1 ∧ (bl M2 : Int) + e2 ≤ 17 ∧ -9 ≤ (bl M2 : Int) + e2) ∨ ((bl M1 : Int) + e1 ≤ bl M2 + e2 + 17 ∧ (bl M2 : Int) + e2 ≤ bl M1 + e1 + 10)) : Near P M1 e1 M2 e2 := by
  by_cases z1 : M1 = 0
  · exact ⟨.inl z1, .inl z1, .inl z1, .inl z1⟩
  · by_cases z2 : M2 = 0
    · exact ⟨.inr (.inl z2), .inr (.inl z2), .inr (.inl z2), .inr (.inl z2)⟩
    · have p1 := bl_pos (Nat.pos_of_ne_zero z1)
      have p2 := bl_pos (Nat.pos_of_ne_zero z2)
      have := h (Nat.pos_of_ne_zero z1) (Nat.pos_of_ne_zero z2)
      refine ⟨.inr (.inr (by omega)), .inr (.inr (by omega)), .inr (.inr ?_), .inr (.inr ?_)⟩ <;> omega
theorem p2_m27 : p2 (-27) * 134217728 = 1 := by
  have h := p2_inv 27
  have e : p2 27 = 134217728 := by rw [show (27 : Int) = ((27 : Nat) : Int) from rfl, p2_nat]; rfl
  rw [e] at h
  rw [Rat.mul_comm]; exact h
theorem p2_m10 : p2 (-10) * 1024 = 1 := by
  have h := p2_inv 10
  have e : p2 10 = 1024 := by rw [show (10 : Int) = ((10 : Nat) : Int) from rfl, p2_nat]; rfl
  rw [e] at h
  rw [Rat.mul_comm]; exact h
theorem p2_34 : p2 34 = 17179869184 := by rw [show (34 : Int) = ((34 : Nat) : Int) from rfl, p2_nat]; rfl
theorem p2_17 : p2 17 = 131072 := by rw [show (17 : Int) = ((17 : Nat) : Int) from rfl, p2_nat]; rfl
theorem p2_10 : p2 10 = 1024 := by rw [show (10 : Int) = ((10 : Nat) : Int) from rfl, p2_nat]; rfl
theorem eps_le {P : Nat} (hP : 1 ≤ P) : 0 < p2 (1 - ((P + 20 : Nat) : Int)) ∧ p2 (1 - ((P + 20 : Nat) : Int)) ≤ 1 / 1000000 := by
  refine ⟨p2_pos _, ?_⟩
  have h := p2_le (a := 1 - ((P + 20 : Nat) : Int)) (b := -20) (by omega)
  have := p2_m20
  grind
theorem bits_x {M : Nat} {e : Int} {a ε : Rat} (hM : 0 < M) (he : 0 < ε) (he' : ε ≤ 1 / 1000000) (h1 : mg M e ≤ a + a * ε) (h2 : a ≤ mg M e + a * ε) (l : 1 / 100000000 ≤ a) (u : a ≤ 9999900000) :
    (bl M : Int) + e ≤ 34 ∧ -26 ≤ (bl M : Int) + e := by
  have k : a * ε ≤ a * (1 / 1000000) := Rat.mul_le_mul_of_nonneg_left he' (by grind)
  have := p2_m27
  have := p2_34
  exact ⟨bl_hi hM (by grind), bl_lo (k := -27) (by grind)⟩
theorem bits_y {M : Nat} {e : Int} {a ε : Rat} (hM : 0 < M) (he : 0 < ε) (he' : ε ≤ 1 / 1000000) (h1 : mg M e ≤ a + a * ε) (h2 : a ≤ mg M e) (l : 1 / 1000 ≤ a) (u : a ≤ 99999) :
    (bl M : Int) + e ≤ 17 ∧ -9 ≤ (bl M : Int) + e := by
  have k : a * ε ≤ a * (1 / 1000000) := Rat.mul_le_mul_of_nonneg_left he' (by grind)
  have := p2_m10
  have := p2_17
  exact ⟨bl_hi hM (by grind), bl_lo (k := -10) (by grind)⟩
theorem bits_p {M1 M2 : Nat} {e1 e2 : Int} {a Yp ε : Rat} (hM1 : 0 < M1) (hM2 : 0 < M2) (ha : 0 < a) (he : 0 < ε) (he' : ε ≤ 1 / 1000000) (h1 : mg M1 e1 ≤ a + a * ε) (h2 : a ≤ mg M1 e1 + a * ε)
    (g1 : a * Yp / 100 ≤ mg M2 e2) (g2 : mg M2 e2 ≤ a * Yp / 100 + 5 * (a * Yp / 100 * ε)) (l : 1 / 1000 ≤ Yp) (u : Yp ≤ 99999) :
    (bl M1 : Int) + e1 ≤ bl M2 + e2 + 17 ∧ (bl M2 : Int) + e2 ≤ bl M1 + e1 + 10 := by
  have k : a * ε ≤ a * (1 / 1000000) := Rat.mul_le_mul_of_nonneg_left he' (Rat.le_of_lt ha)
  have k1 : a * (1 / 1000) ≤ a * Yp := Rat.mul_le_mul_of_nonneg_left l (Rat.le_of_lt ha)
  have k2 : a * Yp ≤ a * 99999 := Rat.mul_le_mul_of_nonneg_left u (Rat.le_of_lt ha)
  have k3 : a * Yp / 100 * ε ≤ a * Yp / 100 * (1 / 1000000) := Rat.mul_le_mul_of_nonneg_left he' (by grind)
  have u1 := mg_lt M1 e1
  have u2 := mg_lt M2 e2
  have v1 := mg_ge hM1 e1
  have v2 := mg_ge hM2 e2
  have w1 : mg M1 e1 < mg M2 e2 * 131072 := by grind
  have w2 : mg M2 e2 < mg M1 e1 * 1024 := by grind
  constructor
  · have : p2 (bl M1 + e1 - 1) < p2 (bl M2 + e2 + 17) := by
      rw [p2_add (bl M2 + e2), p2_17]
      grind
    have := p2_lt this
    omega
  · have : p2 (bl M2 + e2 - 1) < p2 (bl M1 + e1 + 10) := by
      rw [p2_add (bl M1 + e1), p2_10]
      grind
    have := p2_lt this
    omega
/-- the greater size of both ends -/
theorem max_lo {P : Nat} {K : Int} {x ax : Rat} {va vb : V} {s1 s2 e1 e2 : Int} {M1 M2 : Nat} (hx : ax = rab x) (A : Ap true P K x ax va s1 M1 e1) (B : Ap false P K x ax vb s2 M2 e2) : ax ≤ mg M1 e1 ∨ ax ≤ mg M2 e2 := by
  have a1 := A.side
  have b1 := B.side
  simp only [if_true, Bool.false_eq_true, if_false] at a1 b1
  have q1 := @qv_mg s1 M1 e1
  have q2 := @qv_mg s2 M2 e2
  unfold rab at hx
  split at hx
  · right; grind
  · left; grind

end
section
local macro_rules | `(tactic| walk_at "exmore") => `(tactic| ((with_reducible refine' ex_swap2 ?hs ?hk ?h1); (case hs => (intro; kernel_rfl)); (case h1 => (intro; rfl))))
local macro_rules | `(tactic| walk_at "m0") => `(tactic| ((with_reducible show (∃ _ _, V.tup _ = V.tup _ ∧ _)); (with_reducible refine ⟨_, _, rfl, ?_⟩)))
local macro_rules | `(tactic| walk_at "tst") => `(tactic| (with_reducible refine tst_if ?_))
section
variable {w : World} {p : Program} {loose : List Str} {mean : ExcName → Option Value} {mg mb : Str → Option Value} {f : FI} {d : Nat} {X : Prop}

theorem normOk_c {prec : Nat} (hp : 1 ≤ prec) : NormOk w p loose mean mg mb X (Str.ofString "c") prec (fun s m e => norm (dnOf 0 1 s) s m e prec) := normOk_dir (sd_c w.params) (.inl rfl) (.inr rfl) hp
theorem normOk_f {prec : Nat} (hp : 1 ≤ prec) : NormOk w p loose mean mg mb X (Str.ofString "f") prec (fun s m e => norm (dnOf 1 0 s) s m e prec) := normOk_dir (sd_f w.params) (.inr rfl) (.inl rfl) hp
theorem Up.tup {P : Nat} {K : Int} {z : Rat} {v : V} {M : Nat} {e : Int} (h : Up P K z v M e) : v = .tup [.int 0, .int M, .int e, .int (bl M : Nat)] := h.mpf.hv
theorem up_mul {P : Nat} {M1 M2 : Nat} {e1 e2 : Int} {v1 v2 : V} (h1 : Mpf v1 0 M1 e1) (h2 : Mpf v2 0 M2 e2) (hP : 1 ≤ P) (hP' : P ≤ 80) (b1 : bl M1 ≤ 80) (b2 : bl M2 ≤ 80) (r1 : -300 ≤ e1) (r2 : e1 ≤ 300) (r3 : -300 ≤ e2) (r4 : e2 ≤ 300) :
    Cl (GG w p loose mean mg mb) f (d + 4) (.ref 160) [v1, v2, .int P, .str (Str.ofString "c")] (fun v => ∃ M e, Up P 800 (Mine.mg M1 e1 * Mine.mg M2 e2) v M e) X := by
  have t1 := h1.hv
  have t2 := h2.hv
  subst t1 t2
  by_cases z : M1 = 0 ∨ M2 = 0
  · have k1 : M1 = 0 → e1 = 0 := fun h => by
      rcases h1.hm with k | k
      · omega
      · exact k.2.2
    have k2 : M2 = 0 → e2 = 0 := fun h => by
      rcases h2.hm with k | k
      · omega
      · exact k.2.2
    refine (fn_mpf_mul0 (s1 := 0) (s2 := 0) (by rcases z with z | z <;> simp [z, k1, k2]) (lt_big (k := 80) (by rw [Int.natAbs_natCast]; exact bl_le.mp b1) (by decide)) (lt_big (k := 80) (by rw [Int.natAbs_natCast]; exact bl_le.mp b2) (by decide)) k1 k2).mono fun v hv => ?_
    subst hv
    have e0 : Mine.mg M1 e1 * Mine.mg M2 e2 = 0 := by
      rcases z with z | z <;> subst z <;> unfold Mine.mg
      · rw [show ((0 : Nat) : Rat) = 0 from rfl, Rat.zero_mul, Rat.zero_mul]
      · rw [show ((0 : Nat) : Rat) = 0 from rfl, Rat.zero_mul, Rat.mul_zero]
    rw [e0]
    exact ⟨_, _, Up.zero (by decide)⟩
  · have m1 : 0 < M1 := by omega
    have m2 : 0 < M2 := by omega
    refine (fn_mpf_mul (normOk_c hP) hP m1 m2 (by omega) (by omega)).mono fun v hv => ?_
    subst hv
    have hb : bl (M1 * M2) ≤ 160 := bl_le.mpr (by
      calc M1 * M2 < 2 ^ 80 * 2 ^ 80 := Nat.mul_lt_mul'' (bl_le.mp b1) (bl_le.mp b2)
        _ = 2 ^ 160 := by decide)
    obtain ⟨M, e, hM, q⟩ := normR_ap (lo := false) (d0 := 0) (d1 := 1) (s := 0) (E := e1 + e2) (m := M1 * M2) (P := P) (K := 800) ⟨rfl, rfl⟩ (.inl rfl) (Nat.mul_pos m1 m2) hP (by omega) (by omega) (by omega)
    have s1 := q.side
    have s2 := q.mgh
    simp only [Bool.false_eq_true, if_false, sq, qv, if_true, mg_mul2] at s1 s2
    exact ⟨M, e, q.mpf, s1, s2, q.hbl, q.e1, q.e2⟩
theorem tup_100 : canon (if (100 : Int) < 0 then 1 else 0) (Int.natAbs 100) 0 = .tup [.int 0, .int (25 : Nat), .int 2, .int (bl 25 : Nat)] := by
  have e : canon 0 (25 * 2 ^ 2) 0 = canon 0 25 (0 + (2 : Nat)) := canon_mul 0 25 2 0
  have e2 : odd 25 = 25 := by unfold odd; rw [tz_odd (by decide)]
  show canon 0 (25 * 2 ^ 2) 0 = _
  rw [e, canon_pos (by decide), e2, tz_odd (by decide)]
  rfl
theorem up_div {P : Nat} {M1 : Nat} {e1 : Int} {v1 : V} (h1 : Mpf v1 0 M1 e1) (hP : 1 ≤ P) (hP' : P ≤ 80) (b1 : bl M1 ≤ 80) (r1 : -800 ≤ e1) (r2 : e1 ≤ 800) :
    Cl (GG w p loose mean mg mb) f (d + 4) (.ref 175) [v1, .tup [.int 0, .int (25 : Nat), .int 2, .int (bl 25 : Nat)], .int P, .str (Str.ofString "c")] (fun v => ∃ M e, Up P 2000 (Mine.mg M1 e1 / 100) v M e) X := by
  have t1 := h1.hv
  subst t1
  by_cases z : M1 = 0
  · subst z
    have k1 : e1 = 0 := by
      rcases h1.hm with k | k
      · omega
      · exact k.2.2
    subst k1
    refine (fn_mpf_div0 (by decide)).mono fun v hv => ?_
    subst hv
    have e0 : Mine.mg 0 0 / 100 = 0 := by unfold Mine.mg; rw [show ((0 : Nat) : Rat) = 0 from rfl, Rat.zero_mul, Rat.div_def, Rat.zero_mul]
    rw [e0]
    exact ⟨_, _, Up.zero (by decide)⟩
  · have m1 : 0 < M1 := by omega
    refine (fn_mpf_div (sd_c w.params) hP (by omega) (.inl rfl) (dn := false) rfl m1 (by decide) (by omega) (by decide)).mono fun v hv => ?_
    subst hv
    have hr := rq_div (dn := false) (s := 0) (M1 := M1) (M2 := 25) (P := P) m1 (by decide) hP (e1 - 2).toNat (-(e1 - 2)).toNat
    rw [show (((e1 - 2).toNat : Int) - (-(e1 - 2)).toNat) = e1 - 2 by omega] at hr
    have hA : bl (M1 * 2 ^ (e1 - 2).toNat) = bl M1 + (e1 - 2).toNat := bl_mul_pow m1 _
    have hB : bl (25 * 2 ^ (-(e1 - 2)).toNat) = 5 + (-(e1 - 2)).toNat := bl_mul_pow (by decide) _
    obtain ⟨M, e, hM, q⟩ := rq_ap (lo := false) (d0 := 0) (d1 := 1) (s := 0) (K := 2000) ⟨rfl, rfl⟩ (.inl rfl) (Nat.mul_pos m1 (two_pos _)) (Nat.mul_pos (by decide) (two_pos _)) hP (by omega) (by rw [hA, hB]; omega) hr
    have ev : ((M1 * 2 ^ (e1 - 2).toNat : Nat) : Rat) / ((25 * 2 ^ (-(e1 - 2)).toNat : Nat) : Rat) = Mine.mg M1 e1 / 100 := by
      have hne : ((25 * 2 ^ (-(e1 - 2)).toNat : Nat) : Rat) ≠ 0 := Rat.ne_of_gt (Rat.natCast_pos.mpr (Nat.mul_pos (by decide) (two_pos _)))
      have : Mine.mg M1 e1 / 100 * ((25 * 2 ^ (-(e1 - 2)).toNat : Nat) : Rat) = ((M1 * 2 ^ (e1 - 2).toNat : Nat) : Rat) := by
        have e4 : p2 e1 = p2 (e1 - 2) * 4 := by rw [show e1 = (e1 - 2) + 2 by omega, p2_add]; rw [show e1 - 2 + 2 - 2 = e1 - 2 by omega]; rfl
        have e5 : p2 (e1 - 2) * p2 ((-(e1 - 2)).toNat : Int) = p2 ((e1 - 2).toNat : Int) := by rw [← p2_add]; congr 1; omega
        unfold Mine.mg
        rw [e4, Rat.natCast_mul, Rat.natCast_mul, ← p2_nat, ← p2_nat, ← e5]
        rw [show ((25 : Nat) : Rat) = 25 from rfl]
        grind
      rw [← this, Rat.mul_div_cancel hne]
    rw [ev] at q
    have s1 := q.side
    have s2 := q.mgh
    simp only [Bool.false_eq_true, if_false, sq, qv, if_true] at s1 s2
    exact ⟨M, e, q.mpf, s1, s2, q.hbl, q.e1, q.e2⟩
theorem up_max {P : Nat} {x ax : Rat} {va vb v1 v2 : V} {s1 s2 e1 e2 : Int} {M1 M2 : Nat} (hx : ax = rab x) (A : Ap true P 300 x ax va s1 M1 e1) (B : Ap false P 300 x ax vb s2 M2 e2) (h1 : Mpf v1 0 M1 e1) (h2 : Mpf v2 0 M2 e2) :
    Cl (GG w p loose mean mg mb) f (d + 10) (.ref 250) [v1, v2] (fun v => ∃ M e, Up P 300 ax v M e) X := by
  have a1 := A.e1
  have a2 := A.e2
  have b1 := B.e1
  have b2 := B.e2
  refine (fn_MAX h1 h2 (.inr (.inr (by omega)))).mono fun v hv => ?_
  subst hv
  have hm := max_lo hx A B
  split
  · rename_i h
    have := mg_cmp h
    exact ⟨M1, e1, h1, by rcases hm with hm | hm <;> grind, A.mgh, A.hbl, a1, a2⟩
  · rename_i h
    have := mg_cmp' h
    exact ⟨M2, e2, h2, by rcases hm with hm | hm <;> grind, B.mgh, B.hbl, b1, b2⟩
theorem fn_100 : Cl (GG w p loose mean mg mb) f (d + 3) (.ref 62) [.int 100] (fun v => v = .tup [.int 0, .int (25 : Nat), .int 2, .int (bl 25 : Nat)]) X := tup_100 ▸ fn_from_int1
theorem mpf_abs_of {v : V} {s e : Int} {M : Nat} (h : Mpf v s M e) : Mpf (.tup [.int 0, .int M, .int e, .int (bl M : Nat)]) 0 M e :=
  ⟨rfl, .inl rfl, h.hm.imp id fun k => ⟨k.1, rfl, k.2.2⟩, h.hb⟩
end

end
section
local macro_rules | `(tactic| walk_at "exmore") => `(tactic| ((with_reducible refine' ex_swap2 ?hs ?hk ?h1); (case hs => (intro; kernel_rfl)); (case h1 => (intro; rfl))))
local macro_rules | `(tactic| walk_at "m0") => `(tactic| ((with_reducible show (∃ _ _, V.tup _ = V.tup _ ∧ _)); (with_reducible refine ⟨_, _, rfl, ?_⟩)))
local macro_rules | `(tactic| walk_at "tst") => `(tactic| (with_reducible refine tst_if ?_))
local macro_rules | `(tactic| walk_at "call") => `(tactic| first
  | ((with_reducible refine' Cl.mono (fn_num ?hS ?h0 ?h1 ?h2 ?h3 ?h4 ?h5 ?h6) ?hk); (case hS => first | exact sd_f _ | exact sd_c _); (case h0 => decide); (case h1 => decide); (case h2 => omega); (case h3 => omega); (case h4 => (with_reducible assumption)); (case h5 => first | (with_reducible assumption) | exact Tl.no); (case h6 => omega); intro _ _)
  | ((with_reducible refine' Cl.eq (fn_mpf_ge ?h1 ?h2 ?h3) ?hk); (case h1 => (with_reducible assumption)); (case h2 => exact mpf_zero); (case h3 => omega))
  | ((with_reducible refine' Cl.eq (fn_mpf_sub ?hN ?h0 ?h1 ?h2 ?h3) ?hk); (case hN => (with_reducible assumption)); (case h0 => omega); (case h1 => (with_reducible assumption)); (case h2 => (with_reducible assumption)); (case h3 => (with_reducible assumption)))
  | ((with_reducible refine' Cl.eq (fn_mpf_add ?hN ?h0 ?h1 ?h2 ?h3) ?hk); (case hN => (with_reducible assumption)); (case h0 => omega); (case h1 => (with_reducible assumption)); (case h2 => (with_reducible assumption)); (case h3 => (with_reducible assumption)))
  | ((with_reducible refine' Cl.eq (fn_mpf_abs ?h1) ?hk); (case h1 => (with_reducible assumption)))
  | ((with_reducible refine' Cl.mono (up_max ?h1 ?h2 ?h3 ?h4 ?h5) ?hk); (case h1 => (with_reducible assumption)); (case h2 => (with_reducible assumption)); (case h3 => (with_reducible assumption)); (case h4 => (with_reducible assumption)); (case h5 => (with_reducible assumption)); (refine fun _ hh => ?_; obtain ⟨_, _, hu⟩ := hh; have h1 := hu.mpf; have h2 := hu.hbl; have h3 := hu.e1; have h4 := hu.e2))
  | ((with_reducible refine' Cl.mono (up_mul ?h1 ?h2 ?h3 ?h4 ?h5 ?h6 ?h7 ?h8 ?h9 ?h10) ?hk); (case h1 => (with_reducible assumption)); (case h2 => (with_reducible assumption)); (case h3 => omega); (case h4 => omega); (case h5 => omega); (case h6 => omega); (case h7 => omega); (case h8 => omega); (case h9 => omega); (case h10 => omega); (refine fun _ hh => ?_; obtain ⟨_, _, hu⟩ := hh; have h1 := hu.mpf; have h2 := hu.hbl; have h3 := hu.e1; have h4 := hu.e2))
  | (with_reducible refine' Cl.eq fn_100 ?hk)
  | ((with_reducible refine' Cl.mono (up_div ?h1 ?h3 ?h4 ?h5 ?h7 ?h8) ?hk); (case h1 => (with_reducible assumption)); (case h3 => omega); (case h4 => omega); (case h5 => omega); (case h7 => omega); (case h8 => omega); (refine fun _ hh => ?_; obtain ⟨_, _, hu⟩ := hh; have h1 := hu.mpf; have h2 := hu.hbl; have h3 := hu.e1; have h4 := hu.e2)))
section
variable {w : World} {p : Program} {loose : List Str} {mean : ExcName → Option Value} {mg mb : Str → Option Value} {f : FI} {d : Nat} {X : Prop}

local macro_rules | `(tactic| walk_at "assert") => `(tactic| assumption)
theorem fn_mpf_add4 {rnd : Str} {s1 s2 e1 e2 : Int} {v1 v2 : V} {M1 M2 prec : Nat} {R : Int → Nat → Int → V} (N : NormOk w p loose mean mg mb X rnd prec R) (hp : 1 ≤ prec) (h1 : Mpf v1 s1 M1 e1) (h2 : Mpf v2 s2 M2 e2) (hn : Near prec M1 e1 M2 e2) :
    Cl (GG w p loose mean mg mb) f (d + 5) (.ref 144) [v1, v2, .int prec, .str rnd] (fun v => v = addV R s1 M1 e1 s2 M2 e2) X := fn_mpf_add (d := d + 1) N hp h1 h2 hn
def tenQ (N : Nat) (t : Int) : Rat := ((N * 10 ^ t.toNat : Nat) : Rat) / ((10 ^ (-t).toNat : Nat) : Rat)
theorem tenQ_nonneg (N : Nat) (t : Int) : 0 ≤ tenQ N t := by
  unfold tenQ
  rw [Rat.div_def]
  exact Rat.mul_nonneg Rat.natCast_nonneg (Rat.le_of_lt (Rat.inv_pos.mpr (Rat.natCast_pos.mpr (Nat.pow_pos (by decide)))))
theorem tenQ_zero (t : Int) : tenQ 0 t = 0 := by unfold tenQ; rw [Nat.zero_mul, Rat.div_def]; exact Rat.zero_mul _
theorem rab_sq {s : Int} {a : Rat} (h : 0 ≤ a) : rab (sq s a) = a := by
  unfold rab sq
  split <;> (try split) <;> grind
theorem rat_div_le {a b c e : Nat} (hb : 0 < b) (he : 0 < e) (h : a * e ≤ c * b) : (a : Rat) / b ≤ (c : Rat) / e := by
  have hb' : (0 : Rat) < b := Rat.natCast_pos.mpr hb
  have he' : (0 : Rat) < e := Rat.natCast_pos.mpr he
  have h' : (a : Rat) * e ≤ (c : Rat) * b := by
    rw [← Rat.natCast_mul, ← Rat.natCast_mul]; exact Rat.natCast_le_natCast.mpr h
  refine Rat.le_of_mul_le_mul_right (c := (b : Rat) * e) ?_ (Rat.mul_pos hb' he')
  rw [← Rat.mul_assoc, Rat.div_mul_cancel (Rat.ne_of_gt hb'), Rat.mul_comm (b : Rat), ← Rat.mul_assoc, Rat.div_mul_cancel (Rat.ne_of_gt he')]
  exact h'
theorem ten_le {a b : Nat} (h : a ≤ b) : 10 ^ a ≤ 10 ^ b := Nat.pow_le_pow_right (by decide) h
theorem tenQ_rng {N : Nat} {t : Int} (hN : 0 < N) (hN' : N ≤ 99999) (h1 : -8 ≤ t) (h2 : t ≤ 5) : 1 / 100000000 ≤ tenQ N t ∧ tenQ N t ≤ 9999900000 := by
  have p1 : 0 < 10 ^ t.toNat := Nat.pow_pos (by decide)
  have p2 : 0 < 10 ^ (-t).toNat := Nat.pow_pos (by decide)
  have q1 : 10 ^ t.toNat ≤ 10 ^ 5 := ten_le (by omega)
  have q2 : 10 ^ (-t).toNat ≤ 10 ^ 8 := ten_le (by omega)
  constructor
  · have := rat_div_le (a := 1) (b := 100000000) (c := N * 10 ^ t.toNat) (e := 10 ^ (-t).toNat) (by decide) p2 (by
      have := Nat.mul_le_mul hN p1
      omega)
    exact this
  · have := rat_div_le (a := N * 10 ^ t.toNat) (b := 10 ^ (-t).toNat) (c := 9999900000) (e := 1) p2 (by decide) (by
      have := Nat.mul_le_mul hN' q1
      omega)
    have e : ((9999900000 : Nat) : Rat) / ((1 : Nat) : Rat) = 9999900000 := by
      rw [show ((1 : Nat) : Rat) = 1 from rfl, show ((9999900000 : Nat) : Rat) = 9999900000 from rfl]; grind
    rw [e] at this
    exact this
theorem tenQ_rngY {N : Nat} {t : Int} (hN : 0 < N) (hN' : N ≤ 99999) (h1 : -3 ≤ t) (h2 : t ≤ 0) : 1 / 1000 ≤ tenQ N t ∧ tenQ N t ≤ 99999 := by
  have e0 : t.toNat = 0 := by omega
  have p2 : 0 < 10 ^ (-t).toNat := Nat.pow_pos (by decide)
  have q2 : 10 ^ (-t).toNat ≤ 10 ^ 3 := ten_le (by omega)
  unfold tenQ
  rw [e0, Nat.pow_zero, Nat.mul_one]
  constructor
  · have := rat_div_le (a := 1) (b := 1000) (c := N) (e := 10 ^ (-t).toNat) (by decide) p2 (by omega)
    exact this
  · have := rat_div_le (a := N) (b := 10 ^ (-t).toNat) (c := 99999) (e := 1) p2 (by decide) (by
      have := Nat.mul_le_mul_left 99999 p2
      omega)
    have e : ((99999 : Nat) : Rat) / ((1 : Nat) : Rat) = 99999 := by
      rw [show ((1 : Nat) : Rat) = 1 from rfl, show ((99999 : Nat) : Rat) = 99999 from rfl]; grind
    rw [e] at this
    exact this
theorem ge_zero {s e : Int} {M : Nat} (hs : s = 0) : decide (cmpI s M e 0 0 0 ≥ 0) = true := by
  subst hs
  rw [cmpI_z2 (.inl rfl)]
  by_cases h : M = 0
  · rw [if_pos h]; rfl
  · rw [if_neg h]; rfl
theorem bl_99999 {N : Nat} (h : N ≤ 99999) : bl N ≤ 17 := bl_le.mpr (by omega)
theorem fn_a_b0 {neg : Bool} {I F tl I2 F2 : List Nat} {N N2 P : Nat} {m : Int} (hP : 1 ≤ P) (hP' : P ≤ 60) (D1 : Dc I F N) (tl1 : Tl tl m) (D2 : Dc I2 F2 N2) (n1 : N ≤ 99999) (n2 : N2 ≤ 99999) (f1 : F.length ≤ 3) (f2 : F2.length ≤ 3) :
    Cl (GG w p loose mean mg mb) f (d + 12) (.ref 257) [.str (T (ntx neg I F tl)), .str (T (ntx false I2 F2 [])), .bool false, .int P] (fun v => ∃ a b, v = .tup [a, b] ∧
      NearV true P (sq (bn neg) (tenQ N (m - F.length)) - tenQ N2 (0 - F2.length)) (tenQ N (m - F.length) + tenQ N2 (0 - F2.length)) a ∧
      NearV false P (sq (bn neg) (tenQ N (m - F.length)) + tenQ N2 (0 - F2.length)) (tenQ N (m - F.length) + tenQ N2 (0 - F2.length)) b) X := by
  have g1 := bl_99999 n1
  have g2 := bl_99999 n2
  have hm := tl1.bnd
  have hP20 : (P : Int) + 20 = ((P + 20 : Nat) : Int) := rfl
  obtain ⟨ax, hax⟩ : ∃ ax, ax = tenQ N (m - F.length) := ⟨_, rfl⟩
  obtain ⟨Y, hY⟩ : ∃ Y, Y = tenQ N2 (0 - F2.length) := ⟨_, rfl⟩
  have ax0 : 0 ≤ ax := hax ▸ tenQ_nonneg _ _
  have Y0 : 0 ≤ Y := hY ▸ tenQ_nonneg _ _
  rw [← hax, ← hY]
  refine' fn_enter (defs := []) (dvs := []) nsmpi_from_str_a_b gsmpi_from_str_a_b [Str.ofString "wp", Str.ofString "xa", Str.ofString "xb", Str.ofString "a", Str.ofString "b"] 5 ?ho ?hcd ?hbind ?hns ?hlen ?hok .nil ?hco ?hgen ?hcell ?hρ ?hb
  walk_at "enter"
  case hbind => (intro s vals X hl; match vals, hl with | [_, _, _, _], _ => exact BindsTo.of_eq rfl)
  walk_at "st"
  rw [hP20]
  walk_at "nx"
  walk_at "nx"
  walk_at "nx"
  rename_i va hva vb hvb vy hvy
  obtain ⟨sa, Ma, ea, -, za, za', Aa⟩ := numv_ap (lo := true) ⟨rfl, rfl⟩ (by omega) (by omega) (by omega) (by omega) (by omega) hva
  obtain ⟨sb, Mb, eb, -, zb, zb', Ab⟩ := numv_ap (lo := false) ⟨rfl, rfl⟩ (by omega) (by omega) (by omega) (by omega) (by omega) hvb
  obtain ⟨sy, My, ey, sy0, zy, zy', Ay⟩ := numv_ap (lo := false) ⟨rfl, rfl⟩ (by omega) (by omega) (by omega) (by omega) (by omega) hvy
  obtain rfl := sy0 rfl
  change Ap true (P + 20) 300 (sq (bn neg) (tenQ N (m - F.length))) (tenQ N (m - F.length)) va sa Ma ea at Aa
  change Ap false (P + 20) 300 (sq (bn neg) (tenQ N (m - F.length))) (tenQ N (m - F.length)) vb sb Mb eb at Ab
  change Ap false (P + 20) 300 (sq 0 (tenQ N2 (0 - F2.length))) (tenQ N2 (0 - F2.length)) vy 0 My ey at Ay
  have rx : N ≠ 0 → 1 / 100000000 ≤ ax ∧ ax ≤ 9999900000 := fun h => hax ▸ tenQ_rng (Nat.pos_of_ne_zero h) n1 (by omega) (by omega)
  have ry : N2 ≠ 0 → 1 / 1000 ≤ Y ∧ Y ≤ 99999 := fun h => hY ▸ tenQ_rngY (Nat.pos_of_ne_zero h) n2 (by omega) (by omega)
  rw [← hax] at Aa Ab
  rw [← hY] at Ay
  have hep := eps_le hP
  have ysd := Ay.side
  have yhi := Ay.mgh
  simp only [Bool.false_eq_true, if_false, sq, qv, if_true] at ysd
  have nearA : ∀ {s e : Int} {M : Nat} {lo : Bool} {v : V}, (N = 0 → M = 0) → Ap lo (P + 20) 300 (sq (bn neg) ax) ax v s M e → Near P M e My ey := fun {s e M lo v} hz A => by
    have q1 := A.e1
    have q2 := A.e2
    have q3 := Ay.e1
    have q4 := Ay.e2
    refine near_of A.hbl Ay.hbl hP' (by omega) (by omega) (by omega) (by omega) fun hM hMy => ?_
    have nz : N ≠ 0 := fun h => by have := hz h; omega
    have nz2 : N2 ≠ 0 := fun h => by have := zy h; omega
    have b1 := bits_x hM hep.1 hep.2 A.mgh A.mgl (rx nz).1 (rx nz).2
    have b2 := bits_y hMy hep.1 hep.2 yhi ysd (ry nz2).1 (ry nz2).2
    omega
  have nA := nearA za Aa
  have nB := nearA zb Ab
  have mA := Aa.mpf
  have mB := Ab.mpf
  have mY := Ay.mpf
  have hge : decide (cmpI 0 My ey 0 0 0 ≥ 0) = true := ge_zero rfl
  have NF := normOk_f (w := w) (p := p) (loose := loose) (mean := mean) (mg := mg) (mb := mb) (X := X) hP
  have NC := normOk_c (w := w) (p := p) (loose := loose) (mean := mean) (mg := mg) (mb := mb) (X := X) hP
  walk_at "nx"
  walk_at "nx"
  walk_at "nx"
  walk_at "nx"
  walk_at "nx"
  have hYe : 0 ≤ Y * p2 (1 - ((P + 20 : Nat) : Int)) := Rat.mul_nonneg Y0 (Rat.le_of_lt hep.1)
  have ka1 := Aa.e1
  have ka2 := Aa.e2
  have kb1 := Ab.e1
  have kb2 := Ab.e2
  have ky1 := Ay.e1
  have ky2 := Ay.e2
  have la := Aa.hbl
  have lb := Ab.hbl
  have ly := Ay.hbl
  have qy0 : qv 0 My ey = Mine.mg My ey := by unfold qv; rw [if_pos rfl]
  refine ⟨?_, ?_⟩
  · obtain ⟨s, M, e, q⟩ := addv_ap (lo := true) (d0 := 1) (d1 := 0) (s1 := sa) (s2 := 1 - 0) (e1 := ea) (e2 := ey) (M1 := Ma) (M2 := My) (P := P) (K := 500) (L := 400) ⟨rfl, rfl⟩ Aa.mpf.hs (.inr rfl) hP (by omega) (by omega) (by omega) (by omega) (by omega) (by omega) (by omega)
    rw [qv_neg (.inl rfl), qy0] at q
    exact near_lo hP (by omega) ax0 Y0 Aa ysd (by grind) q
  · obtain ⟨s, M, e, q⟩ := addv_ap (lo := false) (d0 := 0) (d1 := 1) (s1 := sb) (s2 := 0) (e1 := eb) (e2 := ey) (M1 := Mb) (M2 := My) (P := P) (K := 500) (L := 400) ⟨rfl, rfl⟩ Ab.mpf.hs (.inl rfl) hP (by omega) (by omega) (by omega) (by omega) (by omega) (by omega) (by omega)
    rw [qy0] at q
    exact near_hi hP (by omega) ax0 Y0 Ab ysd (by grind) q
theorem fn_a_b1 {neg : Bool} {I F tl I2 F2 : List Nat} {N N2 P : Nat} {m : Int} (hP : 1 ≤ P) (hP' : P ≤ 60) (D1 : Dc I F N) (tl1 : Tl tl m) (D2 : Dc I2 F2 N2) (n1 : N ≤ 99999) (n2 : N2 ≤ 99999) (f1 : F.length ≤ 3) (f2 : F2.length ≤ 3) :
    Cl (GG w p loose mean mg mb) f (d + 12) (.ref 257) [.str (T (ntx neg I F tl)), .str (T (ntx false I2 F2 [])), .bool true, .int P] (fun v => ∃ a b, v = .tup [a, b] ∧
      NearV true P (sq (bn neg) (tenQ N (m - F.length)) - tenQ N (m - F.length) * tenQ N2 (0 - F2.length) / 100) (tenQ N (m - F.length) + tenQ N (m - F.length) * tenQ N2 (0 - F2.length) / 100) a ∧
      NearV false P (sq (bn neg) (tenQ N (m - F.length)) + tenQ N (m - F.length) * tenQ N2 (0 - F2.length) / 100) (tenQ N (m - F.length) + tenQ N (m - F.length) * tenQ N2 (0 - F2.length) / 100) b) X := by
  have g1 := bl_99999 n1
  have g2 := bl_99999 n2
  have hm := tl1.bnd
  have hP20 : (P : Int) + 20 = ((P + 20 : Nat) : Int) := rfl
  obtain ⟨ax, hax⟩ : ∃ ax, ax = tenQ N (m - F.length) := ⟨_, rfl⟩
  obtain ⟨Y, hY⟩ : ∃ Y, Y = tenQ N2 (0 - F2.length) := ⟨_, rfl⟩
  have ax0 : 0 ≤ ax := hax ▸ tenQ_nonneg _ _
  have Y0 : 0 ≤ Y := hY ▸ tenQ_nonneg _ _
  rw [← hax, ← hY]
  refine' fn_enter (defs := []) (dvs := []) nsmpi_from_str_a_b gsmpi_from_str_a_b [Str.ofString "wp", Str.ofString "xa", Str.ofString "xb", Str.ofString "a", Str.ofString "b"] 5 ?ho ?hcd ?hbind ?hns ?hlen ?hok .nil ?hco ?hgen ?hcell ?hρ ?hb
  walk_at "enter"
  case hbind => (intro s vals X hl; match vals, hl with | [_, _, _, _], _ => exact BindsTo.of_eq rfl)
  walk_at "st"
  rw [hP20]
  walk_at "nx"
  walk_at "nx"
  walk_at "nx"
  rename_i va hva vb hvb vy hvy
  obtain ⟨sa, Ma, ea, -, za, za', Aa⟩ := numv_ap (lo := true) ⟨rfl, rfl⟩ (by omega) (by omega) (by omega) (by omega) (by omega) hva
  obtain ⟨sb, Mb, eb, -, zb, zb', Ab⟩ := numv_ap (lo := false) ⟨rfl, rfl⟩ (by omega) (by omega) (by omega) (by omega) (by omega) hvb
  obtain ⟨sy, My, ey, sy0, zy, zy', Ay⟩ := numv_ap (lo := false) ⟨rfl, rfl⟩ (by omega) (by omega) (by omega) (by omega) (by omega) hvy
  obtain rfl := sy0 rfl
  change Ap true (P + 20) 300 (sq (bn neg) (tenQ N (m - F.length))) (tenQ N (m - F.length)) va sa Ma ea at Aa
  change Ap false (P + 20) 300 (sq (bn neg) (tenQ N (m - F.length))) (tenQ N (m - F.length)) vb sb Mb eb at Ab
  change Ap false (P + 20) 300 (sq 0 (tenQ N2 (0 - F2.length))) (tenQ N2 (0 - F2.length)) vy 0 My ey at Ay
  have rx : N ≠ 0 → 1 / 100000000 ≤ ax ∧ ax ≤ 9999900000 := fun h => hax ▸ tenQ_rng (Nat.pos_of_ne_zero h) n1 (by omega) (by omega)
  have ry : N2 ≠ 0 → 1 / 1000 ≤ Y ∧ Y ≤ 99999 := fun h => hY ▸ tenQ_rngY (Nat.pos_of_ne_zero h) n2 (by omega) (by omega)
  rw [← hax] at Aa Ab
  rw [← hY] at Ay
  have hep := eps_le hP
  have ysd := Ay.side
  have yhi := Ay.mgh
  simp only [Bool.false_eq_true, if_false, sq, qv, if_true] at ysd
  have mA := Aa.mpf
  have mB := Ab.mpf
  have mY := Ay.mpf
  have mAa := mpf_abs_of mA
  have mBa := mpf_abs_of mB
  have hge : decide (cmpI 0 My ey 0 0 0 ≥ 0) = true := ge_zero rfl
  have NF := normOk_f (w := w) (p := p) (loose := loose) (mean := mean) (mg := mg) (mb := mb) (X := X) hP
  have NC := normOk_c (w := w) (p := p) (loose := loose) (mean := mean) (mg := mg) (mb := mb) (X := X) hP
  have ka1 := Aa.e1
  have ka2 := Aa.e2
  have kb1 := Ab.e1
  have kb2 := Ab.e2
  have ky1 := Ay.e1
  have ky2 := Ay.e2
  have la := Aa.hbl
  have lb := Ab.hbl
  have ly := Ay.hbl
  have hxr : ax = rab (sq (bn neg) ax) := (rab_sq ax0).symm
  walk_at "nx"
  refine then_next (exs_cons (ex_if ?_))
  refine tst_plain ?_ (by intros; rfl)
  walk_at "m1"
  refine tr_bool ⟨fun _ => ?_, fun h => by cases h⟩
  refine exs_cons ?_
  repeat' walk_at "m1"
  walk_at "nx"
  rename_i v3 M3 e3 u3 _ _ _ _ v4 M4 e4 u4 _ _ _ _ v5 M5 e5 u5 m5 l5 _ _
  obtain ⟨hq1, hq2⟩ := pct ax0 Y0 (Rat.le_of_lt hep.1) (by grind) u3.lo u3.hi ysd yhi u4.lo u4.hi u5.lo u5.hi
  have Yp0 : 0 ≤ ax * Y / 100 := by have := Rat.mul_nonneg ax0 Y0; grind
  have nz : 0 < M5 → N ≠ 0 ∧ N2 ≠ 0 := fun h => by
    have hpos : 0 < Mine.mg M5 e5 := Rat.mul_pos (Rat.natCast_pos.mpr h) (p2_pos _)
    constructor
    · intro h0
      have : ax = 0 := by rw [hax, h0]; exact tenQ_zero _
      rw [this, Rat.zero_mul] at hq2
      grind
    · intro h0
      have : Y = 0 := by rw [hY, h0]; exact tenQ_zero _
      rw [this, Rat.mul_zero] at hq2
      grind
  have axp : N ≠ 0 → 0 < ax := fun h => by have := (rx h).1; grind
  have bitsA : ∀ {s e : Int} {M : Nat} {lo : Bool} {v : V}, Ap lo (P + 20) 300 (sq (bn neg) ax) ax v s M e → 0 < M → 0 < M5 → (bl M : Int) + e ≤ bl M5 + e5 + 17 ∧ (bl M5 : Int) + e5 ≤ bl M + e + 10 := fun A hM h5 =>
    bits_p hM h5 (axp (nz h5).1) hep.1 hep.2 A.mgh A.mgl hq1 hq2 (ry (nz h5).2).1 (ry (nz h5).2).2
  have nA : Near P Ma ea M5 e5 := near_of la l5 hP' (by omega) (by omega) (by omega) (by omega) fun h1 h2 => .inr (bitsA Aa h1 h2)
  have nB : Near P Mb eb M5 e5 := near_of lb l5 hP' (by omega) (by omega) (by omega) (by omega) fun h1 h2 => .inr (bitsA Ab h1 h2)
  have r5 : -400 ≤ e5 ∧ e5 ≤ 400 := by
    rcases Nat.eq_zero_or_pos M5 with h | h
    · rcases m5.hm with k | k
      · omega
      · have := k.2.2; omega
    · have := bitsA Aa (za' (nz h).1) h
      have := bl_pos h
      have := bl_pos (za' (nz h).1)
      omega
  walk_at "nx"
  walk_at "nx"
  walk_at "nx"
  have qy0 : qv 0 M5 e5 = Mine.mg M5 e5 := by unfold qv; rw [if_pos rfl]
  refine ⟨?_, ?_⟩
  · obtain ⟨s, M, e, q⟩ := addv_ap (lo := true) (d0 := 1) (d1 := 0) (s1 := sa) (s2 := 1 - 0) (e1 := ea) (e2 := e5) (M1 := Ma) (M2 := M5) (P := P) (K := 600) (L := 500) ⟨rfl, rfl⟩ Aa.mpf.hs (.inr rfl) hP (by omega) (by omega) (by omega) (by omega) (by omega) (by omega) (by omega)
    rw [qv_neg (.inl rfl), qy0] at q
    exact near_lo hP (by omega) ax0 Yp0 Aa hq1 hq2 q
  · obtain ⟨s, M, e, q⟩ := addv_ap (lo := false) (d0 := 0) (d1 := 1) (s1 := sb) (s2 := 0) (e1 := eb) (e2 := e5) (M1 := Mb) (M2 := M5) (P := P) (K := 600) (L := 500) ⟨rfl, rfl⟩ Ab.mpf.hs (.inl rfl) hP (by omega) (by omega) (by omega) (by omega) (by omega) (by omega) (by omega)
    rw [qy0] at q
    exact near_hi hP (by omega) ax0 Yp0 Ab hq1 hq2 q
end

end
section
local macro_rules | `(tactic| walk_at "exmore") => `(tactic| ((with_reducible refine' ex_swap2 ?hs ?hk ?h1); (case hs => (intro; kernel_rfl)); (case h1 => (intro; rfl))))
local macro_rules | `(tactic| walk_at "m0") => `(tactic| ((with_reducible show (∃ _ _, V.tup _ = V.tup _ ∧ _)); (with_reducible refine ⟨_, _, rfl, ?_⟩)))
local macro_rules | `(tactic| walk_at "tst") => `(tactic| (with_reducible refine tst_if ?_))
local macro_rules | `(tactic| walk_at "s4") => `(tactic| (first | (case h4 => walk_at "side") | skip))
local macro_rules | `(tactic| walk_at "side") => `(tactic| first | (with_reducible assumption) | (exact Nat.le_of_ble_eq_true rfl) | omega | (simp only [Str.length_append]; omega) | decide | (decide +kernel))
local macro_rules | `(tactic| walk_at "asm") => `(tactic| first | (with_reducible assumption) | (decide +kernel))
local macro_rules | `(tactic| walk_at "evmore") => `(tactic| first
  | ((with_reducible refine' ev_replace ?hk ?h1 ?h2 ?h3 ?h4 ?h5); (case h1 => (decide +kernel)); (case h2 => (decide +kernel)); (case h3 => (intro; rfl)); (case h4 => (intro; rfl)); (case h5 => rfl))
  | ((with_reducible show Ev _ _ _ (Expr.Call (Expr.Attribute _ (Str.ofString "lower") _) _ _ _) _ _ _); (refine' ev_meth0 PySem.F.plainAttrs_str PySem.F.slot_str_lower PySem.F.type_str_lower ?hk ?h1 ?h2); (case h1 => (intro; rfl)); (case h2 => rfl))
  | ((with_reducible show Ev _ _ _ (Expr.Call (Expr.Attribute _ (Str.ofString "strip") _) _ _ _) _ _ _); (refine' ev_meth0 PySem.F.plainAttrs_str PySem.F.slot_str_strip PySem.F.type_str_strip ?hk ?h1 ?h2); (case h1 => (intro; rfl)); (case h2 => rfl))
  | ((with_reducible show Ev _ _ _ (Expr.Call (Expr.Attribute _ (Str.ofString "rstrip") _) _ _ _) _ _ _); (refine' ev_meth1 PySem.F.plainAttrs_str PySem.F.slot_str_rstrip PySem.F.type_str_rstrip ?hk ?h1 ?h2 ?h3 ?h4 ?h5); (case h1 => (intro; rfl)); (case h2 => (intro; rfl)); (case h3 => rfl); (case h4 => (intro; rfl)); (case h5 => (intro; rfl)))
  | ((with_reducible show Ev _ _ _ (Expr.Call (Expr.Attribute _ (Str.ofString "split") _) _ _ _) _ _ _); (refine' ev_meth1 PySem.F.plainAttrs_str PySem.F.slot_str_split PySem.F.type_str_split ?hk ?h1 ?h2 ?h3 ?h4 ?h5); (case h1 => (intro; rfl)); (case h2 => (intro; rfl)); (case h3 => rfl); (case h4 => (intro; rfl)); (case h5 => (intro; rfl)))
  | ((with_reducible show Ev _ _ _ (Expr.Call (Expr.Attribute _ (Str.ofString "startswith") _) _ _ _) _ _ _); (refine' ev_meth1 PySem.F.plainAttrs_str PySem.F.slot_str_startswith PySem.F.type_str_startswith ?hk ?h1 ?h2 ?h3 ?h4 ?h5); (case h1 => (intro; rfl)); (case h2 => (intro; rfl)); (case h3 => rfl); (case h4 => (intro; rfl)); (case h5 => (intro; rfl))))
local macro_rules | `(tactic| walk_at "m0") => `(tactic| ((with_reducible show (∃ _ _, V.str _ = V.str _ ∧ _)); (with_reducible refine' ⟨_, _, rfl, ?h1, ?h2, ?hk⟩); (case h1 => walk_at "asm"); (case h2 => walk_at "side")))
local macro_rules | `(tactic| walk_at "cl") => `(tactic| first
  | (with_reducible refine cl_bl10 ?_)
  | ((with_reducible refine' cl_lower ?h1 ?h2 ?hk); (case h1 => walk_at "asm"); walk_at "s2")
  | ((with_reducible refine' cl_strip ?h1 ?h2 ?hk); (case h1 => walk_at "asm"); walk_at "s2")
  | ((with_reducible refine' cl_rstripC ?h1 ?h2 ?hk); (case h1 => walk_at "asm"); walk_at "s2")
  | ((with_reducible refine' cl_split_1 ?h1 ?h2 ?h3 ?hk); (case h1 => (with_reducible assumption)); (case h2 => (decide +kernel)); walk_at "s3")
  | ((with_reducible refine' cl_split_2 ?h1 ?h2 ?h3 ?hk); (case h1 => (with_reducible assumption)); (case h2 => (decide +kernel)); walk_at "s3")
  | ((with_reducible refine' cl_split_3 ?h1 ?h2 ?h3 ?hk); (case h1 => (with_reducible assumption)); (case h2 => (decide +kernel)); walk_at "s3")
  | ((with_reducible refine' cl_lenS ?h1 ?hk); walk_at "s1")
  | ((with_reducible refine' cl_lenL ?hk ?h1); walk_at "s1")
  | ((with_reducible refine' cl_int_text ?h1 ?h2 ?hk); (case h1 => (with_reducible assumption)); walk_at "s2")
  | ((with_reducible refine' cl_int_text2 ?h1 ?h2 ?hk); (case h1 => (with_reducible assumption)); walk_at "s2")
  | ((with_reducible refine' cl_int_no1 ?h1 ?h2); (case h1 => (with_reducible assumption)); (case h2 => (with_reducible assumption)))
  | ((with_reducible refine' cl_int_no2 ?h1 ?h2); (case h1 => (with_reducible assumption)); (case h2 => (with_reducible assumption)))
  | ((with_reducible refine' cl_pow ?h1 ?h2 ?h3 ?hk); (case h1 => decide); (case h2 => decide); (case h3 => exact small_lt_big (by decide))))
local macro_rules | `(tactic| walk_at "opmore") => `(tactic| first
  | ((with_reducible refine' op_addS ?h1 ?h2 ?hk); walk_at "s1"; walk_at "s2")
  | ((with_reducible refine' op_inS ?h1 ?hk); (case h1 => walk_at "asm"))
  | ((with_reducible refine' op_notInS ?h1 ?hk); (case h1 => walk_at "asm"))
  | ((with_reducible refine' sub_lst ?h3 ?h1 ?h2 ?hk ?h5); (case h3 => rfl); (case h1 => decide); (case h2 => decide); (case h5 => (intros; with_unfolding_all rfl))))
local macro_rules | `(tactic| walk_at "prune") => `(tactic| (try first | (exfalso; omega) | (exfalso; with_reducible assumption) | (with_reducible contradiction)))
local macro_rules | `(tactic| walk_at "opmore") => `(tactic| first
  | ((with_reducible refine' sub_strE ?h1 ?h2 ?h3 ?h4 ?hk ?h5); (case h1 => (with_reducible assumption)); (case h2 => omega); (case h3 => omega); (case h4 => omega); (case h5 => (intros; with_unfolding_all rfl))))
local macro_rules | `(tactic| walk_at "exmore") => `(tactic| ((refine' ex_raise_kept ?hv ?hm ?hm2 ?ho ?hx); (case hv => walk_at "get"); (case hm => rfl); (case hm2 => rfl); (case ho => (with_reducible assumption)); (case hx => (with_reducible assumption))))
local macro_rules | `(tactic| walk_at "m0") => `(tactic| ((with_reducible show Asg _ _ _ (Expr.Tuple _ _ _) (V.lst [_, _, _]) _ _ _); (refine asg_many (by decide) (by assumption))))
local macro_rules | `(tactic| walk_at "call") => `(tactic| first
  | ((with_reducible show Cl _ _ _ (Value.ref 257) _ _ _); (with_reducible apply_assumption -exfalso))
  | ((with_reducible show Cl _ _ _ (Value.ref 201) _ _ _); (refine' Cl.mono ?hc ?hk; (case hc => (with_reducible apply_assumption -exfalso)); intro _ _)))
section
variable {w : World} {p : Program} {loose : List Str} {mean : ExcName → Option Value} {mg mb : Str → Option Value} {f : FI} {d : Nat} {X : Prop}

abbrev FSt (w : World) (p : Program) (loose : List Str) (mean : ExcName → Option Value) (mg mb : Str → Option Value) (X : Prop) (x : Str) (P : Int) (rnd : Str) (Φ : V → Prop) : Prop :=
  ∀ {f : FI} {d : Nat}, Cl (GG w p loose mean mg mb) f (d + 6) (.ref 201) [.str x, .int P, .str rnd] Φ X
theorem way0 {s s1 : Str} {P : Int} {Φa Φb : V → Prop} (ls : s.length ≤ 500) (ls1 : s1.length ≤ 500) (e1 : Txt.replace s (Str.ofString " ") (Str.ofString "") = s1) (c1 : Txt.contains s1 (Str.ofString "+-") = false) (c2 : Txt.contains s1 (Str.ofString "(") = false) (c3 : Txt.contains s1 (Str.ofString ",") = false)
    (hA : FSt w p loose mean mg mb X s1 P (Str.ofString "f") Φa) (hB : FSt w p loose mean mg mb X s1 P (Str.ofString "c") Φb) :
    Cl (GG w p loose mean mg mb) f (d + 14) (.ref 264) [.str s, .int P] (fun v => ∃ a b, v = .tup [a, b] ∧ Φa a ∧ Φb b) X := by
  refine' fn_enter (defs := []) (dvs := []) nsmpi_from_str gsmpi_from_str [Str.ofString "e", Str.ofString "wp", Str.ofString "x", Str.ofString "y", Str.ofString "percent", Str.ofString "a", Str.ofString "b", Str.ofString "z"] 8 ?ho ?hcd ?hbind ?hns ?hlen ?hok .nil ?hco ?hgen ?hcell ?hρ ?hb
  walk_at "enter"
  case hbind => (intro s vals X hl; match vals, hl with | [_, _], _ => exact BindsTo.of_eq rfl)
  refine exs_excOf (ρs := fun v => [some (.str s), some (.int P), some v, none, none, none, none, none, none, none]) rfl rfl rfl (by decide +kernel) (blValueError _) (by walk_at "inl") (by intro v; walk_at "set") ?_ ?_
  · refine ev_bin ?_
    repeat' walk_at "m1"
    refine op_msg (by omega) fun y => rfl
  intro a o hExc
  repeat' walk_at "ms"
  all_goals exact ⟨by assumption, by assumption⟩
theorem way1 {s s1 s2 s3 x y : Str} {P : Int} {Φa Φb : V → Prop} (ls : s.length ≤ 500) (ls1 : s1.length ≤ 500) (ls0 : 1 ≤ s1.length) (ls2 : s2.length ≤ 500) (ls3 : s3.length ≤ 500) (e1 : Txt.replace s (Str.ofString " ") (Str.ofString "") = s1) (c1 : Txt.contains s1 (Str.ofString "+-") = false) (c2 : Txt.contains s1 (Str.ofString "(") = false) (c3 : Txt.contains s1 (Str.ofString ",") = true)
    (c4 : Txt.contains s1 (Str.ofString "[") = true) (c5 : Txt.contains s1 (Str.ofString "]") = true) (i1 : Txt.item s1 0 = Str.ofString "[") (e2 : Txt.replace s1 (Str.ofString "[") (Str.ofString "") = s2) (e3 : Txt.replace s2 (Str.ofString "]") (Str.ofString "") = s3)
    (e4 : Txt.split s3 (Str.ofString ",") = [x, y])
    (hA : FSt w p loose mean mg mb X x P (Str.ofString "f") Φa) (hB : FSt w p loose mean mg mb X y P (Str.ofString "c") Φb) :
    Cl (GG w p loose mean mg mb) f (d + 14) (.ref 264) [.str s, .int P] (fun v => ∃ a b, v = .tup [a, b] ∧ Φa a ∧ Φb b) X := by
  refine' fn_enter (defs := []) (dvs := []) nsmpi_from_str gsmpi_from_str [Str.ofString "e", Str.ofString "wp", Str.ofString "x", Str.ofString "y", Str.ofString "percent", Str.ofString "a", Str.ofString "b", Str.ofString "z"] 8 ?ho ?hcd ?hbind ?hns ?hlen ?hok .nil ?hco ?hgen ?hcell ?hρ ?hb
  walk_at "enter"
  case hbind => (intro s vals X hl; match vals, hl with | [_, _], _ => exact BindsTo.of_eq rfl)
  refine exs_excOf (ρs := fun v => [some (.str s), some (.int P), some v, none, none, none, none, none, none, none]) rfl rfl rfl (by decide +kernel) (blValueError _) (by walk_at "inl") (by intro v; walk_at "set") ?_ ?_
  · refine ev_bin ?_
    repeat' walk_at "m1"
    refine op_msg (by omega) fun y => rfl
  intro a o hExc
  repeat' walk_at "ms"
  all_goals exact ⟨by assumption, by assumption⟩
theorem way2 {s s1 x y0 y z0 z e c0 : Str} {P : Int} {Φa Φb : V → Prop} (ls : s.length ≤ 500) (ls1 : s1.length ≤ 500) (ls0 : 1 ≤ s1.length) (lx : x.length ≤ 500) (ly0 : y0.length ≤ 500) (ly : y.length ≤ 500) (lz0 : z0.length ≤ 500) (lz : z.length ≤ 500) (le : e.length ≤ 500)
    (e1 : Txt.replace s (Str.ofString " ") (Str.ofString "") = s1) (c1 : Txt.contains s1 (Str.ofString "+-") = false) (c2 : Txt.contains s1 (Str.ofString "(") = false) (c3 : Txt.contains s1 (Str.ofString ",") = true)
    (c4 : Txt.contains s1 (Str.ofString "[") = true) (c5 : Txt.contains s1 (Str.ofString "]") = true) (i1 : Txt.item s1 0 = c0) (n0 : ¬ c0 = Str.ofString "[") (e2 : Txt.split s1 (Str.ofString "[") = [x, y0]) (e3 : Txt.split y0 (Str.ofString ",") = [y, z0])
    (he : (Txt.contains s1 (Str.ofString "e") = true ∧ Txt.split z0 (Str.ofString "]") = [z, e]) ∨ (Txt.contains s1 (Str.ofString "e") = false ∧ Txt.rstripChars z0 (Str.ofString "]") = z ∧ e = Str.ofString ""))
    (hA : FSt w p loose mean mg mb X (x ++ y ++ e) P (Str.ofString "f") Φa) (hB : FSt w p loose mean mg mb X (x ++ z ++ e) P (Str.ofString "c") Φb) :
    Cl (GG w p loose mean mg mb) f (d + 14) (.ref 264) [.str s, .int P] (fun v => ∃ a b, v = .tup [a, b] ∧ Φa a ∧ Φb b) X := by
  refine' fn_enter (defs := []) (dvs := []) nsmpi_from_str gsmpi_from_str [Str.ofString "e", Str.ofString "wp", Str.ofString "x", Str.ofString "y", Str.ofString "percent", Str.ofString "a", Str.ofString "b", Str.ofString "z"] 8 ?ho ?hcd ?hbind ?hns ?hlen ?hok .nil ?hco ?hgen ?hcell ?hρ ?hb
  walk_at "enter"
  case hbind => (intro s vals X hl; match vals, hl with | [_, _], _ => exact BindsTo.of_eq rfl)
  refine exs_excOf (ρs := fun v => [some (.str s), some (.int P), some v, none, none, none, none, none, none, none]) rfl rfl rfl (by decide +kernel) (blValueError _) (by walk_at "inl") (by intro v; walk_at "set") ?_ ?_
  · refine ev_bin ?_
    repeat' walk_at "m1"
    refine op_msg (by omega) fun y => rfl
  intro a o hExc
  rcases he with ⟨ce, e5⟩ | ⟨ce, e5, rfl⟩ <;> (repeat' walk_at "ms")
  all_goals exact ⟨by assumption, by assumption⟩
theorem way3 {s s1 x y : Str} {P : Int} {Φ : V → Prop} (ls : s.length ≤ 500) (ls1 : s1.length ≤ 500) (e1 : Txt.replace s (Str.ofString " ") (Str.ofString "") = s1) (c1 : Txt.contains s1 (Str.ofString "+-") = true) (e2 : Txt.split s1 (Str.ofString "+-") = [x, y])
    (hC : ∀ {f : FI} {d : Nat} {Ψ : V → Prop}, (∀ v, Φ v → Ψ v) → Cl (GG w p loose mean mg mb) f (d + 12) (.ref 257) [.str x, .str y, .bool false, .int P] Ψ X) :
    Cl (GG w p loose mean mg mb) f (d + 14) (.ref 264) [.str s, .int P] Φ X := by
  refine' fn_enter (defs := []) (dvs := []) nsmpi_from_str gsmpi_from_str [Str.ofString "e", Str.ofString "wp", Str.ofString "x", Str.ofString "y", Str.ofString "percent", Str.ofString "a", Str.ofString "b", Str.ofString "z"] 8 ?ho ?hcd ?hbind ?hns ?hlen ?hok .nil ?hco ?hgen ?hcell ?hρ ?hb
  walk_at "enter"
  case hbind => (intro s vals X hl; match vals, hl with | [_, _], _ => exact BindsTo.of_eq rfl)
  refine exs_excOf (ρs := fun v => [some (.str s), some (.int P), some v, none, none, none, none, none, none, none]) rfl rfl rfl (by decide +kernel) (blValueError _) (by walk_at "inl") (by intro v; walk_at "set") ?_ ?_
  · refine ev_bin ?_
    repeat' walk_at "m1"
    refine op_msg (by omega) fun y => rfl
  intro a o hExc
  repeat' walk_at "ms"
  all_goals (intro v hv; exact ⟨_, rfl, hv⟩)
theorem way4 {s s1 s2 x y c0 : Str} {P : Int} {Φ : V → Prop} (ls : s.length ≤ 500) (ls1 : s1.length ≤ 500) (ls0 : 1 ≤ s1.length) (ls2 : s2.length ≤ 500) (ls3 : 1 ≤ s2.length) (e1 : Txt.replace s (Str.ofString " ") (Str.ofString "") = s1) (c1 : Txt.contains s1 (Str.ofString "+-") = false) (c2 : Txt.contains s1 (Str.ofString "(") = true)
    (i1 : Txt.item s1 0 = c0) (n0 : ¬ c0 = Str.ofString "(") (c3 : Txt.contains s1 (Str.ofString ")") = true) (e2 : Txt.replace s1 (Str.ofString ")") (Str.ofString "") = s2) (c4 : Txt.contains s2 (Str.ofString "%") = false) (e3 : Txt.split s2 (Str.ofString "(") = [x, y])
    (hC : ∀ {f : FI} {d : Nat} {Ψ : V → Prop}, (∀ v, Φ v → Ψ v) → Cl (GG w p loose mean mg mb) f (d + 12) (.ref 257) [.str x, .str y, .bool false, .int P] Ψ X) :
    Cl (GG w p loose mean mg mb) f (d + 14) (.ref 264) [.str s, .int P] Φ X := by
  refine' fn_enter (defs := []) (dvs := []) nsmpi_from_str gsmpi_from_str [Str.ofString "e", Str.ofString "wp", Str.ofString "x", Str.ofString "y", Str.ofString "percent", Str.ofString "a", Str.ofString "b", Str.ofString "z"] 8 ?ho ?hcd ?hbind ?hns ?hlen ?hok .nil ?hco ?hgen ?hcell ?hρ ?hb
  walk_at "enter"
  case hbind => (intro s vals X hl; match vals, hl with | [_, _], _ => exact BindsTo.of_eq rfl)
  refine exs_excOf (ρs := fun v => [some (.str s), some (.int P), some v, none, none, none, none, none, none, none]) rfl rfl rfl (by decide +kernel) (blValueError _) (by walk_at "inl") (by intro v; walk_at "set") ?_ ?_
  · refine ev_bin ?_
    repeat' walk_at "m1"
    refine op_msg (by omega) fun y => rfl
  intro a o hExc
  repeat' walk_at "ms"
  all_goals (intro v hv; exact ⟨_, rfl, hv⟩)
theorem way5 {s s1 s2 s3 x y c0 : Str} {P : Int} {Φ : V → Prop} (ls : s.length ≤ 500) (ls1 : s1.length ≤ 500) (ls0 : 1 ≤ s1.length) (ls2 : s2.length ≤ 500) (ls3 : 1 ≤ s2.length) (ls4 : s3.length ≤ 500) (e1 : Txt.replace s (Str.ofString " ") (Str.ofString "") = s1) (c1 : Txt.contains s1 (Str.ofString "+-") = false) (c2 : Txt.contains s1 (Str.ofString "(") = true)
    (i1 : Txt.item s1 0 = c0) (n0 : ¬ c0 = Str.ofString "(") (c3 : Txt.contains s1 (Str.ofString ")") = true) (e2 : Txt.replace s1 (Str.ofString ")") (Str.ofString "") = s2) (c4 : Txt.contains s2 (Str.ofString "%") = true)
    (i2 : Txt.item s2 (-1) = Str.ofString "%") (e4 : Txt.replace s2 (Str.ofString "%") (Str.ofString "") = s3) (e3 : Txt.split s3 (Str.ofString "(") = [x, y])
    (hC : ∀ {f : FI} {d : Nat} {Ψ : V → Prop}, (∀ v, Φ v → Ψ v) → Cl (GG w p loose mean mg mb) f (d + 12) (.ref 257) [.str x, .str y, .bool true, .int P] Ψ X) :
    Cl (GG w p loose mean mg mb) f (d + 14) (.ref 264) [.str s, .int P] Φ X := by
  refine' fn_enter (defs := []) (dvs := []) nsmpi_from_str gsmpi_from_str [Str.ofString "e", Str.ofString "wp", Str.ofString "x", Str.ofString "y", Str.ofString "percent", Str.ofString "a", Str.ofString "b", Str.ofString "z"] 8 ?ho ?hcd ?hbind ?hns ?hlen ?hok .nil ?hco ?hgen ?hcell ?hρ ?hb
  walk_at "enter"
  case hbind => (intro s vals X hl; match vals, hl with | [_, _], _ => exact BindsTo.of_eq rfl)
  refine exs_excOf (ρs := fun v => [some (.str s), some (.int P), some v, none, none, none, none, none, none, none]) rfl rfl rfl (by decide +kernel) (blValueError _) (by walk_at "inl") (by intro v; walk_at "set") ?_ ?_
  · refine ev_bin ?_
    repeat' walk_at "m1"
    refine op_msg (by omega) fun y => rfl
  intro a o hExc
  repeat' walk_at "ms"
  all_goals (intro v hv; exact ⟨_, rfl, hv⟩)
end

end
section
local macro_rules | `(tactic| walk_at "exmore") => `(tactic| ((with_reducible refine' ex_swap2 ?hs ?hk ?h1); (case hs => (intro; kernel_rfl)); (case h1 => (intro; rfl))))
local macro_rules | `(tactic| walk_at "m0") => `(tactic| ((with_reducible show (∃ _ _, V.tup _ = V.tup _ ∧ _)); (with_reducible refine ⟨_, _, rfl, ?_⟩)))
local macro_rules | `(tactic| walk_at "tst") => `(tactic| (with_reducible refine tst_if ?_))
local macro_rules | `(tactic| walk_at "s4") => `(tactic| (first | (case h4 => walk_at "side") | skip))
local macro_rules | `(tactic| walk_at "side") => `(tactic| first | (with_reducible assumption) | (exact Nat.le_of_ble_eq_true rfl) | omega | (simp only [Str.length_append]; omega) | decide | (decide +kernel))
local macro_rules | `(tactic| walk_at "asm") => `(tactic| first | (with_reducible assumption) | (decide +kernel))
local macro_rules | `(tactic| walk_at "evmore") => `(tactic| first
  | ((with_reducible refine' ev_replace ?hk ?h1 ?h2 ?h3 ?h4 ?h5); (case h1 => (decide +kernel)); (case h2 => (decide +kernel)); (case h3 => (intro; rfl)); (case h4 => (intro; rfl)); (case h5 => rfl))
  | ((with_reducible show Ev _ _ _ (Expr.Call (Expr.Attribute _ (Str.ofString "lower") _) _ _ _) _ _ _); (refine' ev_meth0 PySem.F.plainAttrs_str PySem.F.slot_str_lower PySem.F.type_str_lower ?hk ?h1 ?h2); (case h1 => (intro; rfl)); (case h2 => rfl))
  | ((with_reducible show Ev _ _ _ (Expr.Call (Expr.Attribute _ (Str.ofString "strip") _) _ _ _) _ _ _); (refine' ev_meth0 PySem.F.plainAttrs_str PySem.F.slot_str_strip PySem.F.type_str_strip ?hk ?h1 ?h2); (case h1 => (intro; rfl)); (case h2 => rfl))
  | ((with_reducible show Ev _ _ _ (Expr.Call (Expr.Attribute _ (Str.ofString "rstrip") _) _ _ _) _ _ _); (refine' ev_meth1 PySem.F.plainAttrs_str PySem.F.slot_str_rstrip PySem.F.type_str_rstrip ?hk ?h1 ?h2 ?h3 ?h4 ?h5); (case h1 => (intro; rfl)); (case h2 => (intro; rfl)); (case h3 => rfl); (case h4 => (intro; rfl)); (case h5 => (intro; rfl)))
  | ((with_reducible show Ev _ _ _ (Expr.Call (Expr.Attribute _ (Str.ofString "split") _) _ _ _) _ _ _); (refine' ev_meth1 PySem.F.plainAttrs_str PySem.F.slot_str_split PySem.F.type_str_split ?hk ?h1 ?h2 ?h3 ?h4 ?h5); (case h1 => (intro; rfl)); (case h2 => (intro; rfl)); (case h3 => rfl); (case h4 => (intro; rfl)); (case h5 => (intro; rfl)))
  | ((with_reducible show Ev _ _ _ (Expr.Call (Expr.Attribute _ (Str.ofString "startswith") _) _ _ _) _ _ _); (refine' ev_meth1 PySem.F.plainAttrs_str PySem.F.slot_str_startswith PySem.F.type_str_startswith ?hk ?h1 ?h2 ?h3 ?h4 ?h5); (case h1 => (intro; rfl)); (case h2 => (intro; rfl)); (case h3 => rfl); (case h4 => (intro; rfl)); (case h5 => (intro; rfl))))
local macro_rules | `(tactic| walk_at "m0") => `(tactic| ((with_reducible show (∃ _ _, V.str _ = V.str _ ∧ _)); (with_reducible refine' ⟨_, _, rfl, ?h1, ?h2, ?hk⟩); (case h1 => walk_at "asm"); (case h2 => walk_at "side")))
local macro_rules | `(tactic| walk_at "cl") => `(tactic| first
  | (with_reducible refine cl_bl10 ?_)
  | ((with_reducible refine' cl_lower ?h1 ?h2 ?hk); (case h1 => walk_at "asm"); walk_at "s2")
  | ((with_reducible refine' cl_strip ?h1 ?h2 ?hk); (case h1 => walk_at "asm"); walk_at "s2")
  | ((with_reducible refine' cl_rstripC ?h1 ?h2 ?hk); (case h1 => walk_at "asm"); walk_at "s2")
  | ((with_reducible refine' cl_split_1 ?h1 ?h2 ?h3 ?hk); (case h1 => (with_reducible assumption)); (case h2 => (decide +kernel)); walk_at "s3")
  | ((with_reducible refine' cl_split_2 ?h1 ?h2 ?h3 ?hk); (case h1 => (with_reducible assumption)); (case h2 => (decide +kernel)); walk_at "s3")
  | ((with_reducible refine' cl_split_3 ?h1 ?h2 ?h3 ?hk); (case h1 => (with_reducible assumption)); (case h2 => (decide +kernel)); walk_at "s3")
  | ((with_reducible refine' cl_lenS ?h1 ?hk); walk_at "s1")
  | ((with_reducible refine' cl_lenL ?hk ?h1); walk_at "s1")
  | ((with_reducible refine' cl_int_text ?h1 ?h2 ?hk); (case h1 => (with_reducible assumption)); walk_at "s2")
  | ((with_reducible refine' cl_int_text2 ?h1 ?h2 ?hk); (case h1 => (with_reducible assumption)); walk_at "s2")
  | ((with_reducible refine' cl_int_no1 ?h1 ?h2); (case h1 => (with_reducible assumption)); (case h2 => (with_reducible assumption)))
  | ((with_reducible refine' cl_int_no2 ?h1 ?h2); (case h1 => (with_reducible assumption)); (case h2 => (with_reducible assumption)))
  | ((with_reducible refine' cl_pow ?h1 ?h2 ?h3 ?hk); (case h1 => decide); (case h2 => decide); (case h3 => exact small_lt_big (by decide))))
local macro_rules | `(tactic| walk_at "opmore") => `(tactic| first
  | ((with_reducible refine' op_addS ?h1 ?h2 ?hk); walk_at "s1"; walk_at "s2")
  | ((with_reducible refine' op_inS ?h1 ?hk); (case h1 => walk_at "asm"))
  | ((with_reducible refine' op_notInS ?h1 ?hk); (case h1 => walk_at "asm"))
  | ((with_reducible refine' sub_lst ?h3 ?h1 ?h2 ?hk ?h5); (case h3 => rfl); (case h1 => decide); (case h2 => decide); (case h5 => (intros; with_unfolding_all rfl))))
local macro_rules | `(tactic| walk_at "prune") => `(tactic| (try first | (exfalso; omega) | (exfalso; with_reducible assumption) | (with_reducible contradiction)))
local macro_rules | `(tactic| walk_at "opmore") => `(tactic| first
  | ((with_reducible refine' sub_strE ?h1 ?h2 ?h3 ?h4 ?hk ?h5); (case h1 => (with_reducible assumption)); (case h2 => omega); (case h3 => omega); (case h4 => omega); (case h5 => (intros; with_unfolding_all rfl))))
local macro_rules | `(tactic| walk_at "exmore") => `(tactic| ((refine' ex_raise_kept ?hv ?hm ?hm2 ?ho ?hx); (case hv => walk_at "get"); (case hm => rfl); (case hm2 => rfl); (case ho => (with_reducible assumption)); (case hx => (with_reducible assumption))))
local macro_rules | `(tactic| walk_at "m0") => `(tactic| ((with_reducible show Asg _ _ _ (Expr.Tuple _ _ _) (V.lst [_, _, _]) _ _ _); (refine asg_many (by decide) (by assumption))))
local macro_rules | `(tactic| walk_at "call") => `(tactic| first
  | ((with_reducible show Cl _ _ _ (Value.ref 257) _ _ _); (with_reducible apply_assumption -exfalso))
  | ((with_reducible show Cl _ _ _ (Value.ref 201) _ _ _); (refine' Cl.mono ?hc ?hk; (case hc => (with_reducible apply_assumption -exfalso)); intro _ _)))
section
variable {w : World} {p : Program} {loose : List Str} {mean : ExcName → Option Value} {mg mb : Str → Option Value} {f : FI} {d : Nat} {X : Prop}
theorem odd_r0 {Φ : V → Prop} (hX : X) : Cl (GG w p loose mean mg mb) f (d + 14) (.ref 264) [.str (Str.ofString "1,2"), .int 20] Φ X := by
  have l0 : (Str.ofString "1,2").length ≤ 500 := by decide +kernel
  have l1 : 1 ≤ (Str.ofString "1,2").length := by decide +kernel
  have e0 : Txt.replace (Str.ofString "1,2") (Str.ofString " ") (Str.ofString "") = (Str.ofString "1,2") := by decide +kernel
  have q0 : Txt.contains (Str.ofString "1,2") (Str.ofString "+-") = false := by decide +kernel
  have q1 : Txt.contains (Str.ofString "1,2") (Str.ofString "(") = false := by decide +kernel
  have q2 : Txt.contains (Str.ofString "1,2") (Str.ofString ",") = true := by decide +kernel
  have q3 : Txt.contains (Str.ofString "1,2") (Str.ofString "[") = false := by decide +kernel
  refine' fn_enter (defs := []) (dvs := []) nsmpi_from_str gsmpi_from_str [Str.ofString "e", Str.ofString "wp", Str.ofString "x", Str.ofString "y", Str.ofString "percent", Str.ofString "a", Str.ofString "b", Str.ofString "z"] 8 ?ho ?hcd ?hbind ?hns ?hlen ?hok .nil ?hco ?hgen ?hcell ?hρ ?hb
  walk_at "enter"
  case hbind => (intro s vals X hl; match vals, hl with | [_, _], _ => exact BindsTo.of_eq rfl)
  refine exs_excOf (ρs := fun v => [some (.str (Str.ofString "1,2")), some (.int 20), some v, none, none, none, none, none, none, none]) rfl rfl rfl (by decide +kernel) (blValueError _) (by walk_at "inl") (by intro v; walk_at "set") ?_ ?_
  · refine ev_bin ?_
    repeat' walk_at "m1"
    refine op_msg (by decide +kernel) fun y => rfl
  intro a o hExc
  repeat' walk_at "ms"
theorem odd_r1 {Φ : V → Prop} (hX : X) : Cl (GG w p loose mean mg mb) f (d + 14) (.ref 264) [.str (Str.ofString "(1,2)"), .int 20] Φ X := by
  have l0 : (Str.ofString "(1,2)").length ≤ 500 := by decide +kernel
  have l1 : 1 ≤ (Str.ofString "(1,2)").length := by decide +kernel
  have e0 : Txt.replace (Str.ofString "(1,2)") (Str.ofString " ") (Str.ofString "") = (Str.ofString "(1,2)") := by decide +kernel
  have q0 : Txt.contains (Str.ofString "(1,2)") (Str.ofString "+-") = false := by decide +kernel
  have q1 : Txt.contains (Str.ofString "(1,2)") (Str.ofString "(") = true := by decide +kernel
  have q2 : Txt.item (Str.ofString "(1,2)") 0 = (Str.ofString "(") := by decide +kernel
  refine' fn_enter (defs := []) (dvs := []) nsmpi_from_str gsmpi_from_str [Str.ofString "e", Str.ofString "wp", Str.ofString "x", Str.ofString "y", Str.ofString "percent", Str.ofString "a", Str.ofString "b", Str.ofString "z"] 8 ?ho ?hcd ?hbind ?hns ?hlen ?hok .nil ?hco ?hgen ?hcell ?hρ ?hb
  walk_at "enter"
  case hbind => (intro s vals X hl; match vals, hl with | [_, _], _ => exact BindsTo.of_eq rfl)
  refine exs_excOf (ρs := fun v => [some (.str (Str.ofString "(1,2)")), some (.int 20), some v, none, none, none, none, none, none, none]) rfl rfl rfl (by decide +kernel) (blValueError _) (by walk_at "inl") (by intro v; walk_at "set") ?_ ?_
  · refine ev_bin ?_
    repeat' walk_at "m1"
    refine op_msg (by decide +kernel) fun y => rfl
  intro a o hExc
  repeat' walk_at "ms"
theorem odd_r2 {Φ : V → Prop} (hX : X) : Cl (GG w p loose mean mg mb) f (d + 14) (.ref 264) [.str (Str.ofString "1(2"), .int 20] Φ X := by
  have l0 : (Str.ofString "1(2").length ≤ 500 := by decide +kernel
  have l1 : 1 ≤ (Str.ofString "1(2").length := by decide +kernel
  have e0 : Txt.replace (Str.ofString "1(2") (Str.ofString " ") (Str.ofString "") = (Str.ofString "1(2") := by decide +kernel
  have q0 : Txt.contains (Str.ofString "1(2") (Str.ofString "+-") = false := by decide +kernel
  have q1 : Txt.contains (Str.ofString "1(2") (Str.ofString "(") = true := by decide +kernel
  have q2 : Txt.item (Str.ofString "1(2") 0 = (Str.ofString "1") := by decide +kernel
  have q3 : ¬ (Str.ofString "1") = (Str.ofString "(") := by decide +kernel
  have q4 : Txt.contains (Str.ofString "1(2") (Str.ofString ")") = false := by decide +kernel
  refine' fn_enter (defs := []) (dvs := []) nsmpi_from_str gsmpi_from_str [Str.ofString "e", Str.ofString "wp", Str.ofString "x", Str.ofString "y", Str.ofString "percent", Str.ofString "a", Str.ofString "b", Str.ofString "z"] 8 ?ho ?hcd ?hbind ?hns ?hlen ?hok .nil ?hco ?hgen ?hcell ?hρ ?hb
  walk_at "enter"
  case hbind => (intro s vals X hl; match vals, hl with | [_, _], _ => exact BindsTo.of_eq rfl)
  refine exs_excOf (ρs := fun v => [some (.str (Str.ofString "1(2")), some (.int 20), some v, none, none, none, none, none, none, none]) rfl rfl rfl (by decide +kernel) (blValueError _) (by walk_at "inl") (by intro v; walk_at "set") ?_ ?_
  · refine ev_bin ?_
    repeat' walk_at "m1"
    refine op_msg (by decide +kernel) fun y => rfl
  intro a o hExc
  repeat' walk_at "ms"
theorem odd_r3 {Φ : V → Prop} (hX : X) : Cl (GG w p loose mean mg mb) f (d + 14) (.ref 264) [.str (Str.ofString "5(1%2)"), .int 20] Φ X := by
  have l0 : (Str.ofString "5(1%2)").length ≤ 500 := by decide +kernel
  have l1 : 1 ≤ (Str.ofString "5(1%2)").length := by decide +kernel
  have e0 : Txt.replace (Str.ofString "5(1%2)") (Str.ofString " ") (Str.ofString "") = (Str.ofString "5(1%2)") := by decide +kernel
  have q0 : Txt.contains (Str.ofString "5(1%2)") (Str.ofString "+-") = false := by decide +kernel
  have q1 : Txt.contains (Str.ofString "5(1%2)") (Str.ofString "(") = true := by decide +kernel
  have q2 : Txt.item (Str.ofString "5(1%2)") 0 = (Str.ofString "5") := by decide +kernel
  have q3 : ¬ (Str.ofString "5") = (Str.ofString "(") := by decide +kernel
  have q4 : Txt.contains (Str.ofString "5(1%2)") (Str.ofString ")") = true := by decide +kernel
  have q5 : Txt.replace (Str.ofString "5(1%2)") (Str.ofString ")") (Str.ofString "") = (Str.ofString "5(1%2") := by decide +kernel
  have q6 : (Str.ofString "5(1%2").length ≤ 500 := by decide +kernel
  have q7 : 1 ≤ (Str.ofString "5(1%2").length := by decide +kernel
  have q8 : Txt.contains (Str.ofString "5(1%2") (Str.ofString "%") = true := by decide +kernel
  have q9 : Txt.item (Str.ofString "5(1%2") (-1) = (Str.ofString "2") := by decide +kernel
  have q10 : ¬ (Str.ofString "2") = (Str.ofString "%") := by decide +kernel
  refine' fn_enter (defs := []) (dvs := []) nsmpi_from_str gsmpi_from_str [Str.ofString "e", Str.ofString "wp", Str.ofString "x", Str.ofString "y", Str.ofString "percent", Str.ofString "a", Str.ofString "b", Str.ofString "z"] 8 ?ho ?hcd ?hbind ?hns ?hlen ?hok .nil ?hco ?hgen ?hcell ?hρ ?hb
  walk_at "enter"
  case hbind => (intro s vals X hl; match vals, hl with | [_, _], _ => exact BindsTo.of_eq rfl)
  refine exs_excOf (ρs := fun v => [some (.str (Str.ofString "5(1%2)")), some (.int 20), some v, none, none, none, none, none, none, none]) rfl rfl rfl (by decide +kernel) (blValueError _) (by walk_at "inl") (by intro v; walk_at "set") ?_ ?_
  · refine ev_bin ?_
    repeat' walk_at "m1"
    refine op_msg (by decide +kernel) fun y => rfl
  intro a o hExc
  repeat' walk_at "ms"
theorem odd_r4 {Φ : V → Prop} (hX : X) : Cl (GG w p loose mean mg mb) f (d + 14) (.ref 264) [.str (Str.ofString "1[2,3"), .int 20] Φ X := by
  have l0 : (Str.ofString "1[2,3").length ≤ 500 := by decide +kernel
  have l1 : 1 ≤ (Str.ofString "1[2,3").length := by decide +kernel
  have e0 : Txt.replace (Str.ofString "1[2,3") (Str.ofString " ") (Str.ofString "") = (Str.ofString "1[2,3") := by decide +kernel
  have q0 : Txt.contains (Str.ofString "1[2,3") (Str.ofString "+-") = false := by decide +kernel
  have q1 : Txt.contains (Str.ofString "1[2,3") (Str.ofString "(") = false := by decide +kernel
  have q2 : Txt.contains (Str.ofString "1[2,3") (Str.ofString ",") = true := by decide +kernel
  have q3 : Txt.contains (Str.ofString "1[2,3") (Str.ofString "[") = true := by decide +kernel
  have q4 : Txt.contains (Str.ofString "1[2,3") (Str.ofString "]") = false := by decide +kernel
  refine' fn_enter (defs := []) (dvs := []) nsmpi_from_str gsmpi_from_str [Str.ofString "e", Str.ofString "wp", Str.ofString "x", Str.ofString "y", Str.ofString "percent", Str.ofString "a", Str.ofString "b", Str.ofString "z"] 8 ?ho ?hcd ?hbind ?hns ?hlen ?hok .nil ?hco ?hgen ?hcell ?hρ ?hb
  walk_at "enter"
  case hbind => (intro s vals X hl; match vals, hl with | [_, _], _ => exact BindsTo.of_eq rfl)
  refine exs_excOf (ρs := fun v => [some (.str (Str.ofString "1[2,3")), some (.int 20), some v, none, none, none, none, none, none, none]) rfl rfl rfl (by decide +kernel) (blValueError _) (by walk_at "inl") (by intro v; walk_at "set") ?_ ?_
  · refine ev_bin ?_
    repeat' walk_at "m1"
    refine op_msg (by decide +kernel) fun y => rfl
  intro a o hExc
  repeat' walk_at "ms"
theorem odd_r5 {Φ : V → Prop} (hX : X) : Cl (GG w p loose mean mg mb) f (d + 14) (.ref 264) [.str (Str.ofString "1+-2+-3"), .int 20] Φ X := by
  have l0 : (Str.ofString "1+-2+-3").length ≤ 500 := by decide +kernel
  have l1 : 1 ≤ (Str.ofString "1+-2+-3").length := by decide +kernel
  have e0 : Txt.replace (Str.ofString "1+-2+-3") (Str.ofString " ") (Str.ofString "") = (Str.ofString "1+-2+-3") := by decide +kernel
  have q0 : Txt.contains (Str.ofString "1+-2+-3") (Str.ofString "+-") = true := by decide +kernel
  have q1 : Txt.split (Str.ofString "1+-2+-3") (Str.ofString "+-") = [(Str.ofString "1"), (Str.ofString "2"), (Str.ofString "3")] := by decide +kernel
  refine' fn_enter (defs := []) (dvs := []) nsmpi_from_str gsmpi_from_str [Str.ofString "e", Str.ofString "wp", Str.ofString "x", Str.ofString "y", Str.ofString "percent", Str.ofString "a", Str.ofString "b", Str.ofString "z"] 8 ?ho ?hcd ?hbind ?hns ?hlen ?hok .nil ?hco ?hgen ?hcell ?hρ ?hb
  walk_at "enter"
  case hbind => (intro s vals X hl; match vals, hl with | [_, _], _ => exact BindsTo.of_eq rfl)
  refine exs_excOf (ρs := fun v => [some (.str (Str.ofString "1+-2+-3")), some (.int 20), some v, none, none, none, none, none, none, none]) rfl rfl rfl (by decide +kernel) (blValueError _) (by walk_at "inl") (by intro v; walk_at "set") ?_ ?_
  · refine ev_bin ?_
    repeat' walk_at "m1"
    refine op_msg (by decide +kernel) fun y => rfl
  intro a o hExc
  repeat' walk_at "ms"
theorem fs_o0 : FS (Str.ofString "some") := ⟨by decide +kernel, by decide +kernel, by decide +kernel, by decide +kernel, by decide +kernel, by decide +kernel, by decide +kernel, by decide +kernel, by decide +kernel, by decide +kernel, by decide +kernel, by decide +kernel, by decide +kernel, by decide +kernel, by decide +kernel, by decide +kernel, by decide +kernel⟩
theorem odd_f0 {Φ : V → Prop} (hX : X) : Cl (GG w p loose mean mg mb) f (d + 14) (.ref 264) [.str (Str.ofString "some"), .int 20] Φ X :=
  (way0 (Φa := fun _ => False) (Φb := fun _ => False) (by decide +kernel) (by decide +kernel) (by decide +kernel) (by decide +kernel) (by decide +kernel) (by decide +kernel) (no_from_str_e (a := (Str.ofString "som")) (es := (Str.ofString "")) fs_o0 (by decide +kernel) noInt_a hX) (no_from_str_e (a := (Str.ofString "som")) (es := (Str.ofString "")) fs_o0 (by decide +kernel) noInt_a hX)).mono fun v ⟨_, _, _, h, _⟩ => h.elim
theorem fs_o1 : FS (Str.ofString "") := ⟨by decide +kernel, by decide +kernel, by decide +kernel, by decide +kernel, by decide +kernel, by decide +kernel, by decide +kernel, by decide +kernel, by decide +kernel, by decide +kernel, by decide +kernel, by decide +kernel, by decide +kernel, by decide +kernel, by decide +kernel, by decide +kernel, by decide +kernel⟩
theorem odd_f1 {Φ : V → Prop} (hX : X) : Cl (GG w p loose mean mg mb) f (d + 14) (.ref 264) [.str (Str.ofString ""), .int 20] Φ X :=
  (way0 (Φa := fun _ => False) (Φb := fun _ => False) (by decide +kernel) (by decide +kernel) (by decide +kernel) (by decide +kernel) (by decide +kernel) (by decide +kernel) (no_from_str (x1 := (Str.ofString "")) (k := 0) fs_o1 (by decide +kernel) (.one (by decide +kernel)) noInt_a hX) (no_from_str (x1 := (Str.ofString "")) (k := 0) fs_o1 (by decide +kernel) (.one (by decide +kernel)) noInt_a hX)).mono fun v ⟨_, _, _, h, _⟩ => h.elim
theorem fs_o2 : FS (Str.ofString "1.2.3") := ⟨by decide +kernel, by decide +kernel, by decide +kernel, by decide +kernel, by decide +kernel, by decide +kernel, by decide +kernel, by decide +kernel, by decide +kernel, by decide +kernel, by decide +kernel, by decide +kernel, by decide +kernel, by decide +kernel, by decide +kernel, by decide +kernel, by decide +kernel⟩
theorem odd_f2 {Φ : V → Prop} (hX : X) : Cl (GG w p loose mean mg mb) f (d + 14) (.ref 264) [.str (Str.ofString "1.2.3"), .int 20] Φ X :=
  (way0 (Φa := fun _ => False) (Φb := fun _ => False) (by decide +kernel) (by decide +kernel) (by decide +kernel) (by decide +kernel) (by decide +kernel) (by decide +kernel) (no_from_str (x1 := (Str.ofString "1.2.3")) (k := 0) fs_o2 (by decide +kernel) (.three (a := (Str.ofString "1")) (b := (Str.ofString "2")) (c := (Str.ofString "3")) (by decide +kernel)) noInt_b hX) (no_from_str (x1 := (Str.ofString "1.2.3")) (k := 0) fs_o2 (by decide +kernel) (.three (a := (Str.ofString "1")) (b := (Str.ofString "2")) (c := (Str.ofString "3")) (by decide +kernel)) noInt_b hX)).mono fun v ⟨_, _, _, h, _⟩ => h.elim
theorem fs_o3 : FS (Str.ofString "[1;2]") := ⟨by decide +kernel, by decide +kernel, by decide +kernel, by decide +kernel, by decide +kernel, by decide +kernel, by decide +kernel, by decide +kernel, by decide +kernel, by decide +kernel, by decide +kernel, by decide +kernel, by decide +kernel, by decide +kernel, by decide +kernel, by decide +kernel, by decide +kernel⟩
theorem odd_f3 {Φ : V → Prop} (hX : X) : Cl (GG w p loose mean mg mb) f (d + 14) (.ref 264) [.str (Str.ofString "[1;2]"), .int 20] Φ X :=
  (way0 (Φa := fun _ => False) (Φb := fun _ => False) (by decide +kernel) (by decide +kernel) (by decide +kernel) (by decide +kernel) (by decide +kernel) (by decide +kernel) (no_from_str (x1 := (Str.ofString "[1;2]")) (k := 0) fs_o3 (by decide +kernel) (.one (by decide +kernel)) noInt_c hX) (no_from_str (x1 := (Str.ofString "[1;2]")) (k := 0) fs_o3 (by decide +kernel) (.one (by decide +kernel)) noInt_c hX)).mono fun v ⟨_, _, _, h, _⟩ => h.elim
end

end
section
local macro_rules | `(tactic| walk_at "exmore") => `(tactic| ((with_reducible refine' ex_swap2 ?hs ?hk ?h1); (case hs => (intro; kernel_rfl)); (case h1 => (intro; rfl))))
local macro_rules | `(tactic| walk_at "m0") => `(tactic| ((with_reducible show (∃ _ _, V.tup _ = V.tup _ ∧ _)); (with_reducible refine ⟨_, _, rfl, ?_⟩)))
local macro_rules | `(tactic| walk_at "tst") => `(tactic| (with_reducible refine tst_if ?_))
local macro_rules | `(tactic| walk_at "s4") => `(tactic| (first | (case h4 => walk_at "side") | skip))
local macro_rules | `(tactic| walk_at "side") => `(tactic| first | (with_reducible assumption) | (exact Nat.le_of_ble_eq_true rfl) | omega | (simp only [Str.length_append]; omega) | decide | (decide +kernel))
local macro_rules | `(tactic| walk_at "asm") => `(tactic| first | (with_reducible assumption) | (decide +kernel))
local macro_rules | `(tactic| walk_at "evmore") => `(tactic| first
  | ((with_reducible refine' ev_replace ?hk ?h1 ?h2 ?h3 ?h4 ?h5); (case h1 => (decide +kernel)); (case h2 => (decide +kernel)); (case h3 => (intro; rfl)); (case h4 => (intro; rfl)); (case h5 => rfl))
  | ((with_reducible show Ev _ _ _ (Expr.Call (Expr.Attribute _ (Str.ofString "lower") _) _ _ _) _ _ _); (refine' ev_meth0 PySem.F.plainAttrs_str PySem.F.slot_str_lower PySem.F.type_str_lower ?hk ?h1 ?h2); (case h1 => (intro; rfl)); (case h2 => rfl))
  | ((with_reducible show Ev _ _ _ (Expr.Call (Expr.Attribute _ (Str.ofString "strip") _) _ _ _) _ _ _); (refine' ev_meth0 PySem.F.plainAttrs_str PySem.F.slot_str_strip PySem.F.type_str_strip ?hk ?h1 ?h2); (case h1 => (intro; rfl)); (case h2 => rfl))
  | ((with_reducible show Ev _ _ _ (Expr.Call (Expr.Attribute _ (Str.ofString "rstrip") _) _ _ _) _ _ _); (refine' ev_meth1 PySem.F.plainAttrs_str PySem.F.slot_str_rstrip PySem.F.type_str_rstrip ?hk ?h1 ?h2 ?h3 ?h4 ?h5); (case h1 => (intro; rfl)); (case h2 => (intro; rfl)); (case h3 => rfl); (case h4 => (intro; rfl)); (case h5 => (intro; rfl)))
  | ((with_reducible show Ev _ _ _ (Expr.Call (Expr.Attribute _ (Str.ofString "split") _) _ _ _) _ _ _); (refine' ev_meth1 PySem.F.plainAttrs_str PySem.F.slot_str_split PySem.F.type_str_split ?hk ?h1 ?h2 ?h3 ?h4 ?h5); (case h1 => (intro; rfl)); (case h2 => (intro; rfl)); (case h3 => rfl); (case h4 => (intro; rfl)); (case h5 => (intro; rfl)))
  | ((with_reducible show Ev _ _ _ (Expr.Call (Expr.Attribute _ (Str.ofString "startswith") _) _ _ _) _ _ _); (refine' ev_meth1 PySem.F.plainAttrs_str PySem.F.slot_str_startswith PySem.F.type_str_startswith ?hk ?h1 ?h2 ?h3 ?h4 ?h5); (case h1 => (intro; rfl)); (case h2 => (intro; rfl)); (case h3 => rfl); (case h4 => (intro; rfl)); (case h5 => (intro; rfl))))
local macro_rules | `(tactic| walk_at "m0") => `(tactic| ((with_reducible show (∃ _ _, V.str _ = V.str _ ∧ _)); (with_reducible refine' ⟨_, _, rfl, ?h1, ?h2, ?hk⟩); (case h1 => walk_at "asm"); (case h2 => walk_at "side")))
local macro_rules | `(tactic| walk_at "cl") => `(tactic| first
  | (with_reducible refine cl_bl10 ?_)
  | ((with_reducible refine' cl_lower ?h1 ?h2 ?hk); (case h1 => walk_at "asm"); walk_at "s2")
  | ((with_reducible refine' cl_strip ?h1 ?h2 ?hk); (case h1 => walk_at "asm"); walk_at "s2")
  | ((with_reducible refine' cl_rstripC ?h1 ?h2 ?hk); (case h1 => walk_at "asm"); walk_at "s2")
  | ((with_reducible refine' cl_split_1 ?h1 ?h2 ?h3 ?hk); (case h1 => (with_reducible assumption)); (case h2 => (decide +kernel)); walk_at "s3")
  | ((with_reducible refine' cl_split_2 ?h1 ?h2 ?h3 ?hk); (case h1 => (with_reducible assumption)); (case h2 => (decide +kernel)); walk_at "s3")
  | ((with_reducible refine' cl_split_3 ?h1 ?h2 ?h3 ?hk); (case h1 => (with_reducible assumption)); (case h2 => (decide +kernel)); walk_at "s3")
  | ((with_reducible refine' cl_lenS ?h1 ?hk); walk_at "s1")
  | ((with_reducible refine' cl_lenL ?hk ?h1); walk_at "s1")
  | ((with_reducible refine' cl_int_text ?h1 ?h2 ?hk); (case h1 => (with_reducible assumption)); walk_at "s2")
  | ((with_reducible refine' cl_int_text2 ?h1 ?h2 ?hk); (case h1 => (with_reducible assumption)); walk_at "s2")
  | ((with_reducible refine' cl_int_no1 ?h1 ?h2); (case h1 => (with_reducible assumption)); (case h2 => (with_reducible assumption)))
  | ((with_reducible refine' cl_int_no2 ?h1 ?h2); (case h1 => (with_reducible assumption)); (case h2 => (with_reducible assumption)))
  | ((with_reducible refine' cl_pow ?h1 ?h2 ?h3 ?hk); (case h1 => decide); (case h2 => decide); (case h3 => exact small_lt_big (by decide))))
local macro_rules | `(tactic| walk_at "opmore") => `(tactic| first
  | ((with_reducible refine' op_addS ?h1 ?h2 ?hk); walk_at "s1"; walk_at "s2")
  | ((with_reducible refine' op_inS ?h1 ?hk); (case h1 => walk_at "asm"))
  | ((with_reducible refine' op_notInS ?h1 ?hk); (case h1 => walk_at "asm"))
  | ((with_reducible refine' sub_lst ?h3 ?h1 ?h2 ?hk ?h5); (case h3 => rfl); (case h1 => decide); (case h2 => decide); (case h5 => (intros; with_unfolding_all rfl))))
local macro_rules | `(tactic| walk_at "prune") => `(tactic| (try first | (exfalso; omega) | (exfalso; with_reducible assumption) | (with_reducible contradiction)))
section
variable {w : World} {p : Program} {loose : List Str} {mean : ExcName → Option Value} {mg mb : Str → Option Value} {f : FI} {d : Nat} {X : Prop}

theorem fn_numI {ns : List Int} {i : Int} (hn : ns.length ≤ 100) (h0 : 0 ≤ i) (h1 : i ≤ 100) : Cl (GG w p loose mean mg mb) f (d + 1) (.ref 271) [.lst (ns.map V.int), .int i] (fun v => v = .int (num ns i.toNat)) X := by
  have := fn_law_number (w := w) (p := p) (loose := loose) (mean := mean) (mg := mg) (mb := mb) (f := f) (d := d) (X := X) (ns := ns) (k := i.toNat) hn (by omega)
  rwa [Int.toNat_of_nonneg h0] at this
theorem rep_fold : ∀ (k : Nat) (a : Array Nat) (acc : Array Nat), ((List.replicate k a).foldl (· ++ ·) acc).toList = acc.toList ++ (List.replicate k a.toList).flatten
  | 0, a, acc => by simp
  | k + 1, a, acc => by
    rw [List.replicate_succ, List.foldl_cons, rep_fold k a, Array.toList_append, List.replicate_succ, List.flatten_cons, List.append_assoc]
theorem mul_zeros (k : Nat) : Txt.mul (Str.ofString "0") (k : Int) = T (List.replicate k 48) := by
  have e0 : Str.ofString "0" = T [48] := by decide +kernel
  rw [e0]
  unfold Txt.mul
  by_cases h : (k : Int) < 1
  · have : k = 0 := by omega
    subst this
    rw [if_pos h]; rfl
  · rw [if_neg h]
    split
    · rename_i h1
      have : k = 1 := by
        simp at h1
        rcases h1 with h1 | h1
        · omega
        · exact absurd h1 (by decide)
      subst this
      rfl
    · refine T_of ?_
      show ((List.replicate (k : Int).toNat (T [48]).cps).foldl (· ++ ·) #[]).toList = _
      rw [rep_fold, Int.toNat_natCast]
      show [] ++ (List.replicate k [48]).flatten = _
      rw [List.nil_append]
      clear h
      rename_i h9
      clear h9
      induction k with
      | zero => rfl
      | succ k ih => rw [List.replicate_succ, List.flatten_cons, ih, List.replicate_succ]; rfl
theorem slice_to {l : List Nat} {j : Int} (h0 : 0 ≤ j) (h1 : j ≤ l.length) : Txt.slice (T l) none (some j) = T (l.take j.toNat) := by
  have := StrLaws.sliceText_to (x := T l) (j := j) ⟨h0, by rw [T_toList]; exact h1⟩
  rw [T_toList, List.drop_zero, Int.sub_zero] at this
  exact this
theorem slice_from {l : List Nat} {j : Int} (h0 : 0 ≤ j) (h1 : j ≤ l.length) : Txt.slice (T l) (some j) none = T (l.drop j.toNat) := by
  have := StrLaws.sliceText_from (x := T l) (i := j) ⟨h0, by rw [T_toList]; exact h1⟩
  rw [T_toList] at this
  have e : (l.drop j.toNat).take ((l.length : Int) - j).toNat = l.drop j.toNat := List.take_of_length_le (by rw [List.length_drop]; omega)
  rw [e] at this
  exact this
theorem op_modE {g : Glo} {f : FI} {d : Nat} {X : Prop} {Φ : V → Prop} {a b c : Int} (hb : 0 < b) (e : a % b = c) (h : Φ (.int c)) : Op2 (binaryOp .Mod) g f d (.int a) (.int b) Φ X := op_mod hb (e ▸ h)
theorem cl_strE {g : Glo} {f : FI} {d : Nat} {X : Prop} {Φ : V → Prop} {a : Int} {x : Str} (e : Str.ofString (toString a) = x) (ha : a.natAbs < 2 ^ 60) (h : Φ (.str x)) : Cl g f d (.type "str") [.int a] Φ X := cl_str_int (Nat.lt_of_lt_of_le ha (Nat.pow_le_pow_right (by decide) (by decide))) (e ▸ h)
theorem cl_maxE {g : Glo} {f : FI} {d : Nat} {X : Prop} {Φ : V → Prop} {a b c : Int} (e : (if b > a then b else a) = c) (h : Φ (.int c)) : Cl g f d (.builtin "max") [.int a, .int b] Φ X := cl_max (e ▸ h)
local macro_rules | `(tactic| walk_at "call") => `(tactic| ((with_reducible refine' Cl.eq (fn_numI ?h1 ?h2 ?h3) ?hk); (case h1 => (with_reducible assumption)); (case h2 => omega); (case h3 => omega)))

local macro_rules | `(tactic| walk_at "op") => `(tactic| first
  | ((with_reducible refine' op_modE ?h1 ?h2 ?hk); (case h1 => decide); (case h2 => (with_reducible assumption)))
  | ((with_reducible refine' op_mulS ?h1 ?h2 ?h3 ?h4 ?hk); (case h1 => omega); (case h2 => omega); (case h3 => (decide +kernel)); (case h4 => (with_reducible assumption))))
local macro_rules | `(tactic| walk_at "cl") => `(tactic| first
  | ((with_reducible refine' cl_strE ?h1 ?h2 ?hk); (case h1 => (with_reducible assumption)); (case h2 => omega))
  | ((with_reducible refine' cl_maxE ?h1 ?hk); (case h1 => (with_reducible assumption))))
local macro_rules | `(tactic| walk_at "ev") => `(tactic| first
  | ((with_reducible refine' ev_slice_to ?hk ?h1 ?h2); (case h1 => (intros; with_unfolding_all rfl)); (case h2 => (intros; with_unfolding_all rfl)))
  | ((with_reducible refine' ev_slice_from ?hk ?h1 ?h2); (case h1 => (intros; with_unfolding_all rfl)); (case h2 => (intros; with_unfolding_all rfl))))
local macro_rules | `(tactic| walk_at "m0") => `(tactic| ((with_reducible show (∃ _ _ _, V.str _ = V.str _ ∧ V.int _ = V.int _ ∧ _)); (with_reducible refine' ⟨_, _, _, rfl, rfl, ?h1, ?h2, ?hk⟩); (case h1 => (with_reducible assumption)); (case h2 => walk_at "side")))
theorem decimal_walk {ns : List Int} {i : Int} {sd : Bool} {ds zs sI sF : Str} {b j n : Nat} {q : Int} (hn : ns.length ≤ 100) (hi : 0 ≤ i) (hi' : i ≤ 50) (n0 : 0 ≤ num ns i.toNat % 100000) (n1 : num ns i.toNat % 100000 ≤ 99999) (hs : Str.ofString (toString (num ns i.toNat % 100000)) = ds) (hb : num ns (i + 1).toNat % 4 = (b : Int)) (b3 : b ≤ 3) (hq : num ns (i + 1).toNat % 8 = q)
    (hz : (if (b : Int) + 1 - ds.length > 0 then (b : Int) + 1 - ds.length else 0) = (j : Int)) (j4 : j ≤ 4) (hm : Txt.mul (Str.ofString "0") (j : Int) = zs) (l1 : zs.length ≤ 10) (l2 : ds.length ≤ 10) (l3 : sI.length ≤ 30) (l4 : sF.length ≤ 30)
    (e1 : Txt.slice (zs ++ ds) none (some (((zs ++ ds).length : Int) - b)) = sI) (e2 : Txt.slice (zs ++ ds) (some (((zs ++ ds).length : Int) - b)) none = sF) (e3 : PySem.intText? (zs ++ ds) = some (n : Int)) (n2 : n ≤ 99999) (neg : Bool) (hneg : neg = (sd && decide (3 < q))) :
    Cl (GG w p loose mean mg mb) f (d + 2) (.ref 292) [.lst (ns.map V.int), .int i, .bool sd]
      (fun v => v = .tup [.str (Str.ofString (if neg then "-" else "") ++ (if b = 0 then zs ++ ds else sI ++ Str.ofString "." ++ sF)), .int (if neg then -(n : Int) else n), .int b]) X := by
  have g1 : (n : Int).natAbs < BIG := small_lt_big (by omega)
  have g2 : (1 : Int).natAbs < BIG := small_lt_big (by omega)
  have g3 : (-1 : Int).natAbs < BIG := small_lt_big (by omega)
  refine' fn_enter (defs := []) (dvs := []) nsu_law_decimal gsu_law_decimal [Str.ofString "digits", Str.ofString "behind", Str.ofString "side", Str.ofString "text"] 4 ?ho ?hcd ?hbind ?hns ?hlen ?hok .nil ?hco ?hgen ?hcell ?hρ ?hb
  walk_at "enter"
  case hbind => (intro s vals X hl; match vals, hl with | [_, _, _], _ => exact BindsTo.of_eq rfl)
  have ld : (sI ++ Str.ofString ".").length ≤ 31 := by
    have : (Str.ofString ".").length = 1 := by decide +kernel
    rw [Str.length_append]; omega
  have ld2 : (sI ++ Str.ofString "." ++ sF).length ≤ 61 := by rw [Str.length_append]; omega
  by_cases hb0 : (b : Int) = 0
  · have hb1 : b = 0 := by omega
    by_cases h3 : 3 < q <;> cases sd <;> simp [h3] at hneg <;> subst hneg <;> (repeat' walk_at "ms")
    all_goals simp [hb1]
  · have hb1 : ¬ b = 0 := by omega
    by_cases h3 : 3 < q <;> cases sd <;> simp [h3] at hneg <;> subst hneg <;> (repeat' walk_at "ms")
    all_goals simp [hb1]
theorem fn_law_decimal {ns : List Int} {i : Int} {sd : Bool} (hn : ns.length ≤ 100) (hi : 0 ≤ i) (hi' : i ≤ 50) :
    Cl (GG w p loose mean mg mb) f (d + 2) (.ref 292) [.lst (ns.map V.int), .int i, .bool sd]
      (fun v => ∃ (neg : Bool) (I F : List Nat) (N : Nat), Dc I F N ∧ N ≤ 99999 ∧ F.length ≤ 3 ∧ (sd = false → neg = false) ∧ v = .tup [.str (T (ntx neg I F [])), .int (if neg then -(N : Int) else N), .int (F.length : Nat)]) X := by
  obtain ⟨n, hnn⟩ : ∃ n : Nat, num ns i.toNat % 100000 = n := ⟨(num ns i.toNat % 100000).toNat, by omega⟩
  obtain ⟨b, hb⟩ : ∃ b : Nat, num ns (i + 1).toNat % 4 = b := ⟨(num ns (i + 1).toNat % 4).toNat, by omega⟩
  have n5 : n < 10 ^ 5 := by omega
  have hD := dg_len n5 (by decide)
  obtain ⟨L, hL⟩ : ∃ L, L = List.replicate (b + 1 - (dg n).length) 48 ++ dg n := ⟨_, rfl⟩
  have lL : L.length = (b + 1 - (dg n).length) + (dg n).length := by rw [hL]; simp
  have lL0 : 0 < (dg n).length := List.length_pos_iff.mpr (dg_ne n)
  have dL : NumText.AllDigits L := hL ▸ AllDigits.app (AllDigits.zeros _) (dg_digits n)
  have vL : NumText.digitsVal L = n := by rw [hL, digitsVal_app, digitsVal_zeros, dg_val]; omega
  have tL : T (List.replicate (b + 1 - (dg n).length) 48) ++ T (dg n) = T L := by rw [T_app, hL]
  have k1 : (((T L).length : Int) - b).toNat = L.length - b := by rw [T_len]; omega
  refine (decimal_walk (ds := T (dg n)) (zs := T (List.replicate (b + 1 - (dg n).length) 48)) (sI := T (L.take (L.length - b))) (sF := T (L.drop (L.length - b))) (b := b) (j := b + 1 - (dg n).length) (n := n) (q := num ns (i + 1).toNat % 8)
    hn hi hi' (by omega) (by omega) (by rw [hnn, dg_str]) hb (by omega) rfl (by rw [T_len]; split <;> omega) (by omega) (mul_zeros _) (by rw [T_len, List.length_replicate]; omega) (by rw [T_len]; omega) (by rw [T_len, List.length_take]; omega) (by rw [T_len, List.length_drop]; omega)
    (by rw [tL, slice_to (by rw [T_len]; omega) (by rw [T_len]; omega), k1]) (by rw [tL, slice_from (by rw [T_len]; omega) (by rw [T_len]; omega), k1]) (by rw [tL, intText_pos dL (by intro e; rw [e] at lL; simp at lL; omega) (by omega), vL]) (by omega)
    (sd && decide (3 < num ns (i + 1).toNat % 8)) rfl).mono fun v hv => ?_
  refine ⟨sd && decide (3 < num ns (i + 1).toNat % 8), L.take (L.length - b), L.drop (L.length - b), n, ⟨AllDigits.sub dL fun c hc => List.mem_of_mem_take hc, ?_, AllDigits.sub dL fun c hc => List.mem_of_mem_drop hc, ?_, ?_, ?_⟩, by omega, by rw [List.length_drop]; omega, fun e => by rw [e]; rfl, ?_⟩
  · intro e
    have := congrArg List.length e
    rw [List.length_take] at this
    simp at this
    omega
  · rw [List.length_take]; omega
  · rw [List.length_drop]; omega
  · rw [List.take_append_drop, vL]
  · rw [hv, tL]
    have lF : (L.drop (L.length - b)).length = b := by rw [List.length_drop]; omega
    rw [lF]
    have hsg : ∀ neg : Bool, Str.ofString (if neg = true then "-" else "") = T (sgn neg) := fun neg => by cases neg <;> decide +kernel
    rw [hsg]
    have hdot : Str.ofString "." = T [46] := by decide +kernel
    congr 3
    unfold ntx
    rw [List.append_nil]
    by_cases h0 : b = 0
    · have e1 : L.drop (L.length - b) = [] := List.eq_nil_of_length_eq_zero (by rw [lF, h0])
      have e2 : L.take (L.length - b) = L := by rw [h0]; simp
      rw [if_pos h0, e1, e2, if_pos rfl, List.append_nil, T_app]
    · have e1 : ¬ L.drop (L.length - b) = [] := fun e => h0 (by rw [← lF, e]; rfl)
      rw [if_neg h0, if_neg e1, hdot, T_app, T_app, T_app]
      congr 1
      simp
end

end
section
local macro_rules | `(tactic| walk_at "exmore") => `(tactic| ((with_reducible refine' ex_swap2 ?hs ?hk ?h1); (case hs => (intro; kernel_rfl)); (case h1 => (intro; rfl))))
local macro_rules | `(tactic| walk_at "m0") => `(tactic| ((with_reducible show (∃ _ _, V.tup _ = V.tup _ ∧ _)); (with_reducible refine ⟨_, _, rfl, ?_⟩)))
local macro_rules | `(tactic| walk_at "tst") => `(tactic| (with_reducible refine tst_if ?_))
section
variable {w : World} {p : Program} {loose : List Str} {mean : ExcName → Option Value} {mg mb : Str → Option Value} {f : FI} {d : Nat} {X Y : Prop} {ρ : Loc}
local macro_rules | `(tactic| walk_at "op") => `(tactic| ((with_reducible refine op_eqB ?_)))
/-- the lambda, made and handed to _law_outcome -/
theorem ev_outcome {np pos lpos : Pos} {params : Arguments} {body : Expr} {scope : Scope} {clos : List (Str × Addr)} {c P : Addr} {q : Str} {nsl gsl : List Str} {ρl : Loc} {Φ : V → Prop} {Ψ : V → Loc → Prop}
    (hm : InL f.gs (Str.ofString "_law_outcome")) (hcomp : f.comp = none) (hccd : f.ccd = .ref c) (hC : codeHdIn (hd.heap_39 w.params) c P = true) (ht : (P, q) ∈ f.tabs) (hu : ∀ t ∈ f.tabs, t.1 = P → t.2 = q) (hq : f.cn ++ ".<locals>." ++ "<lambda>" = q)
    (hdef : ∀ env, defaultsOf params env = ([], [])) (hcl : ∀ L, closureFor scope (f.fenv L) = pure clos)
    (hb : ∀ name pm c ctv, bindArgs (kla_fn name q params body scope clos pm c ctv) ⟨[], []⟩ = pure []) (hokl : ∀ a c, (FIl q scope a c clos nsl gsl).Ok)
    (hco : scope.isCoroutine = false) (hgen : scope.isGenerator = false) (hcell : ∀ x ∈ scope.names, x.2 ≠ .cell)
    (hfree : ∀ x v, GetN nsl ρl x v → GetN f.ns ρ x v ∧ ∃ c, clos.lookup x = some c ∧ f.cl.lookup x = some c)
    (hbody : ∀ a c, Ev (GG w p loose mean mg mb) (FIl q scope a c clos nsl gsl) d body ρl (fun v _ => Φ v) X)
    (h1 : ∀ v, Φ v → ∃ b, v = .bool b ∧ Ψ (.str (if b then Str.ofString "yes" else Str.ofString "no")) ρ) (h2 : X → Ψ (.str (Str.ofString "refused")) ρ) :
    Ev (GG w p loose mean mg mb) f (d + 2) (.Call (.Name (Str.ofString "_law_outcome") np) [.Lambda params body scope lpos] [] pos) ρ Ψ Y := fun σ wd => by
  show At σ wd ρ (do callWith pos (← eval (.Name (Str.ofString "_law_outcome") np) σ.env) [] (backTo pos (starEach [.Lambda params body scope lpos] σ.env)) []) _ _
  refine .bind ((ev_global (Φ := fun c ρ₁ => c = .obj (.ref 320) ∧ ρ₁ = ρ) (glu_law_outcome _) hm ⟨rfl, rfl⟩ σ wd).mono fun va wd₁ ρ₁ l₁ ⟨a, ra, ea, eρ⟩ => ?_)
  subst ea
  subst eρ
  cases ra
  have hs : At σ wd₁ ρ₁ (spliced (backTo pos (starEach [.Lambda params body scope lpos] σ.env))) (fun vals wd' ρ' => ρ' = ρ₁ ∧ ∃ aL, vals = [.ref aL] ∧ Lam wd'.news aL q params body scope clos) Y := by
    show At σ wd₁ ρ₁ (do
      let v ← eval (.Lambda params body scope lpos) σ.env
      let here ← (Pure.pure [v] : Sem (List Value))
      let there ← PySem.holding here (spliced (backTo pos (starEach [] σ.env)))
      Pure.pure (here ++ there)) _ _
    refine .bind (at_mklam hcomp hccd hC ht hu hq hdef hcl fun wd₂ aL l₂ hL => .bind (.pure (.bind (.holding ?_))))
    exact At.pure (a := []) (At.pure ⟨rfl, aL, rfl, hL⟩)
  intro l Q E hQ hX tk
  refine callWith_ok (K := (GG w p loose mean mg mb).K) (CvOk.fn (by show keepIn (hd.heap_39 _) _ = true; k_is)) rfl ?_
  have he : starEach [Expr.Lambda params body scope lpos] σ.env = (false, eval (.Lambda params body scope lpos) σ.env) :: starEach [] σ.env := rfl
  rw [he] at hs ⊢
  refine evalArgs_C (hs.run l (fun vals wd₂ ρ₂ l₂ lo₂ ⟨e, aL, ev, hL⟩ tk₂ => ⟨fun b o k => wd₂.F.keep _ _ (wd₂.X _ _ k), ?_⟩) hX tk)
  subst e
  subst ev
  have ecl : f.cells = f.cl := by unfold FI.cells; rw [hcomp]
  have call2 : At σ wd₂ ρ₂ (call (.ref 320) [.ref aL]) (fun val wd' ρ' => ρ' = ρ₂ ∧ ∃ v, Rep wd'.S val v ∧ Ψ v ρ₂) Y := by
    refine' at_enterB (as := [.obj (.ref aL)]) (defs := []) (dvs := []) wd₂.news nsu_law_outcome gsu_law_outcome [Str.ofString "found"] 1 (.cons .obj .nil) (fun q hq => hq) ?ho ?hcd ?hbind ?hns ?hlen ?hok .nil ?hco ?hgen ?hcell ?hρ ?hb
    walk_at "enter"
    case hbind => (intro s vals X hl; match vals, hl with | [_], _ => exact BindsTo.of_eq rfl)
    intro σ' wd' hbase
    refine At.mono (R := RF (fun fl _ => ∃ v, fl = .ret v ∧ Ψ v ρ₂)) (X := Y) ?_ fun _ _ _ _ h => h
    refine fun l' Q' E' hQ' _ tk' => (at_tryCall (X := X) (Φ := Φ) (aL := aL) (.here) (fun v => [some (.obj (.ref aL)), some v]) (fun v _ => .there .here) (by walk_at "blt") (by walk_at "inl") (by decide) (fun wd'' go => ⟨?_, ?_⟩) (fun v hv => ?_) (fun hx ρ' => ⟨_, rfl, h2 hx⟩)) l' Q' E' hQ' (fun x => x.elim) tk'
    · obtain ⟨oc, od, sl, name, pm, c', ctv, oc', vs, t, k1, -⟩ := hL
      exact ⟨_, _, _, _, (wd''.N _ (go.2 _ k1)).1⟩
    · refine (at_lam (Lam.of hL go.2) hb (hokl _) (fun x v hx => ?_) hco hgen hcell (hbody _)).mono fun val w' ρ' _ ⟨e1, _, e2⟩ => ⟨e1, e2⟩
      obtain ⟨k1, c, k2, k3⟩ := hfree x v hx
      have hH := lo₂.loc x v k1
      unfold Holds at hH
      rw [ecl, k3] at hH
      obtain ⟨o, val, m1, m2, m3⟩ := hH
      refine ⟨c, o, val, k2, go.2 _ m1, m2, m3.mono fun a o hS _ => ?_⟩
      unfold Wd.S at hS ⊢
      rw [hbase]
      exact hS.imp (fun h => go.2 _ h) id
    · obtain ⟨b, rfl, hΨ⟩ := h1 v hv
      cases b
      · repeat' walk_at "ms"
        exact hΨ
      · repeat' walk_at "ms"
        exact hΨ
  rw [show ([] ++ [Value.ref aL] : List Value) = [.ref aL] from rfl]
  obtain ⟨h', tk0, e'⟩ := l₂.st
  exact call2 lo₂ Q E (fun v wd₃ ρ₃ l₃ lo₃ ⟨e, x, rx, hx⟩ => hQ v wd₃ ρ₃ (l₂.trans l₃) lo₃ ⟨x, rx, e ▸ hx⟩) (fun hx e h'' tk' fl => by
    rw [e']
    exact hX hx e h'' tk' (fl.of_le l₂)) tk₂
end

end
section
local macro_rules | `(tactic| walk_at "exmore") => `(tactic| ((with_reducible refine' ex_swap2 ?hs ?hk ?h1); (case hs => (intro; kernel_rfl)); (case h1 => (intro; rfl))))
local macro_rules | `(tactic| walk_at "m0") => `(tactic| ((with_reducible show (∃ _ _, V.tup _ = V.tup _ ∧ _)); (with_reducible refine ⟨_, _, rfl, ?_⟩)))
local macro_rules | `(tactic| walk_at "tst") => `(tactic| (with_reducible refine tst_if ?_))
section
variable {w : World} {p : Program} {loose : List Str} {mean : ExcName → Option Value} {mg mb : Str → Option Value} {f : FI} {d : Nat} {X : Prop}
theorem item_first (c : Nat) (l : List Nat) : Txt.item (T (c :: l)) 0 = T [c] := by
  have e : seqIndex? 0 (T (c :: l)).length = some 0 := by
    rw [T_len]
    unfold seqIndex?
    simp
  unfold Txt.item Txt.charAt
  rw [e]
  rfl
theorem item_last (c : Nat) (l : List Nat) : Txt.item (T (l ++ [c])) (-1) = T [c] := by
  have e : seqIndex? (-1) (T (l ++ [c])).length = some l.length := by
    rw [T_len]
    unfold seqIndex?
    simp
    omega
  unfold Txt.item Txt.charAt
  rw [e]
  simp
theorem filter_no {c : Nat} {l : List Nat} (h : c ∉ l) : l.filter (· != c) = l := List.filter_eq_self.mpr fun x hx => by
  have : x ≠ c := fun e => h (e ▸ hx)
  simpa using this
theorem nm {c : Nat} {a b : List Nat} (ha : c ∉ a) (hb : c ∉ b) : c ∉ a ++ b := fun h => (List.mem_append.mp h).elim ha hb
/-- a blank, or none -/
def Bk (b : List Nat) : Prop := b = [] ∨ b = [32]
theorem Bk.del {b : List Nat} (h : Bk b) : b.filter (· != 32) = [] := by rcases h with rfl | rfl <;> rfl
theorem Bk.len {b : List Nat} (h : Bk b) : b.length ≤ 1 := by rcases h with rfl | rfl <;> simp
theorem tok_sp : Str.ofString " " = T [32] := by decide +kernel
theorem tok_em : Str.ofString "" = T [] := by decide +kernel
theorem tok_pm : Str.ofString "+-" = T [43, 45] := by decide +kernel
theorem tok_lp : Str.ofString "(" = T [40] := by decide +kernel
theorem tok_rp : Str.ofString ")" = T [41] := by decide +kernel
theorem tok_co : Str.ofString "," = T [44] := by decide +kernel
theorem tok_lb : Str.ofString "[" = T [91] := by decide +kernel
theorem tok_rb : Str.ofString "]" = T [93] := by decide +kernel
theorem tok_pc : Str.ofString "%" = T [37] := by decide +kernel
theorem tok_e : Str.ofString "e" = T [101] := by decide +kernel
theorem T_ne {a b : List Nat} (h : a ≠ b) : T a ≠ T b := fun e => h (T_inj e)
theorem fst_of {neg : Bool} {I F tl : List Nat} {N P : Nat} {m : Int} {rnd : Str} {d0 d1 : Int} (S : Sd (hd.heap_39 w.params) rnd d0 d1) (h0 : d0 = 0 ∨ d0 = 1) (h1 : d1 = 0 ∨ d1 = 1) (hP : 1 ≤ P) (hP' : P ≤ 60) (D : Dc I F N) (ht : Tl tl m) (hN : bl N ≤ 100) :
    FSt w p loose mean mg mb X (T (ntx neg I F tl)) P rnd (NumV d0 d1 neg N (m - F.length) P) := fun {f} {d} => fn_num S h0 h1 hP (by omega) D ht hN
/-- one number -/
theorem rd0 {neg : Bool} {I F tl : List Nat} {N P : Nat} {m : Int} (hP : 1 ≤ P) (hP' : P ≤ 60) (D : Dc I F N) (ht : Tl tl m) (hN : bl N ≤ 100) :
    Cl (GG w p loose mean mg mb) f (d + 14) (.ref 264) [.str (T (ntx neg I F tl)), .int P] (fun v => ∃ a b, v = .tup [a, b] ∧ NumV 1 0 neg N (m - F.length) P a ∧ NumV 0 1 neg N (m - F.length) P b) X := by
  have hc := ntx_cs (neg := neg) D ht
  have hl := ntx_len (neg := neg) D ht
  exact way0 (s1 := T (ntx neg I F tl)) (by rw [T_len]; omega) (by rw [T_len]; omega) (by rw [tok_sp]; exact replace0 (hc.no (by decide))) (by rw [tok_pm]; exact contains_pm_no (hc.no (by decide)))
    (by rw [tok_lp, contains_one]; exact decide_eq_false (hc.no (by decide))) (by rw [tok_co, contains_one]; exact decide_eq_false (hc.no (by decide)))
    (fst_of (sd_f _) (.inr rfl) (.inl rfl) hP hP' D ht hN) (fst_of (sd_c _) (.inl rfl) (.inr rfl) hP hP' D ht hN)
/-- two numbers in square brackets -/
theorem rd1 {neg neg2 : Bool} {I F tl I2 F2 tl2 bk : List Nat} {N N2 P : Nat} {m m2 : Int} (hP : 1 ≤ P) (hP' : P ≤ 60) (D : Dc I F N) (ht : Tl tl m) (hN : bl N ≤ 100) (D2 : Dc I2 F2 N2) (ht2 : Tl tl2 m2) (hN2 : bl N2 ≤ 100) (hb : Bk bk) :
    Cl (GG w p loose mean mg mb) f (d + 14) (.ref 264) [.str (T (91 :: ntx neg I F tl ++ bk ++ 44 :: bk ++ ntx neg2 I2 F2 tl2 ++ [93])), .int P]
      (fun v => ∃ a b, v = .tup [a, b] ∧ NumV 1 0 neg N (m - F.length) P a ∧ NumV 0 1 neg2 N2 (m2 - F2.length) P b) X := by
  have hc := ntx_cs (neg := neg) D ht
  have hl := ntx_len (neg := neg) D ht
  have hc2 := ntx_cs (neg := neg2) D2 ht2
  have hl2 := ntx_len (neg := neg2) D2 ht2
  have hbl := hb.len
  have fA := @fst_of w p loose mean mg mb X neg _ _ _ _ P _ _ _ _ (sd_f w.params) (.inr rfl) (.inl rfl) hP hP' D ht hN
  have fB := @fst_of w p loose mean mg mb X neg2 _ _ _ _ P _ _ _ _ (sd_c w.params) (.inl rfl) (.inr rfl) hP hP' D2 ht2 hN2
  generalize ntx neg I F tl = A at *
  generalize ntx neg2 I2 F2 tl2 = B at *
  have nA : ∀ {c : Nat}, ¬ (c = 45 ∨ c = 46 ∨ c = 101 ∨ (48 ≤ c ∧ c ≤ 57)) → c ∉ A := hc.no
  have nB : ∀ {c : Nat}, ¬ (c = 45 ∨ c = 46 ∨ c = 101 ∨ (48 ≤ c ∧ c ≤ 57)) → c ∉ B := hc2.no
  refine way1 (s1 := T (91 :: A ++ 44 :: B ++ [93])) (s2 := T (A ++ 44 :: B ++ [93])) (s3 := T (A ++ 44 :: B)) (x := T A) (y := T B) (by rw [T_len]; simp; omega) (by rw [T_len]; simp; omega) (by rw [T_len]; simp) (by rw [T_len]; simp; omega) (by rw [T_len]; simp; omega) ?_ ?_ ?_ ?_ ?_ ?_ ?_ ?_ ?_ ?_ fA fB
  · rw [tok_sp, tok_em, replace_del]
    simp [List.filter_append, hb.del, filter_no (nA (c := 32) (by decide)), filter_no (nB (c := 32) (by decide))]
  · rw [tok_pm]; refine contains_pm_no ?_; simp [nA (c := 43) (by decide), nB (c := 43) (by decide)]
  · rw [tok_lp, contains_one]; simp [nA (c := 40) (by decide), nB (c := 40) (by decide)]
  · rw [tok_co, contains_one]; simp
  · rw [tok_lb, contains_one]; simp
  · rw [tok_rb, contains_one]; simp
  · rw [tok_lb]; exact item_first _ _
  · rw [tok_lb, tok_em, replace_del]
    simp [List.filter_append, filter_no (nA (c := 91) (by decide)), filter_no (nB (c := 91) (by decide))]
  · rw [tok_rb, tok_em, replace_del]
    simp [List.filter_append, filter_no (nA (c := 93) (by decide)), filter_no (nB (c := 93) (by decide))]
  · rw [tok_co]; exact split1 (nA (by decide)) (nB (by decide))
theorem Tl.end {tl : List Nat} {m : Int} (h : Tl tl m) : (tl = [] ∧ 101 ∉ tl) ∨ ∃ es, tl = 101 :: es ∧ 101 ∉ es := by
  cases h with
  | no => exact .inl ⟨rfl, by simp⟩
  | yes h1 h2 h3 h4 h5 => exact .inr ⟨_, rfl, fun k => by have := h1 _ k; omega⟩
/-- the digits ahead, ended by a point where there is none -/
def pt (F : List Nat) : List Nat := 46 :: F
/-- shared digits, and two ends in square brackets -/
theorem rd2 {I F tl y z bk bk2 : List Nat} {P : Nat} {m : Int} {ny nz : Nat} (hP : 1 ≤ P) (hP' : P ≤ 60) (Dy : Dc I (F ++ y) ny) (Dz : Dc I (F ++ z) nz) (ly : y ≠ []) (lz : z ≠ []) (ht : Tl tl m) (hN : bl ny ≤ 100) (hN2 : bl nz ≤ 100) (hb : Bk bk) (hb2 : Bk bk2) :
    Cl (GG w p loose mean mg mb) f (d + 14) (.ref 264) [.str (T (I ++ pt F ++ 91 :: y ++ bk ++ 44 :: bk2 ++ z ++ 93 :: tl)), .int P]
      (fun v => ∃ a b, v = .tup [a, b] ∧ NumV 1 0 false ny (m - (F ++ y).length) P a ∧ NumV 0 1 false nz (m - (F ++ z).length) P b) X := by
  have fA := @fst_of w p loose mean mg mb X false _ _ _ _ P _ _ _ _ (sd_f w.params) (.inr rfl) (.inl rfl) hP hP' Dy ht hN
  have fB := @fst_of w p loose mean mg mb X false _ _ _ _ P _ _ _ _ (sd_c w.params) (.inl rfl) (.inr rfl) hP hP' Dz ht hN2
  have eA : ntx false I (F ++ y) tl = I ++ pt F ++ y ++ tl := by
    unfold ntx pt; rw [if_neg (by simp [ly])]; simp [sgn]
  have eB : ntx false I (F ++ z) tl = I ++ pt F ++ z ++ tl := by
    unfold ntx pt; rw [if_neg (by simp [lz])]; simp [sgn]
  have hcI : Cs (I ++ pt F) := (dig_cs Dy.hI).app (by
    intro c hc
    rcases List.mem_cons.mp hc with rfl | hc
    · omega
    · exact dig_cs Dy.hF c (List.mem_append_left _ hc))
  have hcy : Cs y := fun c hc => dig_cs Dy.hF c (List.mem_append_right _ hc)
  have hcz : Cs z := fun c hc => dig_cs Dz.hF c (List.mem_append_right _ hc)
  have hct := ht.cs
  have hlt := ht.len
  have l1 : (I ++ pt F).length ≤ 41 := by have h1 := Dy.lI; have h2 := Dy.lF; rw [List.length_append] at h2 ⊢; simp only [pt, List.length_cons]; omega
  have l2 : y.length ≤ 20 := by have := Dy.lF; rw [List.length_append] at this; omega
  have l3 : z.length ≤ 20 := by have := Dz.lF; rw [List.length_append] at this; omega
  have hbl := hb.len
  have hbl2 := hb2.len
  have hne : I ≠ [] := Dy.nI
  have hI := Dy.hI
  have nYe : (101 : Nat) ∉ y := fun k => by have := Dy.hF _ (List.mem_append_right _ k); omega
  have nZe : (101 : Nat) ∉ z := fun k => by have := Dz.hF _ (List.mem_append_right _ k); omega
  have nAe : (101 : Nat) ∉ I ++ pt F := fun k => by
    rcases List.mem_append.mp k with k | k
    · have := hI _ k; omega
    · rcases List.mem_cons.mp k with k | k
      · omega
      · have := Dy.hF _ (List.mem_append_left _ k); omega
  rw [eA] at fA
  rw [eB] at fB
  obtain ⟨c0, I', rfl⟩ : ∃ c0 I', I = c0 :: I' := by
    cases I with
    | nil => exact absurd rfl hne
    | cons a b => exact ⟨a, b, rfl⟩
  have hc0 : c0 ≠ 91 := by have := hI c0 (.head _); omega
  have hA0 : ∃ A', (c0 :: I') ++ pt F = c0 :: A' := ⟨I' ++ pt F, rfl⟩
  clear eA eB
  generalize (c0 :: I') ++ pt F = A at *
  have nA : ∀ {c : Nat}, ¬ (c = 45 ∨ c = 46 ∨ c = 101 ∨ (48 ≤ c ∧ c ≤ 57)) → c ∉ A := hcI.no
  have nY : ∀ {c : Nat}, ¬ (c = 45 ∨ c = 46 ∨ c = 101 ∨ (48 ≤ c ∧ c ≤ 57)) → c ∉ y := hcy.no
  have nZ : ∀ {c : Nat}, ¬ (c = 45 ∨ c = 46 ∨ c = 101 ∨ (48 ≤ c ∧ c ≤ 57)) → c ∉ z := hcz.no
  have nT : ∀ {c : Nat}, ¬ (c = 45 ∨ c = 46 ∨ c = 101 ∨ (48 ≤ c ∧ c ≤ 57)) → c ∉ tl := hct.no
  have assA : T A ++ T y ++ T tl = T (A ++ y ++ tl) := by rw [T_app, T_app]
  have assB : T A ++ T z ++ T tl = T (A ++ z ++ tl) := by rw [T_app, T_app]
  refine way2 (s1 := T (A ++ 91 :: (y ++ 44 :: (z ++ 93 :: tl)))) (x := T A) (y0 := T (y ++ 44 :: (z ++ 93 :: tl))) (y := T y) (z0 := T (z ++ 93 :: tl)) (z := T z) (e := T tl) (c0 := T [c0]) (by rw [T_len]; simp; omega) (by rw [T_len]; simp; omega) (by rw [T_len]; simp; omega) (by rw [T_len]; omega) (by rw [T_len]; simp; omega) (by rw [T_len]; omega) (by rw [T_len]; simp; omega) (by rw [T_len]; omega) (by rw [T_len]; omega)
    ?_ ?_ ?_ ?_ ?_ ?_ ?_ ?_ ?_ ?_ ?_ (by rw [assA]; exact fA) (by rw [assB]; exact fB)
  · rw [tok_sp, tok_em, replace_del]
    simp [List.filter_append, hb.del, hb2.del, filter_no (nA (c := 32) (by decide)), filter_no (nY (c := 32) (by decide)), filter_no (nZ (c := 32) (by decide)), filter_no (nT (c := 32) (by decide))]
  · rw [tok_pm]; refine contains_pm_no ?_; simp [nA (c := 43) (by decide), nY (c := 43) (by decide), nZ (c := 43) (by decide), nT (c := 43) (by decide)]
  · rw [tok_lp, contains_one]; simp [nA (c := 40) (by decide), nY (c := 40) (by decide), nZ (c := 40) (by decide), nT (c := 40) (by decide)]
  · rw [tok_co, contains_one]; simp
  · rw [tok_lb, contains_one]; simp
  · rw [tok_rb, contains_one]; simp
  · obtain ⟨A', rfl⟩ := hA0
    exact item_first _ _
  · rw [tok_lb]; exact T_ne (by simpa using hc0)
  · rw [tok_lb]; exact split1 (nA (by decide)) (by simp [nY (c := 91) (by decide), nZ (c := 91) (by decide), nT (c := 91) (by decide)])
  · rw [tok_co]; exact split1 (nY (by decide)) (by simp [nZ (c := 44) (by decide), nT (c := 44) (by decide)])
  · rcases ht.end with ⟨rfl, -⟩ | ⟨es, rfl, he⟩
    · refine .inr ⟨?_, ?_, ?_⟩
      · rw [tok_e, contains_one]; simp [nAe, nYe, nZe]
      · rw [tok_rb]
        exact rstrip_some (fun e => nZ (c := 93) (by decide) (List.mem_of_getLast? e)) 1
      · rw [tok_em]
    · refine .inl ⟨?_, ?_⟩
      · rw [tok_e, contains_one]; simp
      · rw [tok_rb]; exact split1 (nZ (by decide)) (nT (by decide))
/-- a middle and a half width behind +- -/
theorem rd3 {neg : Bool} {I F tl I2 F2 bk : List Nat} {N N2 P : Nat} {m : Int} (hP : 1 ≤ P) (hP' : P ≤ 60) (D : Dc I F N) (ht : Tl tl m) (D2 : Dc I2 F2 N2) (n1 : N ≤ 99999) (n2 : N2 ≤ 99999) (f1 : F.length ≤ 3) (f2 : F2.length ≤ 3) (hb : Bk bk) :
    Cl (GG w p loose mean mg mb) f (d + 14) (.ref 264) [.str (T (ntx neg I F tl ++ bk ++ 43 :: 45 :: bk ++ ntx false I2 F2 [])), .int P] (fun v => ∃ a b, v = .tup [a, b] ∧
      NearV true P (sq (bn neg) (tenQ N (m - F.length)) - tenQ N2 (0 - F2.length)) (tenQ N (m - F.length) + tenQ N2 (0 - F2.length)) a ∧
      NearV false P (sq (bn neg) (tenQ N (m - F.length)) + tenQ N2 (0 - F2.length)) (tenQ N (m - F.length) + tenQ N2 (0 - F2.length)) b) X := by
  have hc := ntx_cs (neg := neg) D ht
  have hl := ntx_len (neg := neg) D ht
  have hc2 := ntx_cs (neg := false) D2 .no
  have hl2 := ntx_len (neg := false) D2 .no
  have hbl := hb.len
  have hC := fun {f : FI} {d : Nat} => @fn_a_b0 w p loose mean mg mb f d X neg _ _ _ _ _ _ _ P _ hP hP' D ht D2 n1 n2 f1 f2
  generalize ntx neg I F tl = A at *
  generalize ntx false I2 F2 [] = B at *
  have nA : ∀ {c : Nat}, ¬ (c = 45 ∨ c = 46 ∨ c = 101 ∨ (48 ≤ c ∧ c ≤ 57)) → c ∉ A := hc.no
  have nB : ∀ {c : Nat}, ¬ (c = 45 ∨ c = 46 ∨ c = 101 ∨ (48 ≤ c ∧ c ≤ 57)) → c ∉ B := hc2.no
  have hs := split_pm (nA (c := 43) (by decide)) (nB (c := 43) (by decide))
  refine way3 (s1 := T (A ++ 43 :: 45 :: B)) (x := T A) (y := T B) (by rw [T_len]; simp; omega) (by rw [T_len]; simp; omega) ?_ (by rw [tok_pm]; exact hs.2) (by rw [tok_pm]; exact hs.1) fun {f d Ψ} k => hC.mono k
  rw [tok_sp, tok_em, replace_del]
  simp [List.filter_append, hb.del, filter_no (nA (c := 32) (by decide)), filter_no (nB (c := 32) (by decide))]
/-- a middle and a half width in round brackets -/
theorem rd4 {neg : Bool} {I F tl I2 F2 bk : List Nat} {N N2 P : Nat} {m : Int} (hP : 1 ≤ P) (hP' : P ≤ 60) (D : Dc I F N) (ht : Tl tl m) (D2 : Dc I2 F2 N2) (n1 : N ≤ 99999) (n2 : N2 ≤ 99999) (f1 : F.length ≤ 3) (f2 : F2.length ≤ 3) (hb : Bk bk) :
    Cl (GG w p loose mean mg mb) f (d + 14) (.ref 264) [.str (T (ntx neg I F tl ++ bk ++ 40 :: ntx false I2 F2 [] ++ [41])), .int P] (fun v => ∃ a b, v = .tup [a, b] ∧
      NearV true P (sq (bn neg) (tenQ N (m - F.length)) - tenQ N2 (0 - F2.length)) (tenQ N (m - F.length) + tenQ N2 (0 - F2.length)) a ∧
      NearV false P (sq (bn neg) (tenQ N (m - F.length)) + tenQ N2 (0 - F2.length)) (tenQ N (m - F.length) + tenQ N2 (0 - F2.length)) b) X := by
  have hc := ntx_cs (neg := neg) D ht
  have hl := ntx_len (neg := neg) D ht
  have hc2 := ntx_cs (neg := false) D2 .no
  have hl2 := ntx_len (neg := false) D2 .no
  have hbl := hb.len
  have hC := fun {f : FI} {d : Nat} => @fn_a_b0 w p loose mean mg mb f d X neg _ _ _ _ _ _ _ P _ hP hP' D ht D2 n1 n2 f1 f2
  have hne : ntx neg I F tl ≠ [] := by
    have := D.nI
    unfold ntx
    simp [this]
  generalize ntx neg I F tl = A at *
  generalize ntx false I2 F2 [] = B at *
  have nA : ∀ {c : Nat}, ¬ (c = 45 ∨ c = 46 ∨ c = 101 ∨ (48 ≤ c ∧ c ≤ 57)) → c ∉ A := hc.no
  have nB : ∀ {c : Nat}, ¬ (c = 45 ∨ c = 46 ∨ c = 101 ∨ (48 ≤ c ∧ c ≤ 57)) → c ∉ B := hc2.no
  obtain ⟨c0, A', hA⟩ : ∃ c0 A', A = c0 :: A' := by
    cases A with
    | nil => exact absurd rfl hne
    | cons a b => exact ⟨a, b, rfl⟩
  have hc0 : c0 ≠ 40 := fun e => nA (c := 40) (by decide) (by rw [hA, e]; exact .head _)
  have hA1 : 1 ≤ A.length := by rw [hA]; simp
  refine way4 (s1 := T (A ++ 40 :: B ++ [41])) (s2 := T (A ++ 40 :: B)) (x := T A) (y := T B) (c0 := T [c0]) (by rw [T_len]; simp only [List.length_append, List.length_cons, List.length_nil]; omega) (by rw [T_len]; simp only [List.length_append, List.length_cons, List.length_nil]; omega) (by rw [T_len]; simp only [List.length_append, List.length_cons, List.length_nil]; omega) (by rw [T_len]; simp only [List.length_append, List.length_cons, List.length_nil]; omega) (by rw [T_len]; simp only [List.length_append, List.length_cons, List.length_nil]; omega) ?_ ?_ ?_ (by rw [hA]; exact item_first _ _) (by rw [tok_lp]; exact T_ne (by simpa using hc0)) ?_ ?_ ?_ ?_ fun {f d Ψ} k => hC.mono k
  · rw [tok_sp, tok_em, replace_del]
    rw [List.filter_append, List.filter_append, List.filter_append, hb.del, filter_no (nA (c := 32) (by decide))]
    simp [filter_no (nB (c := 32) (by decide))]
  · rw [tok_pm]; refine contains_pm_no ?_; rw [List.append_assoc]; exact nm (nA (c := 43) (by decide)) (by simp [nB (c := 43) (by decide)])
  · rw [tok_lp, contains_one]; simp
  · rw [tok_rp, contains_one]; simp
  · rw [tok_rp, tok_em, replace_del]
    rw [List.filter_append, List.filter_append, filter_no (nA (c := 41) (by decide))]
    simp [filter_no (nB (c := 41) (by decide))]
  · rw [tok_pc, contains_one]; exact decide_eq_false (nm (nA (c := 37) (by decide)) (by simp [nB (c := 37) (by decide)]))
  · rw [tok_lp]; exact split1 (nA (by decide)) (nB (by decide))
/-- a middle and a half width in hundredths of it -/
theorem rd5 {neg : Bool} {I F tl I2 F2 bk : List Nat} {N N2 P : Nat} {m : Int} (hP : 1 ≤ P) (hP' : P ≤ 60) (D : Dc I F N) (ht : Tl tl m) (D2 : Dc I2 F2 N2) (n1 : N ≤ 99999) (n2 : N2 ≤ 99999) (f1 : F.length ≤ 3) (f2 : F2.length ≤ 3) (hb : Bk bk) :
    Cl (GG w p loose mean mg mb) f (d + 14) (.ref 264) [.str (T (ntx neg I F tl ++ bk ++ 40 :: ntx false I2 F2 [] ++ [37, 41])), .int P] (fun v => ∃ a b, v = .tup [a, b] ∧
      NearV true P (sq (bn neg) (tenQ N (m - F.length)) - tenQ N (m - F.length) * tenQ N2 (0 - F2.length) / 100) (tenQ N (m - F.length) + tenQ N (m - F.length) * tenQ N2 (0 - F2.length) / 100) a ∧
      NearV false P (sq (bn neg) (tenQ N (m - F.length)) + tenQ N (m - F.length) * tenQ N2 (0 - F2.length) / 100) (tenQ N (m - F.length) + tenQ N (m - F.length) * tenQ N2 (0 - F2.length) / 100) b) X := by
  have hc := ntx_cs (neg := neg) D ht
  have hl := ntx_len (neg := neg) D ht
  have hc2 := ntx_cs (neg := false) D2 .no
  have hl2 := ntx_len (neg := false) D2 .no
  have hbl := hb.len
  have hC := fun {f : FI} {d : Nat} => @fn_a_b1 w p loose mean mg mb f d X neg _ _ _ _ _ _ _ P _ hP hP' D ht D2 n1 n2 f1 f2
  have hne : ntx neg I F tl ≠ [] := by
    have := D.nI
    unfold ntx
    simp [this]
  generalize ntx neg I F tl = A at *
  generalize ntx false I2 F2 [] = B at *
  have nA : ∀ {c : Nat}, ¬ (c = 45 ∨ c = 46 ∨ c = 101 ∨ (48 ≤ c ∧ c ≤ 57)) → c ∉ A := hc.no
  have nB : ∀ {c : Nat}, ¬ (c = 45 ∨ c = 46 ∨ c = 101 ∨ (48 ≤ c ∧ c ≤ 57)) → c ∉ B := hc2.no
  obtain ⟨c0, A', hA⟩ : ∃ c0 A', A = c0 :: A' := by
    cases A with
    | nil => exact absurd rfl hne
    | cons a b => exact ⟨a, b, rfl⟩
  have hc0 : c0 ≠ 40 := fun e => nA (c := 40) (by decide) (by rw [hA, e]; exact .head _)
  have hA1 : 1 ≤ A.length := by rw [hA]; simp
  refine way5 (s1 := T (A ++ 40 :: B ++ [37, 41])) (s2 := T (A ++ 40 :: B ++ [37])) (s3 := T (A ++ 40 :: B)) (x := T A) (y := T B) (c0 := T [c0]) (by rw [T_len]; simp only [List.length_append, List.length_cons, List.length_nil]; omega) (by rw [T_len]; simp only [List.length_append, List.length_cons, List.length_nil]; omega) (by rw [T_len]; simp only [List.length_append, List.length_cons, List.length_nil]; omega) (by rw [T_len]; simp only [List.length_append, List.length_cons, List.length_nil]; omega) (by rw [T_len]; simp only [List.length_append, List.length_cons, List.length_nil]; omega) (by rw [T_len]; simp only [List.length_append, List.length_cons, List.length_nil]; omega) ?_ ?_ ?_ (by rw [hA]; exact item_first _ _) (by rw [tok_lp]; exact T_ne (by simpa using hc0)) ?_ ?_ ?_ (by rw [tok_pc]; exact item_last _ _) ?_ ?_ fun {f d Ψ} k => hC.mono k
  · rw [tok_sp, tok_em, replace_del]
    rw [List.filter_append, List.filter_append, List.filter_append, hb.del, filter_no (nA (c := 32) (by decide))]
    simp [filter_no (nB (c := 32) (by decide))]
  · rw [tok_pm]; refine contains_pm_no ?_; rw [List.append_assoc]; exact nm (nA (c := 43) (by decide)) (by simp [nB (c := 43) (by decide)])
  · rw [tok_lp, contains_one]; simp
  · rw [tok_rp, contains_one]; simp
  · rw [tok_rp, tok_em, replace_del]
    rw [List.filter_append, List.filter_append, filter_no (nA (c := 41) (by decide))]
    simp [filter_no (nB (c := 41) (by decide))]
  · rw [tok_pc, contains_one]; simp
  · rw [tok_pc, tok_em, replace_del]
    rw [List.filter_append, List.filter_append, filter_no (nA (c := 37) (by decide))]
    simp [filter_no (nB (c := 37) (by decide))]
  · rw [tok_lp]; exact split1 (nA (by decide)) (nB (by decide))
end

end
section
local macro_rules | `(tactic| walk_at "exmore") => `(tactic| ((with_reducible refine' ex_swap2 ?hs ?hk ?h1); (case hs => (intro; kernel_rfl)); (case h1 => (intro; rfl))))
local macro_rules | `(tactic| walk_at "m0") => `(tactic| ((with_reducible show (∃ _ _, V.tup _ = V.tup _ ∧ _)); (with_reducible refine ⟨_, _, rfl, ?_⟩)))
local macro_rules | `(tactic| walk_at "tst") => `(tactic| (with_reducible refine tst_if ?_))
section
variable {w : World} {p : Program} {loose : List Str} {mean : ExcName → Option Value} {mg mb : Str → Option Value} {f : FI} {d : Nat} {X : Prop}
/-! what the readings are held against -/
def zero4 : V := .tup [.int 0, .int 0, .int 0, .int 0]
def EndV (way top : Int) (B P : Nat) (v : V) : Prop := (top = 0 → v = .tup [.int 0, .int 0, .int 0, .int 0]) ∧ (top ≠ 0 → RQ (rW way top) (sg top) top.natAbs B P v)
def Is4 (v : V) : Prop := ∃ a b c e, v = .tup [.int a, .int b, .int c, .int e]
theorem rq_is4 {r s A B P v} (h : RQ r s A B P v) : Is4 v := by
  obtain ⟨i, j, -, -, rfl⟩ := h
  unfold canon tup4
  split
  · exact ⟨_, _, _, _, rfl⟩
  · exact ⟨_, _, _, _, rfl⟩
theorem EndV.is4 {way top B P v} (h : EndV way top B P v) : Is4 v := by
  by_cases h0 : top = 0
  · exact ⟨_, _, _, _, h.1 h0⟩
  · exact rq_is4 (h.2 h0)
/-- the whole number of a text, with its sign -/
def sN (neg : Bool) (N : Nat) : Int := if neg then -(N : Int) else N
theorem num_end {d0 d1 way top t : Int} {neg : Bool} {N B P : Nat} {a v : V} (hd : (d0 = 1 ∧ d1 = 0 ∧ way = 0) ∨ (d0 = 0 ∧ d1 = 1 ∧ way = 1)) (htop : top = sN neg N * 10 ^ t.toNat) (hB : B = 10 ^ (-t).toNat) (hP : 1 ≤ P) (h : NumV d0 d1 neg N t P a) (h' : EndV way top B P v) : a = v := by
  have hp : 0 < 10 ^ t.toNat := Nat.pow_pos (by decide)
  have hpi : (0 : Int) < 10 ^ t.toNat := Int.pow_pos (by decide)
  by_cases hN : N = 0
  · have : top = 0 := by rw [htop, hN]; unfold sN; cases neg <;> simp
    rw [h.1 hN, h'.1 this]
  · have hNp : (0 : Int) < N := by omega
    have hA : top.natAbs = N * 10 ^ t.toNat := by
      rw [htop, Int.natAbs_mul, Int.natAbs_pow]
      unfold sN
      cases neg <;> simp
    have hne : top ≠ 0 := fun e => by
      rw [e] at hA
      have := Nat.mul_pos (Nat.pos_of_ne_zero hN) hp
      simp at hA
      omega
    have r := h.2 hN
    have r' := h'.2 hne
    have hs : sg top = bn neg := by
      unfold sg bn
      cases neg with
      | false =>
        have : 0 < top := by rw [htop]; exact Int.mul_pos (by simpa [sN] using hNp) hpi
        rw [if_neg (by omega)]; rfl
      | true =>
        have : top < 0 := by
          have : 0 < N * (10 : Int) ^ t.toNat := Int.mul_pos hNp hpi
          rw [htop]; simp only [sN, if_true, Int.neg_mul]; omega
        rw [if_pos this]; rfl
    have hr : rW way top = rU (dnOf d0 d1 (bn neg)) := by
      unfold rW dnOf
      have hw : way ≠ 2 := by rcases hd with ⟨_, _, rfl⟩ | ⟨_, _, rfl⟩ <;> decide
      rw [if_neg hw]
      cases neg with
      | false =>
        have : 0 < top := by rw [htop]; exact Int.mul_pos (by simpa [sN] using hNp) hpi
        rcases hd with ⟨rfl, rfl, rfl⟩ | ⟨rfl, rfl, rfl⟩ <;> simp [bn, this]
      | true =>
        have : top < 0 := by
          have : 0 < N * (10 : Int) ^ t.toNat := Int.mul_pos hNp hpi
          rw [htop]; simp only [sN, if_true, Int.neg_mul]; omega
        have h2 : ¬ 0 < top := by omega
        rcases hd with ⟨rfl, rfl, rfl⟩ | ⟨rfl, rfl, rfl⟩ <;> simp [bn, h2]
    rw [hr, hs, hA, hB] at r'
    exact rq_unique (rnd_d _) (Nat.pow_pos (by decide)) (Nat.pow_pos (by decide)) hP r r' rfl
theorem scaled_eq (i b m : Int) : scaled i b m = (i * 10 ^ (m - b).toNat, 10 ^ (b - m).toNat) := by
  unfold scaled
  split
  · rename_i h
    rw [show (b - m).toNat = 0 from by omega]; rfl
  · rename_i h
    rw [show (m - b).toNat = 0 from by omega]; simp
theorem op_eqPair {g : Glo} {f : FI} {d : Nat} {X : Prop} {Φ : V → Prop} {a b a' b' : V} (h1 : Is4 a') (h2 : Is4 b') (e1 : a = a') (e2 : b = b') (h : Φ (.bool true)) : Op2 (compareOp .Eq) g f d (.tup [a, b]) (.tup [a', b']) Φ X := by
  subst e1
  subst e2
  obtain ⟨x1, x2, x3, x4, rfl⟩ := h1
  obtain ⟨y1, y2, y3, y4, rfl⟩ := h2
  refine op_eqD rfl rfl (by simp [V.pd, V.pds, SeqAt.shaped, PyData.canLay0, PyData.canLayAll0, PyData.depth, PyData.depthAll]) (by simp [V.pd, V.pds, SeqAt.shaped, PyData.canLay0, PyData.canLayAll0, PyData.depth, PyData.depthAll]) rfl ?_
  have e : PyData.eqv (V.tup [.tup [.int x1, .int x2, .int x3, .int x4], .tup [.int y1, .int y2, .int y3, .int y4]]).pd (V.tup [.tup [.int x1, .int x2, .int x3, .int x4], .tup [.int y1, .int y2, .int y3, .int y4]]).pd = true := by
    simp [V.pd, V.pds, PyData.eqv, PyData.eqvAll]
  rw [e]
  exact h
theorem valued_rat (s : Int) (M : Nat) (e : Int) (hs : s = 0 ∨ s = 1) : 0 < (valued s M e).2 ∧ qv s M e * ((valued s M e).2 : Rat) = ((valued s M e).1 : Rat) := by
  have hq : qv s M e = ((sgv s M : Int) : Rat) * p2 e := by
    rcases hs with rfl | rfl
    · simp [qv, sgv, Mine.mg, Rat.intCast_natCast]
    · simp [qv, sgv, Mine.mg, Rat.intCast_neg, Rat.intCast_natCast, Rat.neg_mul]
  unfold valued
  split
  · rename_i h
    refine ⟨Int.one_pos, ?_⟩
    obtain ⟨k, rfl⟩ : ∃ k : Nat, e = k := ⟨e.toNat, by omega⟩
    rw [hq, p2_nat, Int.toNat_natCast]
    simp [Rat.intCast_mul, Rat.intCast_pow, Rat.natCast_pow]
  · rename_i h
    refine ⟨Int.pow_pos (by decide), ?_⟩
    obtain ⟨k, rfl⟩ : ∃ k : Nat, e = -(k : Int) := ⟨(-e).toNat, by omega⟩
    rw [hq, Int.neg_neg, Int.toNat_natCast]
    have e1 : (((2 : Int) ^ k : Int) : Rat) = p2 k := by rw [p2_nat, Rat.intCast_pow, Rat.natCast_pow]; rfl
    show ((sgv s M : Int) : Rat) * p2 (-(k : Int)) * (((2 : Int) ^ k : Int) : Rat) = _
    rw [e1, Rat.mul_assoc, Rat.mul_comm (p2 (-(k : Int))), p2_inv, Rat.mul_one]
theorem near_fin {lo : Bool} {P : Nat} {z gg : Rat} {v : V} {top below T0 T1 : Int} (h : NearV lo P z gg v) (hb : 0 < below) (hT : 0 < T1) (hz : z * (below : Rat) = (top : Rat)) (hg : gg * (T1 : Rat) = (T0 : Rat)) :
    ∃ s M e, Mpf v s M e ∧ bl M ≤ P ∧ -1000 ≤ e ∧ e ≤ 1000 ∧ 0 ≤ gapI top below (valued s M e).1 (valued s M e).2 lo ∧ gapI top below (valued s M e).1 (valued s M e).2 lo * T1 * 2 ^ P ≤ 4 * T0 * below * (valued s M e).2 := by
  obtain ⟨s, M, e, hm, hbl, l1, l2, hs, hn⟩ := h
  obtain ⟨ht, hq⟩ := valued_rat s M e hm.hs
  refine ⟨s, M, e, hm, hbl, l1, l2, ?_⟩
  generalize (valued s M e).1 = o at *
  generalize (valued s M e).2 = t at *
  generalize qv s M e = q at *
  have hb' : (0 : Rat) < (below : Rat) := by rw [← Rat.intCast_zero]; exact Rat.intCast_lt_intCast.mpr hb
  have ht' : (0 : Rat) < (t : Rat) := by rw [← Rat.intCast_zero]; exact Rat.intCast_lt_intCast.mpr ht
  have hT' : (0 : Rat) < (T1 : Rat) := by rw [← Rat.intCast_zero]; exact Rat.intCast_lt_intCast.mpr hT
  have hbt : (0 : Rat) < (below : Rat) * t := Rat.mul_pos hb' ht'
  have hP2 : p2 (-(P : Int)) * ((2 ^ P : Int) : Rat) = 1 := by
    have e1 : (((2 : Int) ^ P : Int) : Rat) = p2 P := by rw [p2_nat, Rat.intCast_pow, Rat.natCast_pow]; rfl
    rw [e1, Rat.mul_comm, p2_inv]
  have hPp : (0 : Rat) < ((2 ^ P : Int) : Rat) := by rw [← Rat.intCast_zero]; exact Rat.intCast_lt_intCast.mpr (Int.pow_pos (by decide))
  generalize p2 (-(P : Int)) = c at *
  generalize hK : ((2 : Int) ^ P : Int) = K at *
  -- the gap as a number
  obtain ⟨δ, hδ, hδ0, hδ1⟩ : ∃ δ : Rat, ((gapI top below o t lo : Int) : Rat) = δ * ((below : Rat) * t) ∧ 0 ≤ δ ∧ δ ≤ 4 * (gg * c) := by
    unfold gapI
    cases lo with
    | true =>
      simp only [if_true] at hs hn ⊢
      refine ⟨z - q, ?_, by grind, hn⟩
      rw [Int.mul_one, Rat.intCast_sub, Rat.intCast_mul, Rat.intCast_mul, ← hz, ← hq]
      grind
    | false =>
      simp only [Bool.false_eq_true, if_false] at hs hn ⊢
      refine ⟨q - z, ?_, by grind, hn⟩
      rw [Rat.intCast_mul, Rat.intCast_sub, Rat.intCast_mul, Rat.intCast_mul, ← hz, ← hq]
      have e1 : ((-1 : Int) : Rat) = -1 := by rfl
      rw [e1]
      grind
  constructor
  · have : (0 : Rat) ≤ ((gapI top below o t lo : Int) : Rat) := by rw [hδ]; exact Rat.mul_nonneg hδ0 (Rat.le_of_lt hbt)
    rw [← Rat.intCast_zero] at this
    exact Rat.intCast_le_intCast.mp this
  · refine Rat.intCast_le_intCast.mp ?_
    rw [Rat.intCast_mul, Rat.intCast_mul, hδ, Rat.intCast_mul, Rat.intCast_mul, Rat.intCast_mul, ← hg]
    have e4 : ((4 : Int) : Rat) = 4 := by rfl
    rw [e4]
    have key : δ * (((below : Rat) * t) * (T1 : Rat) * (K : Rat)) ≤ 4 * (gg * c) * (((below : Rat) * t) * (T1 : Rat) * (K : Rat)) :=
      Rat.mul_le_mul_of_nonneg_right hδ1 (Rat.le_of_lt (Rat.mul_pos (Rat.mul_pos hbt hT') hPp))
    have e5 : 4 * (gg * c) * (((below : Rat) * t) * (T1 : Rat) * (K : Rat)) = 4 * (gg * (T1 : Rat)) * below * t * (c * (K : Rat)) := by grind
    rw [e5, hP2, Rat.mul_one] at key
    have e6 : δ * (((below : Rat) * t) * (T1 : Rat) * (K : Rat)) = δ * ((below : Rat) * t) * (T1 : Rat) * (K : Rat) := by grind
    rw [← e6]
    exact key
end

end
section
local macro_rules | `(tactic| walk_at "exmore") => `(tactic| ((with_reducible refine' ex_swap2 ?hs ?hk ?h1); (case hs => (intro; kernel_rfl)); (case h1 => (intro; rfl))))
local macro_rules | `(tactic| walk_at "m0") => `(tactic| ((with_reducible show (∃ _ _, V.tup _ = V.tup _ ∧ _)); (with_reducible refine ⟨_, _, rfl, ?_⟩)))
local macro_rules | `(tactic| walk_at "tst") => `(tactic| (with_reducible refine tst_if ?_))
local macro_rules | `(tactic| walk_at "call") => `(tactic| ((with_reducible refine' Cl.eq (fn_numI ?h1 ?h2 ?h3) ?hk); (case h1 => (with_reducible assumption)); (case h2 => omega); (case h3 => omega)))
local macro_rules | `(tactic| walk_at "exmore") => `(tactic| ((with_reducible refine' ex_swap2 ?hs ?hk ?h1); (case hs => (intro; kernel_rfl)); (case h1 => (intro; rfl))))
local macro_rules | `(tactic| walk_at "s4") => `(tactic| (first | (case h4 => walk_at "side") | skip))
local macro_rules | `(tactic| walk_at "side") => `(tactic| first | (with_reducible assumption) | (exact Nat.le_of_ble_eq_true rfl) | omega | (simp only [Str.length_append, T_len]; omega) | decide | (decide +kernel))
local macro_rules | `(tactic| walk_at "asm") => `(tactic| first | (with_reducible assumption) | (decide +kernel))
local macro_rules | `(tactic| walk_at "opmore") => `(tactic| first
  | ((with_reducible refine' op_addS ?h1 ?h2 ?hk); walk_at "s1"; walk_at "s2")
  | ((with_reducible refine' op_inS ?h1 ?hk); (case h1 => (with_reducible assumption))))
local macro_rules | `(tactic| walk_at "op") => `(tactic| first
  | ((with_reducible show Op2 (subscriptTail _ _) _ _ _ (V.lst [_, _]) _ _ _); (refine' sub_lst ?h3 ?h1 ?h2 ?hk ?h5); (case h3 => rfl); (case h1 => decide); (case h2 => decide); (case h5 => (intros; with_unfolding_all rfl)))
  | ((with_reducible refine' op_modE ?h1 ?h2 ?hk); (case h1 => decide); (case h2 => (with_reducible assumption)))
  | ((with_reducible show Op2 (subscriptTail _ _) _ _ _ (V.tup _) _ _ _); (refine' sub_tup ?h3 ?h1 ?h2 ?h4 ?hk ?h5); (case h3 => rfl); (case h1 => rfl); (case h2 => decide); (case h4 => decide); (case h5 => (intros; with_unfolding_all rfl))))
local macro_rules | `(tactic| walk_at "cl") => `(tactic| first
  | ((with_reducible refine' cl_strE ?h1 ?h2 ?hk); (case h1 => (with_reducible assumption)); (case h2 => omega)))
section
variable {w : World} {p : Program} {loose : List Str} {mean : ExcName → Option Value} {mg mb : Str → Option Value} {f : FI} {d : Nat} {X : Prop}
theorem ok_cells {cn : Str} {cs : Scope} {a : Addr} {ccd : Value} {cl : List (Str × Addr)} {ns gs names : List Str} {tabs : List (Addr × Str)} (hk : cs.kind = .function) (nd : ns.Nodup) (hcl : cl.map (·.1) = names)
    (lc : ∀ x ∈ ns, (if x ∈ names then (cs.names.lookup x = some .cell ∨ cs.names.lookup x = some .free) else cs.names.lookup x = some .local) ∧ ((x == ("__debug__" : Str)) = false ∧ (x == ("__classdict__" : Str)) = false))
    (gc : ∀ x ∈ gs, cs.names.lookup x = some .globalImplicit ∧ (x == ("__debug__" : Str)) = false) (cd : names.Nodup) (cu : (cl.map (·.2)).Nodup) : (FIc cn cs a ccd cl ns gs tabs).Ok :=
  ⟨⟨hk, hk⟩, nd, fun x hx => by
    show (if x ∈ cl.map (·.1) then _ else _) ∧ _
    rw [hcl]
    exact lc x hx, gc, (fun q hq => by cases hq), by
    show (cl.map (·.1)).Nodup
    rw [hcl]; exact cd, .inr ⟨rfl, rfl, .inr rfl⟩, cu⟩
theorem ok_inner {f : FI} {sc : Scope} {cl : List (Str × Addr)} {C : Addr} {ns gs names : List Str} (hk : f.cs.kind = .function ∧ sc.kind = .function) (nd : ns.Nodup) (hcl : cl.map (·.1) = names)
    (lc : ∀ x ∈ ns, (if x ∈ names then (sc.names.lookup x = some .cell ∨ sc.names.lookup x = some .free) else sc.names.lookup x = some .local) ∧ ((x == ("__debug__" : Str)) = false ∧ (x == ("__classdict__" : Str)) = false))
    (gc : ∀ x ∈ gs, sc.names.lookup x = some .globalImplicit ∧ (x == ("__debug__" : Str)) = false) (cd : names.Nodup) (cu : (cl.map (·.2)).Nodup) : (f.inner sc cl C ns gs).Ok :=
  ⟨hk, nd, fun x hx => by
    show (if x ∈ cl.map (·.1) then _ else _) ∧ _
    rw [hcl]
    exact lc x hx, gc, (fun q hq => by cases hq), by
    show (cl.map (·.1)).Nodup
    rw [hcl]; exact cd, .inl rfl, cu⟩
theorem ntx_tl (neg : Bool) (I F tl : List Nat) : T (ntx neg I F []) ++ T tl = T (ntx neg I F tl) := by
  rw [T_app]
  unfold ntx
  simp
structure B10 (k : Nat) : Prop where
  lt : 10 ^ k < 2 ^ 34
theorem B10.of {k : Nat} (h : k ≤ 10) : B10 k := ⟨Nat.lt_of_le_of_lt (Nat.pow_le_pow_right (by decide) h) (by decide)⟩
theorem fn_scaledE {i b m o0 o1 : Int} (e : scaled i b m = (o0, o1)) (hb : -50 ≤ b) (hb' : b ≤ 50) (hm : -50 ≤ m) (hm' : m ≤ 50) (hi : i.natAbs < 2 ^ 1000) :
    Cl (GG w p loose mean mg mb) f (d + 1) (.ref 299) [.int i, .int b, .int m] (fun v => v = .tup [.int o0, .int o1]) X := by
  have := fn_law_scaled (w := w) (p := p) (loose := loose) (mean := mean) (mg := mg) (mb := mb) (f := f) (d := d) (X := X) hb hb' hm hm' hi
  rw [e] at this
  exact this
theorem fn_endI {top D way : Int} {B P : Nat} (hD : D = (B : Int)) (hB : 0 < B) (hP : 1 ≤ P) (hP' : P ≤ 300) (bA : bl top.natAbs ≤ 300) (bB : bl B ≤ 300) (hw : way = 0 ∨ way = 1 ∨ way = 2) :
    Cl (GG w p loose mean mg mb) f (d + 2) (.ref 285) [.int top, .int D, .int P, .int way] (EndV way top B P) X := by
  subst hD
  exact fn_law_end hB hP hP' bA bB hw
theorem ntx_app (neg : Bool) (I F tl : List Nat) : ntx neg I F [] ++ tl = ntx neg I F tl := by
  unfold ntx
  simp
theorem rat_pos {o0 o1 : Int} {B : Nat} (N : Nat) (t : Int) (h0 : o0 = sN false N * 10 ^ t.toNat) (h1 : o1 = (B : Int)) (hB : B = 10 ^ (-t).toNat) : tenQ N t * (o1 : Rat) = (o0 : Rat) := by
  have hp : ((10 ^ (-t).toNat : Nat) : Rat) ≠ 0 := Rat.ne_of_gt (Rat.natCast_pos.mpr (Nat.pow_pos (by decide)))
  unfold tenQ
  rw [h1, Rat.intCast_natCast, hB, Rat.div_mul_cancel hp, h0]
  simp [sN, Rat.intCast_mul, Rat.intCast_pow, Rat.natCast_mul, Rat.natCast_pow, Rat.intCast_natCast]
theorem rat_abs {o0 o1 : Int} {B : Nat} (neg : Bool) (N : Nat) (t : Int) (h0 : o0 = sN neg N * 10 ^ t.toNat) (h1 : o1 = (B : Int)) (hB : B = 10 ^ (-t).toNat) : tenQ N t * (o1 : Rat) = ((if o0 < 0 then -o0 else o0 : Int) : Rat) := by
  have e : (if o0 < 0 then -o0 else o0 : Int) = sN false N * 10 ^ t.toNat := by
    have hpi : (0 : Int) ≤ 10 ^ t.toNat := Int.le_of_lt (Int.pow_pos (by decide))
    have hz : (0 : Int) ≤ N * 10 ^ t.toNat := Int.mul_nonneg (Int.natCast_nonneg _) hpi
    rw [h0]
    cases neg with
    | false => simp only [sN, Bool.false_eq_true, if_false]; rw [if_neg (by omega)]
    | true =>
      simp only [sN, if_true, Bool.false_eq_true, if_false, Int.neg_mul]
      split <;> omega
  rw [rat_pos N t rfl h1 hB, e]
theorem rat_one {o0 o1 : Int} {B : Nat} (neg : Bool) (N : Nat) (t : Int) (h0 : o0 = sN neg N * 10 ^ t.toNat) (h1 : o1 = (B : Int)) (hB : B = 10 ^ (-t).toNat) : sq (bn neg) (tenQ N t) * (o1 : Rat) = (o0 : Rat) := by
  have := rat_pos N t rfl h1 hB
  cases neg with
  | false => rw [h0]; exact this
  | true =>
    have e : o0 = -(sN false N * 10 ^ t.toNat) := by rw [h0]; simp [sN, Int.neg_mul]
    rw [e, Rat.intCast_neg, ← this]
    show -(tenQ N t) * _ = _
    rw [Rat.neg_mul]
theorem cl_minE {g : Glo} {f : FI} {d : Nat} {X : Prop} {Φ : V → Prop} {a b c : Int} (e : (if b < a then b else a) = c) (h : Φ (.int c)) : Cl g f d (.builtin "min") [.int a, .int b] Φ X := cl_min (e ▸ h)
theorem dg_two {n : Nat} (h : 10 ≤ n) (h' : n < 100) : (dg n).length = 2 := by
  have h1 := dg_len (n := n) (k := 2) (by omega) (by decide)
  have h2 : ¬ (dg n).length ≤ 1 := fun hl => by
    have hv := dg_val n
    have hd := dg_digits n
    cases e : dg n with
    | nil => exact dg_ne n e
    | cons c r =>
      rw [e] at hl hv hd
      have : r = [] := by cases r with
        | nil => rfl
        | cons a b => simp at hl
      subst this
      have hc := hd c (.head _)
      have : NumText.digitsVal [c] = c - 48 := by simp [NumText.digitsVal]
      omega
  omega
theorem op_neSE {a b : Str} {c : Bool} {Φ : V → Prop} {g : Glo} (e : (a != b) = c) (h : Φ (.bool c)) : Op2 (compareOp .NotEq) g f d (.str a) (.str b) Φ X := op_neS (e ▸ h)
/-- a scaled number: over, under, and their bits -/
theorem scaled_is (neg : Bool) {N k : Nat} {m : Int} (hN : N ≤ 9999999) (hk : k ≤ 5) (h1 : -5 ≤ m) (h2 : m ≤ 5) : ∃ (o0 o1 : Int) (B : Nat), scaled (if neg then -(N : Int) else N) (k : Int) m = (o0, o1) ∧ o0 = sN neg N * 10 ^ (m - k).toNat ∧ B = 10 ^ (-(m - (k : Int))).toNat ∧ o1 = (B : Int) ∧ 0 < B ∧ o0.natAbs < 2 ^ 58 ∧ B < 2 ^ 34 ∧ (if neg then -(N : Int) else N).natAbs < 2 ^ 1000 := by
  have hB : B10 ((k : Int) - m).toNat := B10.of (by omega)
  have hT : B10 (m - k).toNat := B10.of (by omega)
  have hN0 : (if neg then -(N : Int) else N).natAbs = N := by cases neg <;> simp
  refine ⟨_, _, 10 ^ ((k : Int) - m).toNat, scaled_eq _ _ _, rfl, by rw [Int.neg_sub], by rw [Int.natCast_pow]; rfl, Nat.pow_pos (by decide), ?_, hB.lt, ?_⟩
  · rw [Int.natAbs_mul, hN0, Int.natAbs_pow]
    have h3 : N * 10 ^ (m - k).toNat < 2 ^ 24 * 2 ^ 34 := Nat.mul_lt_mul'' (by omega) hT.lt
    exact Nat.lt_of_lt_of_le h3 (by rw [← Nat.pow_add]; exact Nat.le_refl _)
  · rw [hN0]
    exact Nat.lt_of_le_of_lt hN (Nat.lt_of_lt_of_le (show 9999999 < 2 ^ 24 by decide) (Nat.pow_le_pow_right (by decide) (by decide)))
theorem bl_300 {x k : Nat} (h : x < 2 ^ k) (hk : k ≤ 300) : bl x ≤ 300 := Nat.le_trans (bl_le.mpr h) hk
theorem valued_lt {s e : Int} {M P : Nat} (hb : bl M ≤ P) (hP : P ≤ 60) (h1 : -1000 ≤ e) (h2 : e ≤ 1000) : (valued s M e).1.natAbs < 2 ^ 1100 ∧ (valued s M e).2.natAbs < 2 ^ 1100 := by
  have hM : M < 2 ^ 60 := bl_le.mp (Nat.le_trans hb hP)
  have hs : (sgv s M).natAbs = M := by unfold sgv; split <;> simp
  unfold valued
  split
  · refine ⟨?_, Nat.one_lt_two_pow (by decide)⟩
    show (sgv s M * 2 ^ e.toNat).natAbs < _
    rw [Int.natAbs_mul, hs, Int.natAbs_pow]
    have h3 : M * 2 ^ e.toNat < 2 ^ 60 * 2 ^ 1001 := Nat.mul_lt_mul'' hM (Nat.pow_lt_pow_right (by decide) (by omega))
    exact Nat.lt_of_lt_of_le h3 (by rw [← Nat.pow_add]; exact Nat.pow_le_pow_right (by decide) (by decide))
  · refine ⟨?_, ?_⟩
    · show (sgv s M).natAbs < _
      rw [hs]
      exact Nat.lt_of_lt_of_le hM (Nat.pow_le_pow_right (by decide) (by decide))
    · show ((2 : Int) ^ (-e).toNat).natAbs < _
      rw [Int.natAbs_pow]
      exact Nat.pow_lt_pow_right (by decide) (by omega)
theorem cl_absE {g : Glo} {f : FI} {d : Nat} {X : Prop} {Φ : V → Prop} {a c : Int} (e : (if a < 0 then -a else a) = c) (h : Φ (.int c)) : Cl g f d (.builtin "abs") [.int a] Φ X := cl_abs (e ▸ h)
/-- what is near, told of the numbers that the walk has made -/
theorem fn_nearI {lo : Bool} {P : Nat} {z gg : Rat} {v : V} {top below T0 T1 : Int} (h : NearV lo P z gg v) (hP : P ≤ 60) (hb : 0 < below) (hT : 0 < T1) (hz : z * (below : Rat) = (top : Rat)) (hg : gg * (T1 : Rat) = (T0 : Rat))
    (g1 : top.natAbs < 2 ^ 400) (g2 : below.natAbs < 2 ^ 400) (g3 : T0.natAbs < 2 ^ 400) (g4 : T1.natAbs < 2 ^ 400) :
    Cl (GG w p loose mean mg mb) f (d + 2) (.ref 313) [v, .int top, .int below, .tup [.int T0, .int T1], .int P, .bool lo] (fun v => v = .bool true) X := by
  obtain ⟨s, M, e, hm, hbl, l1, l2, k1, k2⟩ := near_fin h hb hT hz hg
  obtain ⟨v1, v2⟩ := valued_lt (s := s) hbl hP l1 l2
  exact fn_law_is_near hm l1 l2 (by omega) (by omega) g1 g2 g3 g4 v1 v2 k1 (by rw [Int.toNat_natCast]; exact k2)
local macro_rules | `(tactic| walk_at "op") => `(tactic| ((with_reducible refine' op_neSE ?h1 ?hk); (case h1 => (with_reducible assumption))))
local macro_rules | `(tactic| walk_at "cl") => `(tactic| first | ((with_reducible refine' cl_absE ?h1 ?hk); (case h1 => (with_reducible assumption))) | ((with_reducible refine' cl_minE ?h1 ?hk); (case h1 => (with_reducible assumption))) | ((with_reducible refine' cl_maxE ?h1 ?hk); (case h1 => (with_reducible assumption))))
local macro_rules | `(tactic| walk_at "call") => `(tactic| first
  | ((with_reducible refine' Cl.eq (fn_numI ?h1 ?h2 ?h3) ?hk); (case h1 => (with_reducible assumption)); (case h2 => omega); (case h3 => omega))
  | ((with_reducible refine' Cl.mono (fn_law_decimal ?h1 ?h2 ?h3) ?hk); (case h1 => (with_reducible assumption)); (case h2 => omega); (case h3 => omega); (refine fun _ hh => ?_; obtain ⟨_, _, _, _, hD, hN, hF, hsd, hv⟩ := hh; subst hv))
  | ((with_reducible refine' Cl.eq (fn_scaledE ?h1 ?h2 ?h3 ?h4 ?h5 ?h6) ?hk); (case h1 => (with_reducible assumption)); (case h2 => omega); (case h3 => omega); (case h4 => omega); (case h5 => omega); (case h6 => (with_reducible assumption)))
  | ((with_reducible show Cl _ _ _ (Value.ref 264) _ _ _); (refine' Cl.mono ?hc ?hk; (case hc => (with_reducible apply_assumption -exfalso)); (refine fun _ hh => ?_; obtain ⟨_, _, hv, hA, hB⟩ := hh; subst hv)))
  | ((with_reducible show Cl _ _ _ (Value.ref 313) _ _ _); (refine' Cl.eq ?hc ?hk; (case hc => (with_reducible apply_assumption -exfalso))))
  | ((with_reducible refine' Cl.mono (fn_endI ?hD ?h1 ?h2 ?h3 ?h4 ?h5 ?h6) ?hk); (case hD => (with_reducible assumption)); (case h1 => (with_reducible assumption)); (case h2 => omega); (case h3 => omega); (case h4 => (with_reducible assumption)); (case h5 => (with_reducible assumption)); (case h6 => decide); intro _ hE))
theorem es_int {m : Int} (h1 : -5 ≤ m) (h2 : m ≤ 5) : ∃ es : List Nat, Str.ofString (toString m) = T es ∧ (∀ c ∈ es, c = 45 ∨ (48 ≤ c ∧ c ≤ 57)) ∧ PySem.intText? (T es) = some m ∧ es.length ≤ 10 := by
  have h : m = -5 ∨ m = -4 ∨ m = -3 ∨ m = -2 ∨ m = -1 ∨ m = 0 ∨ m = 1 ∨ m = 2 ∨ m = 3 ∨ m = 4 ∨ m = 5 := by omega
  rcases h with rfl | rfl | rfl | rfl | rfl | rfl | rfl | rfl | rfl | rfl | rfl
  · exact ⟨[45, 53], by decide +kernel, by decide, by decide +kernel, by decide⟩
  · exact ⟨[45, 52], by decide +kernel, by decide, by decide +kernel, by decide⟩
  · exact ⟨[45, 51], by decide +kernel, by decide, by decide +kernel, by decide⟩
  · exact ⟨[45, 50], by decide +kernel, by decide, by decide +kernel, by decide⟩
  · exact ⟨[45, 49], by decide +kernel, by decide, by decide +kernel, by decide⟩
  · exact ⟨[48], by decide +kernel, by decide, by decide +kernel, by decide⟩
  · exact ⟨[49], by decide +kernel, by decide, by decide +kernel, by decide⟩
  · exact ⟨[50], by decide +kernel, by decide, by decide +kernel, by decide⟩
  · exact ⟨[51], by decide +kernel, by decide, by decide +kernel, by decide⟩
  · exact ⟨[52], by decide +kernel, by decide, by decide +kernel, by decide⟩
  · exact ⟨[53], by decide +kernel, by decide, by decide +kernel, by decide⟩
theorem fn_law_read {ns : List Int} (hn : ns.length ≤ 100) : Cl (GG w p loose mean mg mb) f (d + 15) (.ref 325) [.lst (ns.map V.int)] (fun v => v = .bool true) X := by
  refine' fn_enterC (x := .lst (ns.map V.int)) (p := Str.ofString "script") (fun n => [(Str.ofString "more", n + 2), (Str.ofString "behind", n + 1), (Str.ofString "whole", n)]) nsu_law_read gsu_law_read nsu_law_read.tail 19 ?ho ?hcd ?hbind ?hp ?hns ?hcells ?hok ?hnd ?hkind ?hco ?hgen ?hρ ?hb
  case ho => (show List.lookup _ (hd.heap_39 _) = _; k_is)
  case hcd => (show codeIn (hd.heap_39 _) _ _ = _; k_is)
  case hbind => (intro s vals X hl; match vals, hl with | [_], _ => exact BindsTo.of_eq rfl)
  case hp => rfl
  case hns => rfl
  case hcells => (intro n; rfl)
  case hok => (intro n; exact ok_cells (names := [Str.ofString "more", Str.ofString "behind", Str.ofString "whole"]) rfl (by decide +kernel) rfl (by decide +kernel) (by decide +kernel) (by decide +kernel) (by show [n + 2, n + 1, n].Nodup; simp))
  case hnd => decide +kernel
  case hkind => (intro n; exact .inl ⟨by decide +kernel, by rfl⟩)
  case hco => rfl
  case hgen => rfl
  case hρ => (simp only [List.replicate]; rfl)
  intro n
  obtain ⟨wy, q0, wy0, wy5⟩ : ∃ wy : Int, num ns (0 : Int).toNat % 6 = wy ∧ 0 ≤ wy ∧ wy ≤ 5 := ⟨_, rfl, by omega, by omega⟩
  obtain ⟨P, q60, hP, hP'⟩ : ∃ P : Nat, num ns (1 : Int).toNat % 60 = (P : Int) - 1 ∧ 1 ≤ P ∧ P ≤ 60 := ⟨(num ns (1 : Int).toNat % 60).toNat + 1, by omega, by omega, by omega⟩
  obtain ⟨b3, q3⟩ : ∃ b3 : Int, num ns (1 : Int).toNat % 3 = b3 := ⟨_, rfl⟩
  obtain ⟨m11, q11, m0, m10⟩ : ∃ m11 : Int, num ns (4 : Int).toNat % 11 = m11 ∧ 0 ≤ m11 ∧ m11 ≤ 10 := ⟨_, rfl, by omega, by omega⟩
  obtain ⟨t2, q2⟩ : ∃ t2 : Int, num ns (4 : Int).toNat % 2 = t2 := ⟨_, rfl⟩
  have eP : 1 + ((P : Int) - 1) = P := by omega
  have ll : (ns.map V.int).length ≤ 100 := by rw [List.length_map]; exact hn
  walk_at "st"
  rw [eP]
  refine then_next (exs_join (fun ρ => ∃ bk, Bk bk ∧ ρ = some (.lst (ns.map V.int)) :: some (.int wy) :: some (.int P) :: some (.str (T bk)) :: List.replicate 16 none) ?_ ?_)
  · (repeat' walk_at "ms")
    · exact ⟨[32], .inr rfl, by rw [tok_sp]; rfl⟩
    · exact ⟨[], .inl rfl, by rw [tok_em]; rfl⟩
  rintro _ ⟨bk, hbk, rfl⟩
  simp only [List.replicate]
  walk_at "st"
  rename_i neg I F N hD hN hF hsd
  walk_at "nx"
  obtain ⟨es, hes, es1, es2, es3⟩ := es_int (m := m11 - 5) (by omega) (by omega)
  have les : (T es).length ≤ 500000 := by rw [T_len]; omega
  have le1 : (Str.ofString "e").length ≤ 500000 := by decide +kernel
  refine then_next (exs_join (fun ρ => ∃ tl, (tl = [] ∨ tl = 101 :: es) ∧ ρ = [some (.lst (ns.map V.int)), some (.int wy), some (.int P), some (.str (T bk)), some (.str (T (ntx neg I F []))), some (.int (if neg = true then -(N : Int) else N)), some (.int (F.length : Nat)), some (.int (m11 - 5)), some (.str (T tl)), none, none, none, none, none, none, none, none, none, none, none]) ?_ ?_)
  · (repeat' walk_at "ms")
    · exact ⟨101 :: es, .inr rfl, by rw [tok_e, T_app]; rfl⟩
    · exact ⟨[], .inl rfl, by rw [tok_em]⟩
  rintro _ ⟨tl, htl, rfl⟩
  refine exs_join (fun ρ => ∃ m, Tl tl m ∧ ρ = [some (.lst (ns.map V.int)), some (.int wy), some (.int P), some (.str (T bk)), some (.str (T (ntx neg I F []))), some (.int (if neg = true then -(N : Int) else N)), some (.int (F.length : Nat)), some (.int m), some (.str (T tl)), none, none, none, none, none, none, none, none, none, none, none]) ?_ ?_
  · have n0 : (T [] != Str.ofString "") = false := by decide +kernel
    have n1 : (T (101 :: es) != Str.ofString "") = true := by
      rw [tok_em]
      have : T (101 :: es) ≠ T [] := T_ne (by simp)
      simpa using this
    rcases htl with rfl | rfl
    · (repeat' walk_at "ms")
      exact ⟨0, .no, rfl⟩
    · (repeat' walk_at "ms")
      exact ⟨_, .yes es1 es2 es3 (by omega) (by omega), rfl⟩
  clear htl
  rintro _ ⟨m, htl, rfl⟩
  obtain ⟨hm0, hm1⟩ := htl.bnd
  obtain ⟨o0, o1, B, eo, ho0, hBe, ho1, hB0, bo', bB', lN⟩ := scaled_is neg (N := N) (k := F.length) (m := m) (by omega) (by omega) hm0 hm1
  have bo := bl_300 bo' (by decide)
  have bB := bl_300 bB' (by decide)
  have lt1 : (T (ntx neg I F [])).length ≤ 500000 := by rw [T_len]; have := ntx_len (neg := neg) hD .no; omega
  have lt2 : (T tl).length ≤ 500000 := by rw [T_len]; have := htl.len; omega
  have bN : bl N ≤ 100 := by have := bl_99999 hN; omega
  have hw : wy = 0 ∨ wy = 1 ∨ wy = 2 ∨ wy = 3 ∨ wy = 4 ∨ wy = 5 := by omega
  walk_at "st"
  by_cases h0 : wy = 0
  · have hR : ∀ {f : FI} {d : Nat}, Cl (GG w p loose mean mg mb) f (d + 14) (.ref 264) [.str (T (ntx neg I F []) ++ T tl), .int P] _ False := fun {f d} => by
      rw [ntx_tl]
      exact rd0 hP hP' hD htl bN
    (repeat' walk_at "nx")
    rename_i a b hA hB v1 hE1 v2 hE2
    refine op_eqPair hE1.is4 hE2.is4 (num_end (.inl ⟨rfl, rfl, rfl⟩) ho0 hBe hP hA hE1) (num_end (.inr ⟨rfl, rfl, rfl⟩) ho0 hBe hP hB hE2) ?_
    (repeat' walk_at "ms")
    rfl
  walk_at "nx"
  walk_at "nx"
  rename_i neg2 I2 F2 N2 hD2 hN2 hF2 hsd2
  obtain ⟨w0, w1, B2, ew, hw0, hB2e, hw1, hB20, bw', bB2', lN2⟩ := scaled_is neg2 (N := N2) (k := F2.length) (m := 0) (by omega) (by omega) (by omega) (by omega)
  have bw := bl_300 bw' (by decide)
  have bB2 := bl_300 bB2' (by decide)
  have bN2 : bl N2 ≤ 100 := by have := bl_99999 hN2; omega
  have lA : (ntx neg I F []).length ≤ 60 := ntx_len (neg := neg) hD .no
  have lB : (ntx neg2 I2 F2 []).length ≤ 60 := ntx_len (neg := neg2) hD2 .no
  have ltl : tl.length ≤ 11 := htl.len
  have lbk : bk.length ≤ 1 := hbk.len
  have c1 : (Str.ofString ",").length = 1 := by decide +kernel
  have c2 : (Str.ofString "[").length = 1 := by decide +kernel
  have c3 : (Str.ofString "]").length = 1 := by decide +kernel
  have c4 : (Str.ofString "").length = 0 := by decide +kernel
  have c5 : (Str.ofString "(").length = 1 := by decide +kernel
  have c6 : (Str.ofString ")").length = 1 := by decide +kernel
  have c7 : (Str.ofString "%)").length = 2 := by decide +kernel
  have c8 : (Str.ofString "+-").length = 2 := by decide +kernel
  have bg : ∀ {x : Int}, bl x.natAbs ≤ 300 → x.natAbs < BIG := fun h => lt_big (k := 300) (bl_le.mp h) (by decide)
  have bgN : ∀ {x : Int} {B : Nat}, x = (B : Int) → bl B ≤ 300 → x.natAbs < BIG := fun e h => lt_big (k := 300) (by rw [e, Int.natAbs_natCast]; exact bl_le.mp h) (by decide)
  have go0 := bg bo
  have go1 := bgN ho1 bB
  have gw0 := bg bw
  have gw1 := bgN hw1 bB2
  walk_at "nx"
  by_cases h1 : wy = 1
  · have hR1 : ∀ {f : FI} {d : Nat}, Cl (GG w p loose mean mg mb) f (d + 14) (.ref 264) [.str (Str.ofString "[" ++ T (ntx neg I F []) ++ T tl ++ T bk ++ Str.ofString "," ++ T bk ++ T (ntx neg2 I2 F2 []) ++ Str.ofString "]"), .int P] _ False := fun {f d} => by
      rw [show Str.ofString "[" ++ T (ntx neg I F []) ++ T tl ++ T bk ++ Str.ofString "," ++ T bk ++ T (ntx neg2 I2 F2 []) ++ Str.ofString "]" = T (91 :: ntx neg I F tl ++ bk ++ 44 :: bk ++ ntx neg2 I2 F2 [] ++ [93]) from by
        rw [tok_lb, tok_co, tok_rb, ← ntx_app neg I F tl]; simp only [T_app]; congr 1; simp]
      exact rd1 hP hP' hD htl bN hD2 .no bN2 hbk
    have hR2 : ∀ {f : FI} {d : Nat}, Cl (GG w p loose mean mg mb) f (d + 14) (.ref 264) [.str (Str.ofString "[" ++ T (ntx neg2 I2 F2 []) ++ Str.ofString "" ++ T bk ++ Str.ofString "," ++ T bk ++ (T (ntx neg I F []) ++ T tl) ++ Str.ofString "]"), .int P] _ False := fun {f d} => by
      rw [show Str.ofString "[" ++ T (ntx neg2 I2 F2 []) ++ Str.ofString "" ++ T bk ++ Str.ofString "," ++ T bk ++ (T (ntx neg I F []) ++ T tl) ++ Str.ofString "]" = T (91 :: ntx neg2 I2 F2 [] ++ bk ++ 44 :: bk ++ ntx neg I F tl ++ [93]) from by
        rw [tok_lb, tok_co, tok_rb, tok_em, ← ntx_app neg I F tl]; simp only [T_app]; congr 1; simp]
      exact rd1 hP hP' hD2 .no bN2 hD htl bN hbk
    (repeat' walk_at "nx")
    · rename_i a b hA hB v1 hE1 v2 hE2
      refine op_eqPair hE1.is4 hE2.is4 (num_end (.inl ⟨rfl, rfl, rfl⟩) hw0 hB2e hP hA hE1) (num_end (.inr ⟨rfl, rfl, rfl⟩) ho0 hBe hP hB hE2) ?_
      (repeat' walk_at "ms")
      rfl
    · rename_i a b hA hB v1 hE1 v2 hE2
      refine op_eqPair hE1.is4 hE2.is4 (num_end (.inl ⟨rfl, rfl, rfl⟩) ho0 hBe hP hA hE1) (num_end (.inr ⟨rfl, rfl, rfl⟩) hw0 hB2e hP hB hE2) ?_
      (repeat' walk_at "ms")
      rfl
  walk_at "nx"
  by_cases h2 : wy = 2
  · have hs0 : neg = false := hsd (by rw [h2]; rfl)
    subst hs0
    obtain ⟨p5, q5, p50, p51⟩ : ∃ p5 : Int, num ns (5 : Int).toNat % 100 = p5 ∧ 0 ≤ p5 ∧ p5 ≤ 99 := ⟨_, rfl, by omega, by omega⟩
    obtain ⟨p6, q6, p60, p61⟩ : ∃ p6 : Int, num ns (6 : Int).toNat % 100 = p6 ∧ 0 ≤ p6 ∧ p6 ≤ 99 := ⟨_, rfl, by omega, by omega⟩
    obtain ⟨lo, elo, lo0, lo1⟩ : ∃ lo : Int, (if p6 < p5 then p6 else p5) = lo ∧ 0 ≤ lo ∧ lo ≤ 99 := ⟨_, rfl, by split <;> omega, by split <;> omega⟩
    obtain ⟨hi, ehi, hi0, hi1⟩ : ∃ hi : Int, (if p6 > p5 then p6 else p5) = hi ∧ 0 ≤ hi ∧ hi ≤ 99 := ⟨_, rfl, by split <;> omega, by split <;> omega⟩
    obtain ⟨y, ey, y0, y1⟩ : ∃ y : Nat, 10 + lo / 2 = (y : Int) ∧ 10 ≤ y ∧ y ≤ 59 := ⟨(10 + lo / 2).toNat, by omega, by omega, by omega⟩
    obtain ⟨z, ez, z0, z1⟩ : ∃ z : Nat, 10 + hi / 2 = (z : Int) ∧ 10 ≤ z ∧ z ≤ 59 := ⟨(10 + hi / 2).toNat, by omega, by omega, by omega⟩
    have sy : Str.ofString (toString (10 + lo / 2)) = T (dg y) := by rw [ey]; exact dg_str y
    have sz : Str.ofString (toString (10 + hi / 2)) = T (dg z) := by rw [ez]; exact dg_str z
    have ly : (dg y).length = 2 := dg_two y0 (by omega)
    have lz : (dg z).length = 2 := dg_two z0 (by omega)
    have c9 : (Str.ofString ".").length = 1 := by decide +kernel
    have g2' : (2 : Int).natAbs < BIG := small_lt_big (by decide)
    have lI : I.length ≤ 20 := hD.lI
    have lIF : (I ++ pt F).length ≤ 30 := by rw [List.length_append]; simp only [pt, List.length_cons]; omega
    walk_at "nx"
    walk_at "nx"
    refine then_next (exs_join (fun ρ => ρ = [some (.lst (ns.map V.int)), some (.int wy), some (.int P), some (.str (T bk)), some (.str (T (I ++ pt F))), some (.int (N : Int)), some (.int (F.length : Nat)), some (.int m), some (.str (T tl)), some (.tup [.int o0, .int o1]),
      some (.str (T (ntx neg2 I2 F2 []))), some (.int (if neg2 = true then -(N2 : Int) else N2)), some (.int (F2.length : Nat)), some (.tup [.int w0, .int w1]), none, some (.int lo), some (.int hi), none, none, none]) ?_ ?_)
    · by_cases hF0 : F = []
      · have hc : Txt.contains (T (ntx false I F [])) (Str.ofString ".") = false := by
          rw [show Str.ofString "." = T [46] by decide +kernel, contains_one]
          refine decide_eq_false fun k => ?_
          rw [hF0] at k
          have k : 46 ∈ I := by simpa [ntx, sgn] using k
          have := hD.hI _ k
          omega
        (repeat' walk_at "ms")
        show _ = _
        rw [show T (ntx false I F []) ++ Str.ofString "." = T (I ++ pt F) from by rw [show Str.ofString "." = T [46] by decide +kernel, T_app, hF0]; congr 1; simp [ntx, sgn, pt]]
        rfl
      · have hc : Txt.contains (T (ntx false I F [])) (Str.ofString ".") = true := by
          rw [show Str.ofString "." = T [46] by decide +kernel, contains_one]
          simp [ntx, hF0]
        (repeat' walk_at "ms")
        show _ = _
        rw [show T (ntx false I F []) ++ Str.ofString "" = T (I ++ pt F) from by rw [tok_em, T_app]; congr 1; simp [ntx, sgn, pt, hF0]]
        rfl
    rintro _ rfl
    have Dy : Dc I (F ++ dg y) (N * 100 + y) := ⟨hD.hI, hD.nI, AllDigits.app hD.hF (dg_digits y), hD.lI, by rw [List.length_append]; omega, by rw [← List.append_assoc, digitsVal_app, hD.val, ly, dg_val]⟩
    have Dz : Dc I (F ++ dg z) (N * 100 + z) := ⟨hD.hI, hD.nI, AllDigits.app hD.hF (dg_digits z), hD.lI, by rw [List.length_append]; omega, by rw [← List.append_assoc, digitsVal_app, hD.val, lz, dg_val]⟩
    have bY : bl (N * 100 + y) ≤ 100 := Nat.le_trans (bl_le.mpr (show N * 100 + y < 2 ^ 24 by omega)) (by decide)
    have bZ : bl (N * 100 + z) ≤ 100 := Nat.le_trans (bl_le.mpr (show N * 100 + z < 2 ^ 24 by omega)) (by decide)
    have eS : T (I ++ pt F) ++ Str.ofString "[" ++ T (dg y) ++ T bk ++ Str.ofString "," ++ T (dg z) ++ Str.ofString "]" ++ T tl = T (I ++ pt F ++ 91 :: dg y ++ bk ++ 44 :: [] ++ dg z ++ 93 :: tl) := by
      rw [tok_lb, tok_co, tok_rb]; simp only [T_app]; congr 1; simp
    have hR : ∀ {f : FI} {d : Nat}, Cl (GG w p loose mean mg mb) f (d + 14) (.ref 264) [.str (T (I ++ pt F) ++ Str.ofString "[" ++ T (dg y) ++ T bk ++ Str.ofString "," ++ T (dg z) ++ Str.ofString "]" ++ T tl), .int P]
        (fun v => ∃ a b, v = .tup [a, b] ∧ NumV 1 0 false (N * 100 + y) (m - ((F ++ dg y).length : Nat)) P a ∧ NumV 0 1 false (N * 100 + z) (m - ((F ++ dg z).length : Nat)) P b) False := by
      intro f d
      rw [eS]
      exact rd2 hP hP' Dy Dz (dg_ne y) (dg_ne z) htl bY bZ hbk (.inl rfl)
    walk_at "st"
    rename_i a b hA hB
    obtain ⟨u0, u1, Bu, eu, hu0, hBu, hu1, hBu0, bu', bBu', -⟩ := scaled_is false (N := N * 100 + y) (k := F.length + 2) (m := m) (by omega) (by omega) hm0 hm1
    obtain ⟨r0, r1, Br, er, hr0, hBr, hr1, hBr0, br', bBr', -⟩ := scaled_is false (N := N * 100 + z) (k := F.length + 2) (m := m) (by omega) (by omega) hm0 hm1
    have eu' : scaled ((N : Int) * 100 + 10 + lo / 2) ((F.length : Nat) + 2) m = (u0, u1) := by
      rw [← eu]; congr 1; show _ = ((N * 100 + y : Nat) : Int); omega
    have er' : scaled ((N : Int) * 100 + 10 + hi / 2) ((F.length : Nat) + 2) m = (r0, r1) := by
      rw [← er]; congr 1; show _ = ((N * 100 + z : Nat) : Int); omega
    have hpt : ∀ n : Addr, ([(Str.ofString "whole", n), (Str.ofString "more", n + 2), (Str.ofString "behind", n + 1)] : List (Str × Addr)).map (·.1) = [Str.ofString "whole", Str.ofString "more", Str.ofString "behind"] := fun n => rfl
    refine then_next (exs_cons ?_)
    refine' ex_comp1 (sc := { kind := .function, names := [(Str.ofString ".0", .local), (Str.ofString "own", .local), (Str.ofString "_law_scaled", .globalImplicit), (Str.ofString "behind", .cell), (Str.ofString "more", .cell), (Str.ofString "whole", .cell)], isGenerator := false, isCoroutine := false, more := [] }) (cl := [(Str.ofString "whole", n), (Str.ofString "more", n + 2), (Str.ofString "behind", n + 1)]) (gs := [Str.ofString "_law_scaled"]) (vs := [.int lo, .int hi])
      (fun v => match v with | .int i => .tup [.int (scaled ((N : Int) * 100 + 10 + i / 2) ((F.length : Nat) + 2) m).1, .int (scaled ((N : Int) * 100 + 10 + i / 2) ((F.length : Nat) + 2) m).2] | _ => .none)
      [Str.ofString "whole", Str.ofString "behind", Str.ofString "more"] [some (.int (N : Int)), some (.int (F.length : Nat)), some (.int m)] ?hiter rfl ?hclos ?hrel ?hcell rfl ?hnames ?hok ?ho ?hx ?hxc ?hel ?hflat ?hlen ?hset ?hk ?hown ?hsw ?hs
    case hclos => (intro L; rfl)
    case hrel => (intro L; first | rfl | kernel_rfl)
    case hcell => decide
    case hnames => decide +kernel
    case hx => rfl
    case hxc => rfl
    case hlen => (simp)
    case hown => exact .inr rfl
    case hsw => (intro L; rfl)
    case hs => (intros; rfl)
    case hset => walk_at "set"
    case hiter =>
      (repeat' walk_at "ms")
      exact .inl rfl
    case hok =>
      intro C
      exact ok_inner (names := [Str.ofString "whole", Str.ofString "more", Str.ofString "behind"]) ⟨rfl, rfl⟩ (by decide +kernel) rfl (by decide +kernel) (by decide +kernel) (by decide +kernel) (by show [n, n + 2, n + 1].Nodup; simp)
    case ho =>
      intro y u hy
      cases hy with
      | here => exact ⟨by walk_at "get", n, rfl, rfl⟩
      | there hy => cases hy with
        | here => exact ⟨by walk_at "get", n + 1, rfl, rfl⟩
        | there hy => cases hy with
          | here => exact ⟨by walk_at "get", n + 2, rfl, rfl⟩
          | there hy => cases hy
    case hflat =>
      intro v hv
      rcases List.mem_cons.mp hv with rfl | hv
      · rfl
      · obtain rfl : v = .int hi := by simpa using hv
        rfl
    case hel =>
      have gN : (N : Int).natAbs < BIG := small_lt_big (by omega)
      have g100 : (100 : Int).natAbs < BIG := small_lt_big (by decide)
      have lY : ((N : Int) * 100 + 10 + lo / 2).natAbs < 2 ^ 1000 := Nat.lt_of_lt_of_le (show _ < 2 ^ 24 by omega) (Nat.pow_le_pow_right (by decide) (by decide))
      have lZ : ((N : Int) * 100 + 10 + hi / 2).natAbs < 2 ^ 1000 := Nat.lt_of_lt_of_le (show _ < 2 ^ 24 by omega) (Nat.pow_le_pow_right (by decide) (by decide))
      intro C v hv
      rcases List.mem_cons.mp hv with rfl | hv
      · (repeat' walk_at "ms")
        show _ = _
        simp only [eu']
      · obtain rfl : v = .int hi := by simpa using hv
        (repeat' walk_at "ms")
        show _ = _
        simp only [er']
    simp only [List.map_cons, List.map_nil, eu', er']
    have bu := bl_300 bu' (by decide)
    have bBu := bl_300 bBu' (by decide)
    have br := bl_300 br' (by decide)
    have bBr := bl_300 bBr' (by decide)
    have e1 : ((F ++ dg y).length : Nat) = F.length + 2 := by rw [List.length_append, ly]
    have e2 : ((F ++ dg z).length : Nat) = F.length + 2 := by rw [List.length_append, lz]
    rw [e1] at hA
    rw [e2] at hB
    (repeat' walk_at "nx")
    rename_i v1 hE1 v2 hE2
    refine op_eqPair hE1.is4 hE2.is4 (num_end (.inl ⟨rfl, rfl, rfl⟩) hu0 hBu hP hA hE1) (num_end (.inr ⟨rfl, rfl, rfl⟩) hr0 hBr hP hB hE2) ?_
    (repeat' walk_at "ms")
    rfl
  walk_at "nx"
  have hs2 : neg2 = false := hsd2 (by simpa using h1)
  subst hs2
  obtain ⟨x, hx⟩ : ∃ x, x = sq (bn neg) (tenQ N (m - F.length)) := ⟨_, rfl⟩
  obtain ⟨ax, hax⟩ : ∃ ax, ax = tenQ N (m - F.length) := ⟨_, rfl⟩
  obtain ⟨a0, ha0⟩ : ∃ a0 : Int, (if o0 < 0 then -o0 else o0) = a0 := ⟨_, rfl⟩
  have ex : x * (o1 : Rat) = (o0 : Rat) := by rw [hx]; exact rat_one neg N _ ho0 ho1 hBe
  have eax : ax * (o1 : Rat) = (a0 : Rat) := by rw [hax, ← ha0]; exact rat_abs neg N _ ho0 ho1 hBe
  have eY : tenQ N2 (0 - F2.length) * (w1 : Rat) = (w0 : Rat) := rat_pos N2 _ hw0 hw1 hB2e
  have ho1p : 0 < o1 := by rw [ho1]; exact Int.natCast_pos.mpr hB0
  have hw1p : 0 < w1 := by rw [hw1]; exact Int.natCast_pos.mpr hB20
  refine then_next (exs_join (fun ρ => ∃ (a b : V) (Y : Rat) (x0 x1 : Int), ρ = [some (.lst (ns.map V.int)), some (.int wy), some (.int P), some (.str (T bk)), some (.str (T (ntx neg I F []))), some (.int (if neg = true then -(N : Int) else N)), some (.int (F.length : Nat)), some (.int m), some (.str (T tl)),
      some (.tup [.int o0, .int o1]), some (.str (T (ntx false I2 F2 []))), some (.int (if false = true then -(N2 : Int) else N2)), some (.int (F2.length : Nat)), some (.tup [.int x0, .int x1]), some (.tup [a, b]), none, none, none, none, none] ∧
      NearV true P (x - Y) (ax + Y) a ∧ NearV false P (x + Y) (ax + Y) b ∧ Y * (x1 : Rat) = (x0 : Rat) ∧ 0 < x1 ∧ x0.natAbs < 2 ^ 120 ∧ x1.natAbs < 2 ^ 80) ?_ ?_)
  · have gow : (o1 * w1).natAbs < BIG := lt_big (k := 68) (by
      have h3 : B * B2 < 2 ^ 34 * 2 ^ 34 := Nat.mul_lt_mul'' bB' bB2'
      rw [Int.natAbs_mul, ho1, hw1, Int.natAbs_natCast, Int.natAbs_natCast]
      exact Nat.lt_of_lt_of_le h3 (by rw [← Nat.pow_add]; exact Nat.le_refl _)) (by decide)
    have g100 : (100 : Int).natAbs < BIG := small_lt_big (by decide)
    have ba0 : a0.natAbs < 2 ^ 58 := by rw [← ha0]; split <;> omega
    have ga0 : a0.natAbs < BIG := lt_big ba0 (by decide)
    have bx0 : w0.natAbs < 2 ^ 120 := Nat.lt_of_lt_of_le bw' (Nat.pow_le_pow_right (by decide) (by decide))
    have bx1 : w1.natAbs < 2 ^ 80 := by rw [hw1, Int.natAbs_natCast]; exact Nat.lt_of_lt_of_le bB2' (Nat.pow_le_pow_right (by decide) (by decide))
    have h345 : wy = 3 ∨ wy = 4 ∨ wy = 5 := by omega
    rcases h345 with rfl | rfl | rfl
    · have hR : ∀ {f : FI} {d : Nat}, Cl (GG w p loose mean mg mb) f (d + 14) (.ref 264) [.str (T (ntx neg I F []) ++ T tl ++ T bk ++ Str.ofString "+-" ++ T bk ++ T (ntx false I2 F2 [])), .int P] _ False := fun {f d} => by
        rw [show T (ntx neg I F []) ++ T tl ++ T bk ++ Str.ofString "+-" ++ T bk ++ T (ntx false I2 F2 []) = T (ntx neg I F tl ++ bk ++ 43 :: 45 :: bk ++ ntx false I2 F2 []) from by
          rw [tok_pm, ← ntx_app neg I F tl]; simp only [T_app]; congr 1; simp]
        exact rd3 hP hP' hD htl hD2 hN hN2 hF hF2 hbk
      (repeat' walk_at "ms")
      rename_i a b hA hB
      rw [← hx, ← hax] at hA hB
      exact ⟨a, b, _, w0, w1, rfl, hA, hB, eY, hw1p, bx0, bx1⟩
    · have hR : ∀ {f : FI} {d : Nat}, Cl (GG w p loose mean mg mb) f (d + 14) (.ref 264) [.str (T (ntx neg I F []) ++ T tl ++ T bk ++ Str.ofString "(" ++ T (ntx false I2 F2 []) ++ Str.ofString ")"), .int P] _ False := fun {f d} => by
        rw [show T (ntx neg I F []) ++ T tl ++ T bk ++ Str.ofString "(" ++ T (ntx false I2 F2 []) ++ Str.ofString ")" = T (ntx neg I F tl ++ bk ++ 40 :: ntx false I2 F2 [] ++ [41]) from by
          rw [tok_lp, tok_rp, ← ntx_app neg I F tl]; simp only [T_app]; congr 1; simp]
        exact rd4 hP hP' hD htl hD2 hN hN2 hF hF2 hbk
      (repeat' walk_at "ms")
      rename_i a b hA hB
      rw [← hx, ← hax] at hA hB
      exact ⟨a, b, _, w0, w1, rfl, hA, hB, eY, hw1p, bx0, bx1⟩
    · have hR : ∀ {f : FI} {d : Nat}, Cl (GG w p loose mean mg mb) f (d + 14) (.ref 264) [.str (T (ntx neg I F []) ++ T tl ++ T bk ++ Str.ofString "(" ++ T (ntx false I2 F2 []) ++ Str.ofString "%)"), .int P] _ False := fun {f d} => by
        rw [show T (ntx neg I F []) ++ T tl ++ T bk ++ Str.ofString "(" ++ T (ntx false I2 F2 []) ++ Str.ofString "%)" = T (ntx neg I F tl ++ bk ++ 40 :: ntx false I2 F2 [] ++ [37, 41]) from by
          rw [tok_lp, show Str.ofString "%)" = T [37, 41] by decide +kernel, ← ntx_app neg I F tl]; simp only [T_app]; congr 1; simp]
        exact rd5 hP hP' hD htl hD2 hN hN2 hF hF2 hbk
      (repeat' walk_at "ms")
      rename_i a b hA hB
      rw [← hx, ← hax] at hA hB
      refine ⟨a, b, _, a0 * w0, o1 * w1 * 100, rfl, hA, hB, ?_, Int.mul_pos (Int.mul_pos ho1p hw1p) (by decide), ?_, ?_⟩
      · rw [Rat.intCast_mul, Rat.intCast_mul, Rat.intCast_mul, ← eax, ← eY]
        have e100 : ((100 : Int) : Rat) = 100 := rfl
        rw [e100]
        grind
      · rw [Int.natAbs_mul]
        have h3 : a0.natAbs * w0.natAbs < 2 ^ 58 * 2 ^ 58 := Nat.mul_lt_mul'' ba0 bw'
        exact Nat.lt_of_lt_of_le h3 (by rw [← Nat.pow_add]; exact Nat.pow_le_pow_right (by decide) (by decide))
      · rw [Int.natAbs_mul, Int.natAbs_mul, ho1, hw1, Int.natAbs_natCast, Int.natAbs_natCast]
        have h3 : B * B2 < 2 ^ 34 * 2 ^ 34 := Nat.mul_lt_mul'' bB' bB2'
        have h4 : B * B2 * 100 < 2 ^ 34 * 2 ^ 34 * 2 ^ 7 := Nat.mul_lt_mul'' h3 (by decide)
        exact Nat.lt_of_lt_of_le h4 (by rw [← Nat.pow_add, ← Nat.pow_add]; exact Nat.pow_le_pow_right (by decide) (by decide))
  rintro _ ⟨a, b, Y, x0, x1, rfl, hA, hB, eY', hx1p, bx0, bx1⟩
  have ba0 : a0.natAbs < 2 ^ 58 := by rw [← ha0]; split <;> omega
  have bo1 : o1.natAbs < 2 ^ 34 := by rw [ho1, Int.natAbs_natCast]; exact bB'
  have ga0 : a0.natAbs < BIG := lt_big ba0 (by decide)
  have gx0 : x0.natAbs < BIG := lt_big bx0 (by decide)
  have gx1 : x1.natAbs < BIG := lt_big bx1 (by decide)
  have m1 : (o0 * x1).natAbs < 2 ^ 138 := by
    rw [Int.natAbs_mul]
    exact Nat.lt_of_lt_of_le (Nat.mul_lt_mul'' bo' bx1) (by rw [← Nat.pow_add]; exact Nat.le_refl _)
  have m2 : (x0 * o1).natAbs < 2 ^ 154 := by
    rw [Int.natAbs_mul]
    exact Nat.lt_of_lt_of_le (Nat.mul_lt_mul'' bx0 bo1) (by rw [← Nat.pow_add]; exact Nat.le_refl _)
  have m3 : (a0 * x1).natAbs < 2 ^ 138 := by
    rw [Int.natAbs_mul]
    exact Nat.lt_of_lt_of_le (Nat.mul_lt_mul'' ba0 bx1) (by rw [← Nat.pow_add]; exact Nat.le_refl _)
  have m4 : (o1 * x1).natAbs < 2 ^ 400 := by
    rw [Int.natAbs_mul]
    exact Nat.lt_of_lt_of_le (Nat.mul_lt_mul'' bo1 bx1) (by rw [← Nat.pow_add]; exact Nat.pow_le_pow_right (by decide) (by decide))
  have p400 : 2 ^ 138 + 2 ^ 154 < 2 ^ 400 := by decide +kernel
  have n1 : (o0 * x1 - x0 * o1).natAbs < 2 ^ 400 := by omega
  have n2 : (o0 * x1 + x0 * o1).natAbs < 2 ^ 400 := by omega
  have n3 : (a0 * x1 + x0 * o1).natAbs < 2 ^ 400 := by omega
  have pos := Int.mul_pos ho1p hx1p
  have z1 : (x - Y) * ((o1 * x1 : Int) : Rat) = ((o0 * x1 - x0 * o1 : Int) : Rat) := by
    rw [Rat.intCast_sub, Rat.intCast_mul, Rat.intCast_mul, Rat.intCast_mul, ← ex, ← eY']; grind
  have z2 : (x + Y) * ((o1 * x1 : Int) : Rat) = ((o0 * x1 + x0 * o1 : Int) : Rat) := by
    rw [Rat.intCast_add, Rat.intCast_mul, Rat.intCast_mul, Rat.intCast_mul, ← ex, ← eY']; grind
  have z3 : (ax + Y) * ((o1 * x1 : Int) : Rat) = ((a0 * x1 + x0 * o1 : Int) : Rat) := by
    rw [Rat.intCast_add, Rat.intCast_mul, Rat.intCast_mul, Rat.intCast_mul, ← eax, ← eY']; grind
  have N1 : ∀ {f : FI} {d : Nat}, Cl (GG w p loose mean mg mb) f (d + 2) (.ref 313) [a, .int (o0 * x1 - x0 * o1), .int (o1 * x1), .tup [.int (a0 * x1 + x0 * o1), .int (o1 * x1)], .int P, .bool true] (fun v => v = .bool true) False := fun {f d} => fn_nearI hA hP' pos pos z1 z3 n1 m4 n3 m4
  have N2' : ∀ {f : FI} {d : Nat}, Cl (GG w p loose mean mg mb) f (d + 2) (.ref 313) [b, .int (o0 * x1 + x0 * o1), .int (o1 * x1), .tup [.int (a0 * x1 + x0 * o1), .int (o1 * x1)], .int P, .bool false] (fun v => v = .bool true) False := fun {f d} => fn_nearI hB hP' pos pos z2 z3 n2 m4 n3 m4
  walk_at "st"
  walk_at "nx"
  (repeat' walk_at "nx")
  rfl
end

end
section
local macro_rules | `(tactic| walk_at "exmore") => `(tactic| ((with_reducible refine' ex_swap2 ?hs ?hk ?h1); (case hs => (intro; kernel_rfl)); (case h1 => (intro; rfl))))
local macro_rules | `(tactic| walk_at "m0") => `(tactic| ((with_reducible show (∃ _ _, V.tup _ = V.tup _ ∧ _)); (with_reducible refine ⟨_, _, rfl, ?_⟩)))
local macro_rules | `(tactic| walk_at "tst") => `(tactic| (with_reducible refine tst_if ?_))
section
variable {w : World} {p : Program} {loose : List Str} {mean : ExcName → Option Value} {mg mb : Str → Option Value} {f : FI} {d : Nat} {X : Prop}
/-! halves of whole numbers, compared -/
theorem cmp_int {a b s1 s2 e1 e2 : Int} {M1 M2 k1 k2 : Nat} {v1 v2 : V} (h1 : Mpf v1 s1 M1 e1) (h2 : Mpf v2 s2 M2 e2) (g1 : M1 = 0 → a = 0) (f1 : M1 ≠ 0 → s1 = sg a ∧ e1 = -1 + k1 ∧ a.natAbs = M1 * 2 ^ k1)
    (g2 : M2 = 0 → b = 0) (f2 : M2 ≠ 0 → s2 = sg b ∧ e2 = -1 + k2 ∧ b.natAbs = M2 * 2 ^ k2) : cmpI s1 M1 e1 s2 M2 e2 = if a < b then -1 else if a = b then 0 else 1 := by
  have nz : ∀ {x : Int} {M k : Nat}, M ≠ 0 → x.natAbs = M * 2 ^ k → x ≠ 0 := fun {x M k} hM e h0 => by
    subst h0
    have := Nat.mul_pos (Nat.pos_of_ne_zero hM) (two_pos k)
    omega
  by_cases z1 : M1 = 0
  · obtain ⟨rfl, rfl⟩ : s1 = 0 ∧ e1 = 0 := by
      rcases h1.hm with h | h
      · omega
      · exact h.2
    rw [z1, cmpI_z1 h2.hs, g1 z1]
    by_cases z2 : M2 = 0
    · rw [if_pos z2, g2 z2]; rfl
    · rw [if_neg z2]
      obtain ⟨e, -, e'⟩ := f2 z2
      have := nz z2 e'
      rw [e]
      unfold sg
      (repeat' split) <;> omega
  by_cases z2 : M2 = 0
  · obtain ⟨rfl, rfl⟩ : s2 = 0 ∧ e2 = 0 := by
      rcases h2.hm with h | h
      · omega
      · exact h.2
    rw [z2, cmpI_z2 h1.hs, g2 z2, if_neg z1]
    obtain ⟨e, -, e'⟩ := f1 z1
    have := nz z1 e'
    rw [e]
    unfold sg
    (repeat' split) <;> omega
  obtain ⟨x1, y1, w1⟩ := f1 z1
  obtain ⟨x2, y2, w2⟩ := f2 z2
  have n2 := nz z2 w2
  have x2' : 1 - s2 = sg (-b) := by
    rw [x2]; unfold sg
    (repeat' split) <;> omega
  obtain ⟨k, -, hk⟩ := addI_int (a := a) (b := -b) (E := -1) x1 x2' y1 y2 w1 (show (-b).natAbs = M2 * 2 ^ k2 by omega)
  have hp : (0 : Int) < 2 ^ k := Int.pow_pos (by decide)
  unfold cmpI
  simp only
  generalize addI s1 M1 e1 (1 - s2) M2 e2 = D at *
  by_cases q1 : D < 0
  · have := Int.mul_neg_of_neg_of_pos q1 hp
    rw [if_pos q1, if_pos (by omega)]
  · by_cases q2 : D = 0
    · subst q2
      rw [Int.zero_mul] at hk
      rw [if_neg q1, if_pos rfl, if_neg (by omega), if_pos (by omega)]
    · have := Int.mul_pos (show 0 < D by omega) hp
      rw [if_neg q1, if_neg q2, if_neg (by omega), if_neg (by omega)]
/-- a half of a whole number, as the program holds it -/
def hz (a : Int) : V := canon (sg a) a.natAbs (-1)
/-- what a comparison is told by -/
def oc (y n : Bool) : Str := if y then Str.ofString "yes" else if n then Str.ofString "no" else Str.ofString "refused"
def OcB (y n : Bool) (v : V) : Prop := ∃ t : Bool, v = .bool t ∧ ((t = true ∧ y = true) ∨ (t = false ∧ y = false ∧ n = true))
theorem oc_of {y n : Bool} {v : V} (h : OcB y n v) : ∃ b, v = .bool b ∧ (if b then Str.ofString "yes" else Str.ofString "no") = oc y n := by
  obtain ⟨t, rfl, h⟩ := h
  rcases h with ⟨rfl, rfl⟩ | ⟨rfl, rfl, rfl⟩
  · exact ⟨true, rfl, rfl⟩
  · exact ⟨false, rfl, rfl⟩
theorem bl_41 {a : Int} (h : -100 ≤ a) (h' : a ≤ 100) : bl a.natAbs ≤ 100 := Nat.le_trans (bl_le.mpr (show a.natAbs < 2 ^ 10 by omega)) (by decide)
theorem hz_near {M1 M2 k1 k2 : Nat} {e1 e2 : Int} (a1 : M1 ≠ 0 → e1 = -1 + k1 ∧ k1 ≤ 1000) (a2 : M2 ≠ 0 → e2 = -1 + k2 ∧ k2 ≤ 1000) : M1 = 0 ∨ M2 = 0 ∨ (e1 - e2 ≤ 5000 ∧ e2 - e1 ≤ 5000) := by
  by_cases z1 : M1 = 0
  · exact .inl z1
  by_cases z2 : M2 = 0
  · exact .inr (.inl z2)
  have := a1 z1
  have := a2 z2
  exact .inr (.inr ⟨by omega, by omega⟩)
theorem lt_of {x y : Int} : ((if x < y then (-1 : Int) else if x = y then 0 else 1) < 0) ↔ x < y := by
  split
  · simp_all
  · split <;> simp_all
theorem ge_of {x y : Int} : (0 ≤ (if x < y then (-1 : Int) else if x = y then 0 else 1)) ↔ y ≤ x := by
  split
  · simp; omega
  · split <;> simp <;> omega
theorem le_of {x y : Int} : ((if x < y then (-1 : Int) else if x = y then 0 else 1) ≤ 0) ↔ x ≤ y := by
  split
  · simp; omega
  · split <;> simp <;> omega
theorem gt_of {x y : Int} : (0 < (if x < y then (-1 : Int) else if x = y then 0 else 1)) ↔ y < x := by
  split
  · simp; omega
  · split <;> simp <;> omega
theorem ans_lt_is {a b c e : Int} {t : Option Bool} (h : ans_lt (if b < c then (-1 : Int) else if b = c then 0 else 1) (if a < e then (-1 : Int) else if a = e then 0 else 1) = t) :
    (t = none → decide (b < c) = false ∧ decide (e ≤ a) = false) ∧ ∀ u, t = some u → OcB (decide (b < c)) (decide (e ≤ a)) (.bool u) := by
  unfold ans_lt at h
  simp only [lt_of, ge_iff_le, ge_of] at h
  subst h
  by_cases h1 : b < c
  · simp only [h1, if_true]
    exact ⟨by simp, fun u hu => ⟨u, rfl, .inl ⟨by simpa using hu.symm, by simp⟩⟩⟩
  · by_cases h2 : e ≤ a
    · simp only [h1, h2, if_false, if_true]
      exact ⟨by simp, fun u hu => ⟨u, rfl, .inr ⟨by simpa using hu.symm, by simp, by simp⟩⟩⟩
    · simp only [h1, h2, if_false]
      exact ⟨by simp, fun u hu => by cases hu⟩
theorem ans_le_is {a b c e : Int} {t : Option Bool} (h : ans_le (if b < c then (-1 : Int) else if b = c then 0 else 1) (if a < e then (-1 : Int) else if a = e then 0 else 1) = t) :
    (t = none → decide (b ≤ c) = false ∧ decide (e < a) = false) ∧ ∀ u, t = some u → OcB (decide (b ≤ c)) (decide (e < a)) (.bool u) := by
  unfold ans_le at h
  simp only [le_of, gt_iff_lt, gt_of] at h
  subst h
  by_cases h1 : b ≤ c
  · simp only [h1, if_true]
    exact ⟨by simp, fun u hu => ⟨u, rfl, .inl ⟨by simpa using hu.symm, by simp⟩⟩⟩
  · by_cases h2 : e < a
    · simp only [h1, h2, if_false, if_true]
      exact ⟨by simp, fun u hu => ⟨u, rfl, .inr ⟨by simpa using hu.symm, by simp, by simp⟩⟩⟩
    · simp only [h1, h2, if_false]
      exact ⟨by simp, fun u hu => by cases hu⟩
section
variable {a b c e : Int} (ha : -20 ≤ a ∧ a ≤ 20) (hb : -20 ≤ b ∧ b ≤ 20) (hc : -20 ≤ c ∧ c ≤ 20) (he : -20 ≤ e ∧ e ≤ 20)
include ha hb hc he
theorem fn_hz_lt : Cl (GG w p loose mean mg mb) f (d + 10) (.ref 208) [.tup [hz a, hz b], .tup [hz c, hz e]] (OcB (decide (b < c)) (decide (e ≤ a))) (decide (b < c) = false ∧ decide (e ≤ a) = false) := by
  obtain ⟨s1, M1, e1, k1, m1, g1, f1⟩ := mpf_int a (-1) (by have := bl_41 (a := a) (by omega) (by omega); omega)
  obtain ⟨s2, M2, e2, k2, m2, g2, f2⟩ := mpf_int b (-1) (by have := bl_41 (a := b) (by omega) (by omega); omega)
  obtain ⟨s3, M3, e3, k3, m3, g3, f3⟩ := mpf_int c (-1) (by have := bl_41 (a := c) (by omega) (by omega); omega)
  obtain ⟨s4, M4, e4, k4, m4, g4, f4⟩ := mpf_int e (-1) (by have := bl_41 (a := e) (by omega) (by omega); omega)
  have q1 := cmp_int m2 m3 g2 (fun h => ⟨(f2 h).1, (f2 h).2.1, (f2 h).2.2.1⟩) g3 (fun h => ⟨(f3 h).1, (f3 h).2.1, (f3 h).2.2.1⟩)
  have q2 := cmp_int m1 m4 g1 (fun h => ⟨(f1 h).1, (f1 h).2.1, (f1 h).2.2.1⟩) g4 (fun h => ⟨(f4 h).1, (f4 h).2.1, (f4 h).2.2.1⟩)
  refine Cl.mono (fn_mpi_lt m1 m2 m3 m4 (hz_near (fun h => ⟨(f2 h).2.1, (f2 h).2.2.2⟩) fun h => ⟨(f3 h).2.1, (f3 h).2.2.2⟩) (hz_near (fun h => ⟨(f1 h).2.1, (f1 h).2.2.2⟩) fun h => ⟨(f4 h).2.1, (f4 h).2.2.2⟩) fun h => ?_) fun v hv => ?_
  · rw [q1, q2] at h
    exact (ans_lt_is rfl).1 h
  · obtain ⟨t, h, rfl⟩ := hv
    rw [q1, q2] at h
    exact (ans_lt_is rfl).2 t h
theorem fn_hz_le : Cl (GG w p loose mean mg mb) f (d + 10) (.ref 215) [.tup [hz a, hz b], .tup [hz c, hz e]] (OcB (decide (b ≤ c)) (decide (e < a))) (decide (b ≤ c) = false ∧ decide (e < a) = false) := by
  obtain ⟨s1, M1, e1, k1, m1, g1, f1⟩ := mpf_int a (-1) (by have := bl_41 (a := a) (by omega) (by omega); omega)
  obtain ⟨s2, M2, e2, k2, m2, g2, f2⟩ := mpf_int b (-1) (by have := bl_41 (a := b) (by omega) (by omega); omega)
  obtain ⟨s3, M3, e3, k3, m3, g3, f3⟩ := mpf_int c (-1) (by have := bl_41 (a := c) (by omega) (by omega); omega)
  obtain ⟨s4, M4, e4, k4, m4, g4, f4⟩ := mpf_int e (-1) (by have := bl_41 (a := e) (by omega) (by omega); omega)
  have q1 := cmp_int m2 m3 g2 (fun h => ⟨(f2 h).1, (f2 h).2.1, (f2 h).2.2.1⟩) g3 (fun h => ⟨(f3 h).1, (f3 h).2.1, (f3 h).2.2.1⟩)
  have q2 := cmp_int m1 m4 g1 (fun h => ⟨(f1 h).1, (f1 h).2.1, (f1 h).2.2.1⟩) g4 (fun h => ⟨(f4 h).1, (f4 h).2.1, (f4 h).2.2.1⟩)
  refine Cl.mono (fn_mpi_le m1 m2 m3 m4 (hz_near (fun h => ⟨(f2 h).2.1, (f2 h).2.2.2⟩) fun h => ⟨(f3 h).2.1, (f3 h).2.2.2⟩) (hz_near (fun h => ⟨(f1 h).2.1, (f1 h).2.2.2⟩) fun h => ⟨(f4 h).2.1, (f4 h).2.2.2⟩) fun h => ?_) fun v hv => ?_
  · rw [q1, q2] at h
    exact (ans_le_is rfl).1 h
  · obtain ⟨t, h, rfl⟩ := hv
    rw [q1, q2] at h
    exact (ans_le_is rfl).2 t h
theorem fn_hz_gt : Cl (GG w p loose mean mg mb) f (d + 11) (.ref 222) [.tup [hz a, hz b], .tup [hz c, hz e]] (OcB (decide (e < a)) (decide (b ≤ c))) (decide (e < a) = false ∧ decide (b ≤ c) = false) := by
  obtain ⟨s1, M1, e1, k1, m1, g1, f1⟩ := mpf_int a (-1) (by have := bl_41 (a := a) (by omega) (by omega); omega)
  obtain ⟨s2, M2, e2, k2, m2, g2, f2⟩ := mpf_int b (-1) (by have := bl_41 (a := b) (by omega) (by omega); omega)
  obtain ⟨s3, M3, e3, k3, m3, g3, f3⟩ := mpf_int c (-1) (by have := bl_41 (a := c) (by omega) (by omega); omega)
  obtain ⟨s4, M4, e4, k4, m4, g4, f4⟩ := mpf_int e (-1) (by have := bl_41 (a := e) (by omega) (by omega); omega)
  have q1 := cmp_int m4 m1 g4 (fun h => ⟨(f4 h).1, (f4 h).2.1, (f4 h).2.2.1⟩) g1 (fun h => ⟨(f1 h).1, (f1 h).2.1, (f1 h).2.2.1⟩)
  have q2 := cmp_int m3 m2 g3 (fun h => ⟨(f3 h).1, (f3 h).2.1, (f3 h).2.2.1⟩) g2 (fun h => ⟨(f2 h).1, (f2 h).2.1, (f2 h).2.2.1⟩)
  refine Cl.mono (fn_mpi_gt m1 m2 m3 m4 (hz_near (fun h => ⟨(f4 h).2.1, (f4 h).2.2.2⟩) fun h => ⟨(f1 h).2.1, (f1 h).2.2.2⟩) (hz_near (fun h => ⟨(f3 h).2.1, (f3 h).2.2.2⟩) fun h => ⟨(f2 h).2.1, (f2 h).2.2.2⟩) fun h => ?_) fun v hv => ?_
  · rw [q1, q2] at h
    exact (ans_lt_is rfl).1 h
  · obtain ⟨t, h, rfl⟩ := hv
    rw [q1, q2] at h
    exact (ans_lt_is rfl).2 t h
theorem fn_hz_ge : Cl (GG w p loose mean mg mb) f (d + 11) (.ref 229) [.tup [hz a, hz b], .tup [hz c, hz e]] (OcB (decide (e ≤ a)) (decide (b < c))) (decide (e ≤ a) = false ∧ decide (b < c) = false) := by
  obtain ⟨s1, M1, e1, k1, m1, g1, f1⟩ := mpf_int a (-1) (by have := bl_41 (a := a) (by omega) (by omega); omega)
  obtain ⟨s2, M2, e2, k2, m2, g2, f2⟩ := mpf_int b (-1) (by have := bl_41 (a := b) (by omega) (by omega); omega)
  obtain ⟨s3, M3, e3, k3, m3, g3, f3⟩ := mpf_int c (-1) (by have := bl_41 (a := c) (by omega) (by omega); omega)
  obtain ⟨s4, M4, e4, k4, m4, g4, f4⟩ := mpf_int e (-1) (by have := bl_41 (a := e) (by omega) (by omega); omega)
  have q1 := cmp_int m4 m1 g4 (fun h => ⟨(f4 h).1, (f4 h).2.1, (f4 h).2.2.1⟩) g1 (fun h => ⟨(f1 h).1, (f1 h).2.1, (f1 h).2.2.1⟩)
  have q2 := cmp_int m3 m2 g3 (fun h => ⟨(f3 h).1, (f3 h).2.1, (f3 h).2.2.1⟩) g2 (fun h => ⟨(f2 h).1, (f2 h).2.1, (f2 h).2.2.1⟩)
  refine Cl.mono (fn_mpi_ge m1 m2 m3 m4 (hz_near (fun h => ⟨(f4 h).2.1, (f4 h).2.2.2⟩) fun h => ⟨(f1 h).2.1, (f1 h).2.2.2⟩) (hz_near (fun h => ⟨(f3 h).2.1, (f3 h).2.2.2⟩) fun h => ⟨(f2 h).2.1, (f2 h).2.2.2⟩) fun h => ?_) fun v hv => ?_
  · rw [q1, q2] at h
    exact (ans_le_is rfl).1 h
  · obtain ⟨t, h, rfl⟩ := hv
    rw [q1, q2] at h
    exact (ans_le_is rfl).2 t h
end
theorem sg_cases (i : Int) : sg i = 0 ∨ sg i = 1 := by unfold sg; split <;> simp
theorem hz_flat (a : Int) : (hz a).flat = true := by
  unfold hz canon tup4
  split <;> rfl
/-- the half of a whole number, made -/
theorem fn_hz {a : Int} : Cl (GG w p loose mean mg mb) f (d + 2) (.ref 54) [.int a, .int (-1)] (fun v => v = hz a) X := by
  by_cases h : a < 0
  · obtain ⟨n, rfl, hn⟩ : ∃ n : Nat, a = -(n : Int) ∧ 0 < n := ⟨a.natAbs, by omega, by omega⟩
    refine Cl.eq (fn_from_man_exp2n hn) ?_
    unfold hz
    rw [show sg (-(n : Int)) = 1 from if_pos h, Int.natAbs_neg, Int.natAbs_natCast]
  · obtain ⟨n, rfl⟩ : ∃ n : Nat, a = (n : Int) := ⟨a.natAbs, by omega⟩
    refine Cl.eq fn_from_man_exp2p ?_
    unfold hz
    rw [show sg (n : Int) = 0 from if_neg h, Int.natAbs_natCast]
/-! the middle and the width -/
theorem mid_is {t : Int} {P : Nat} {v : V} (hP : 1 ≤ P) (h : EndV 2 t 4 P v) : normR rN (sg t) t.natAbs (-2) P = v := by
  by_cases h0 : t = 0
  · rw [h.1 h0, h0]
    show normR rN 0 0 (-2) P = _
    exact normN_zero _ _ _
  · have r := h.2 h0
    have e : rW 2 t = rN := if_pos rfl
    rw [e] at r
    have q := rq_norm rnd_n (s := sg t) (m := t.natAbs) (by omega) hP 0 2
    rw [Nat.pow_zero, Nat.mul_one] at q
    exact rq_unique rnd_n (by decide) (by decide) hP q r rfl
theorem delta_is {t : Int} {P : Nat} {v : V} (hP : 1 ≤ P) (ht : 0 ≤ t) (h : EndV 1 t 2 P v) : normR (rU false) (sg t) t.natAbs (-1) P = v := by
  by_cases h0 : t = 0
  · rw [h.1 h0, h0]
    show normR (rU false) 0 0 (-1) P = _
    rw [← norm_eq]
    exact norm_zero _ _ _ _
  · have r := h.2 h0
    have e : rW 1 t = rU false := by
      unfold rW
      rw [if_neg (by decide)]
      have : 0 < t := by omega
      simp [this]
    rw [e] at r
    have q := rq_norm (rnd_d false) (s := sg t) (m := t.natAbs) (by omega) hP 0 1
    rw [Nat.pow_zero, Nat.mul_one] at q
    exact rq_unique (rnd_d false) (by decide) (by decide) hP q r rfl
/-! rows of answers -/
theorem any_false (x y z u : Bool) : (!(V.pds [.bool x, .bool y, .bool z, .bool u]).any fun t => PyData.eqv t (V.bool false).pd) = (x && y && z && u) := by
  cases x <;> cases y <;> cases z <;> cases u <;> simp [V.pds, V.pd, PyData.eqv]
theorem any_true (x y z u : Bool) : (!(V.pds [.bool x, .bool y, .bool z, .bool u]).any fun t => PyData.eqv t (V.bool true).pd) = (!x && !y && !z && !u) := by
  cases x <;> cases y <;> cases z <;> cases u <;> simp [V.pds, V.pd, PyData.eqv]
theorem fine_row (x y z u : Bool) : V.fines [.bool x, .bool y, .bool z, .bool u] = true ∧ PyData.canLayAll0 (V.pds [.bool x, .bool y, .bool z, .bool u]) = true := by
  constructor <;> simp [V.fines, V.fine, V.pds, V.pd, PyData.canLayAll0, PyData.canLay0]
end

end
section
local macro_rules | `(tactic| walk_at "exmore") => `(tactic| ((with_reducible refine' ex_swap2 ?hs ?hk ?h1); (case hs => (intro; kernel_rfl)); (case h1 => (intro; rfl))))
local macro_rules | `(tactic| walk_at "m0") => `(tactic| ((with_reducible show (∃ _ _, V.tup _ = V.tup _ ∧ _)); (with_reducible refine ⟨_, _, rfl, ?_⟩)))
local macro_rules | `(tactic| walk_at "tst") => `(tactic| (with_reducible refine tst_if ?_))
section
variable {w : World} {p : Program} {loose : List Str} {mean : ExcName → Option Value} {mg mb : Str → Option Value} {f : FI} {d : Nat} {X Y : Prop} {ρ : Loc}
/-- a comparison under _law_outcome -/
theorem ev_cmpOut {y n : Bool} {np pos lpos : Pos} {params : Arguments} {body : Expr} {scope : Scope} {clos : List (Str × Addr)} {c P : Addr} {q : Str} {nsl gsl : List Str} {ρl : Loc} {Ψ : V → Loc → Prop}
    (hm : InL f.gs (Str.ofString "_law_outcome")) (hcomp : f.comp = none) (hccd : f.ccd = .ref c) (hC : codeHdIn (hd.heap_39 w.params) c P = true) (ht : (P, q) ∈ f.tabs) (hu : ∀ t ∈ f.tabs, t.1 = P → t.2 = q) (hq : f.cn ++ ".<locals>." ++ "<lambda>" = q)
    (hdef : ∀ env, defaultsOf params env = ([], [])) (hcl : ∀ L, closureFor scope (f.fenv L) = pure clos)
    (hb : ∀ name pm c ctv, bindArgs (kla_fn name q params body scope clos pm c ctv) ⟨[], []⟩ = pure []) (hokl : ∀ a c, (FIl q scope a c clos nsl gsl).Ok)
    (hco : scope.isCoroutine = false) (hgen : scope.isGenerator = false) (hcell : ∀ x ∈ scope.names, x.2 ≠ .cell)
    (hfree : ∀ x v, GetN nsl ρl x v → GetN f.ns ρ x v ∧ ∃ c, clos.lookup x = some c ∧ f.cl.lookup x = some c)
    (hbody : ∀ a c, Ev (GG w p loose mean mg mb) (FIl q scope a c clos nsl gsl) d body ρl (fun v _ => OcB y n v) (y = false ∧ n = false)) (hk : Ψ (.str (oc y n)) ρ) :
    Ev (GG w p loose mean mg mb) f (d + 2) (.Call (.Name (Str.ofString "_law_outcome") np) [.Lambda params body scope lpos] [] pos) ρ Ψ Y :=
  ev_outcome hm hcomp hccd hC ht hu hq hdef hcl hb hokl hco hgen hcell hfree hbody (fun v hv => by
    obtain ⟨b, rfl, e⟩ := oc_of hv
    exact ⟨b, rfl, e ▸ hk⟩) fun hx => by
    obtain ⟨rfl, rfl⟩ := hx
    exact hk
end
section
variable {g : Glo} {f : FI} {d : Nat} {X : Prop} {Φ : V → Prop}
theorem op_notInF {x y z u : Bool} (h : Φ (.bool (x && y && z && u))) : Op2 (compareOp .NotIn) g f d (.bool false) (.lst [.bool x, .bool y, .bool z, .bool u]) Φ X :=
  op_notInL rfl (fine_row x y z u).1 (fine_row x y z u).2 (by simp [V.pd, PyData.canLay0]) (by simp [V.pd, PyData.depth]) (by rw [any_false]; exact h)
theorem op_notInT {x y z u : Bool} (h : Φ (.bool (!x && !y && !z && !u))) : Op2 (compareOp .NotIn) g f d (.bool true) (.lst [.bool x, .bool y, .bool z, .bool u]) Φ X :=
  op_notInL rfl (fine_row x y z u).1 (fine_row x y z u).2 (by simp [V.pd, PyData.canLay0]) (by simp [V.pd, PyData.depth]) (by rw [any_true]; exact h)
theorem strOk_oc (y n : Bool) : PyData.strOk (oc y n) = true := by
  cases y <;> cases n <;> decide +kernel
theorem op_neTold {a b c e a' b' c' e' : Str} (k1 : PyData.strOk a = true) (k2 : PyData.strOk b = true) (k3 : PyData.strOk c = true) (k4 : PyData.strOk e = true) (h1 : a = a') (h2 : b = b') (h3 : c = c') (h4 : e = e') (h : Φ (.bool false)) : Op2 (compareOp .NotEq) g f d (.lst [.str a, .str b, .str c, .str e]) (.lst [.str a', .str b', .str c', .str e']) Φ X := by
  subst h1 h2 h3 h4
  refine op_neD rfl rfl (by simp [V.pd, V.pds, SeqAt.shaped, PyData.canLay0, PyData.canLayAll0, PyData.depth, PyData.depthAll, k1, k2, k3, k4]) (by simp [V.pd, V.pds, SeqAt.shaped, PyData.canLay0, PyData.canLayAll0, PyData.depth, PyData.depthAll, k1, k2, k3, k4]) rfl ?_
  have e : PyData.eqv (V.lst [.str a, .str b, .str c, .str e]).pd (V.lst [.str a, .str b, .str c, .str e]).pd = true := by
    simp [V.pd, V.pds, PyData.eqv, PyData.eqvAll]
  rw [e]
  exact h
theorem op_eqIs4 {a b : V} (h1 : Is4 b) (e : a = b) (h : Φ (.bool true)) : Op2 (compareOp .Eq) g f d a b Φ X := by
  subst e
  obtain ⟨x1, x2, x3, x4, rfl⟩ := h1
  exact op_eq4 (by simpa using h)
/-- one answer of the four -/
def rowF : V → V
  | .lst [.bool x, .bool y, .bool z, .bool u] => .str (oc (x && y && z && u) (!x && !y && !z && !u))
  | _ => .none
theorem row_leaf1 {x y z u : Bool} (h : (x && y && z && u) = true) : (V.str (Str.ofString "yes")) = rowF (.lst [.bool x, .bool y, .bool z, .bool u]) := by
  show _ = V.str (oc _ _)
  rw [h]; rfl
theorem row_leaf2 {x y z u : Bool} (h : (x && y && z && u) = false) (h' : (!x && !y && !z && !u) = true) : (V.str (Str.ofString "no")) = rowF (.lst [.bool x, .bool y, .bool z, .bool u]) := by
  show _ = V.str (oc _ _)
  rw [h, h']; rfl
theorem row_leaf3 {x y z u : Bool} (h : (x && y && z && u) = false) (h' : (!x && !y && !z && !u) = false) : (V.str (Str.ofString "refused")) = rowF (.lst [.bool x, .bool y, .bool z, .bool u]) := by
  show _ = V.str (oc _ _)
  rw [h, h']; rfl
theorem ev_rowElt {g : Glo} {f : FI} {d : Nat} {X : Prop} {ρ : Loc} {x y z u : Bool} {k1 k2 k3 k4 k5 : Nat} {p1 p2 p3 p4 p5 p6 p7 p8 p9 p10 p11 : Pos} (hv : GetN f.ns ρ (Str.ofString "row") (.lst [.bool x, .bool y, .bool z, .bool u])) :
    Ev g f d (.IfExp (.Compare (.Constant (.bool false) k1 p1) [.NotIn] [.Name (Str.ofString "row") p2] p3) (.Constant (.str (Str.ofString "yes")) k2 p4)
      (.IfExp (.Compare (.Constant (.bool true) k3 p5) [.NotIn] [.Name (Str.ofString "row") p6] p7) (.Constant (.str (Str.ofString "no")) k4 p8) (.Constant (.str (Str.ofString "refused")) k5 p9) p10) p11) ρ
      (fun v _ => v = rowF (.lst [.bool x, .bool y, .bool z, .bool u])) X :=
  ev_if (tst_cmp (ev_bool (ev_local hv (op_notInF (tr_bool ⟨fun h => ev_str (row_leaf1 h), fun h =>
    ev_if (tst_cmp (ev_bool (ev_local hv (op_notInT (tr_bool ⟨fun h' => ev_str (row_leaf2 h h'), fun h' => ev_str (row_leaf3 h h')⟩)))))⟩)))))
section
variable {a b c e : Int} (hab : a ≤ b) (hce : c ≤ e)
include hab hce
theorem row_lt : oc (decide (b < c)) (decide (e ≤ a)) = oc (decide (a < c) && decide (a < e) && decide (b < c) && decide (b < e)) (!decide (a < c) && !decide (a < e) && !decide (b < c) && !decide (b < e)) := by
  congr 1
  · rw [Bool.eq_iff_iff]; simp; omega
  · rw [Bool.eq_iff_iff]; simp; omega
theorem row_le : oc (decide (b ≤ c)) (decide (e < a)) = oc (decide (a ≤ c) && decide (a ≤ e) && decide (b ≤ c) && decide (b ≤ e)) (!decide (a ≤ c) && !decide (a ≤ e) && !decide (b ≤ c) && !decide (b ≤ e)) := by
  congr 1
  · rw [Bool.eq_iff_iff]; simp; omega
  · rw [Bool.eq_iff_iff]; simp; omega
theorem row_gt : oc (decide (e < a)) (decide (b ≤ c)) = oc (decide (c < a) && decide (e < a) && decide (c < b) && decide (e < b)) (!decide (c < a) && !decide (e < a) && !decide (c < b) && !decide (e < b)) := by
  congr 1
  · rw [Bool.eq_iff_iff]; simp; omega
  · rw [Bool.eq_iff_iff]; simp; omega
theorem row_ge : oc (decide (e ≤ a)) (decide (b < c)) = oc (decide (c ≤ a) && decide (e ≤ a) && decide (c ≤ b) && decide (e ≤ b)) (!decide (c ≤ a) && !decide (e ≤ a) && !decide (c ≤ b) && !decide (e ≤ b)) := by
  congr 1
  · rw [Bool.eq_iff_iff]; simp; omega
  · rw [Bool.eq_iff_iff]; simp; omega
end
end
section
variable {w : World} {p : Program} {loose : List Str} {mean : ExcName → Option Value} {mg mb : Str → Option Value} {f : FI} {d : Nat} {X : Prop}
theorem fn_hz_mid {a b : Int} {P : Nat} (hP : 1 ≤ P) (ha : -20 ≤ a ∧ a ≤ 20) (hb : -20 ≤ b ∧ b ≤ 20) : Cl (GG w p loose mean mg mb) f (d + 5) (.ref 243) [.tup [hz a, hz b], .int P] (fun v => v = normR rN (sg (a + b)) (a + b).natAbs (-2) P) X :=
  fn_mpi_mid hP (bl_41 (by omega) (by omega)) (bl_41 (by omega) (by omega))
theorem fn_hz_delta {a b : Int} {P : Nat} (hP : 1 ≤ P) (ha : -20 ≤ a ∧ a ≤ 20) (hb : -20 ≤ b ∧ b ≤ 20) : Cl (GG w p loose mean mg mb) f (d + 6) (.ref 236) [.tup [hz a, hz b], .int P] (fun v => v = normR (rU false) (sg (b - a)) (b - a).natAbs (-1) P) X :=
  fn_mpi_delta hP (bl_41 (by omega) (by omega)) (bl_41 (by omega) (by omega))
end

end
section
local macro_rules | `(tactic| walk_at "exmore") => `(tactic| ((with_reducible refine' ex_swap2 ?hs ?hk ?h1); (case hs => (intro; kernel_rfl)); (case h1 => (intro; rfl))))
local macro_rules | `(tactic| walk_at "m0") => `(tactic| ((with_reducible show (∃ _ _, V.tup _ = V.tup _ ∧ _)); (with_reducible refine ⟨_, _, rfl, ?_⟩)))
local macro_rules | `(tactic| walk_at "tst") => `(tactic| (with_reducible refine tst_if ?_))
section
variable {w : World} {p : Program} {loose : List Str} {mean : ExcName → Option Value} {mg mb : Str → Option Value} {f : FI} {d : Nat} {X Y : Prop} {ρ : Loc}
theorem ok_lam {cn : Str} {cs : Scope} {a : Addr} {ccd : Value} {cl : List (Str × Addr)} {ns gs names : List Str} (hk : cs.kind = .function) (nd : ns.Nodup) (hcl : cl.map (·.1) = names)
    (lc : ∀ x ∈ ns, (if x ∈ names then (cs.names.lookup x = some .cell ∨ cs.names.lookup x = some .free) else cs.names.lookup x = some .local) ∧ ((x == ("__debug__" : Str)) = false ∧ (x == ("__classdict__" : Str)) = false))
    (gc : ∀ x ∈ gs, cs.names.lookup x = some .globalImplicit ∧ (x == ("__debug__" : Str)) = false) (cd : names.Nodup) (cu : (cl.map (·.2)).Nodup) : (FIl cn cs a ccd cl ns gs).Ok :=
  ⟨⟨hk, hk⟩, nd, fun x hx => by
    show (if x ∈ cl.map (·.1) then _ else _) ∧ _
    rw [hcl]
    exact lc x hx, gc, (fun q hq => by cases hq), by
    show (cl.map (·.1)).Nodup
    rw [hcl]; exact cd, .inl rfl, cu⟩
section
local macro_rules | `(tactic| walk_at "glob") => `(tactic| (with_reducible exact glmpi_lt _))
local macro_rules | `(tactic| walk_at "call") => `(tactic| ((with_reducible refine' Cl.mono (fn_hz_lt ?h1 ?h2 ?h3 ?h4) ?hk); (case h1 => (with_reducible assumption)); (case h2 => (with_reducible assumption)); (case h3 => (with_reducible assumption)); (case h4 => (with_reducible assumption))))
theorem ev_outL_lt {a b c e : Int} {cL cR : Addr} {p1 p2 p3 p4 np pos lpos : Pos} {Ψ : V → Loc → Prop} (hm : InL f.gs (Str.ofString "_law_outcome")) (hcomp : f.comp = none) (hccd : f.ccd = .ref 329)
    (ht : (327, Str.ofString "_law_compared.<locals>.<lambda>") ∈ f.tabs) (hu : ∀ t ∈ f.tabs, t.1 = 327 → t.2 = Str.ofString "_law_compared.<locals>.<lambda>") (hcn : f.cn = Str.ofString "_law_compared")
    (hl : GetN f.ns ρ (Str.ofString "left") (.tup [hz a, hz b])) (hr : GetN f.ns ρ (Str.ofString "right") (.tup [hz c, hz e])) (el : f.cl.lookup (Str.ofString "left") = some cL) (er : f.cl.lookup (Str.ofString "right") = some cR) (hne : cL ≠ cR)
    (hcl : ∀ L, closureFor { kind := .function, names := [(Str.ofString "left", .free), (Str.ofString "right", .free), (Str.ofString "mpi_lt", .globalImplicit)], isGenerator := false, isCoroutine := false, more := [] } (f.fenv L) = pure [(Str.ofString "right", cR), (Str.ofString "left", cL)])
    (ha : -20 ≤ a ∧ a ≤ 20) (hb : -20 ≤ b ∧ b ≤ 20) (hc : -20 ≤ c ∧ c ≤ 20) (he : -20 ≤ e ∧ e ≤ 20) (hk : Ψ (.str (oc (decide (b < c)) (decide (e ≤ a)))) ρ) :
    Ev (GG w p loose mean mg mb) f (d + 13) (.Call (.Name (Str.ofString "_law_outcome") np) [.Lambda { posonlyargs := [], args := [], vararg := none, kwonlyargs := [], kw_defaults := [], kwarg := none, defaults := [] }
      (.Call (.Name (Str.ofString "mpi_lt") p1) [.Name (Str.ofString "left") p2, .Name (Str.ofString "right") p3] [] p4)
      { kind := .function, names := [(Str.ofString "left", .free), (Str.ofString "right", .free), (Str.ofString "mpi_lt", .globalImplicit)], isGenerator := false, isCoroutine := false, more := [] } lpos] [] pos) ρ Ψ Y := by
  refine ev_cmpOut (d := d + 11) (y := decide (b < c)) (n := decide (e ≤ a)) (c := 329) (P := 327) (nsl := [Str.ofString "left", Str.ofString "right"]) (gsl := [Str.ofString "mpi_lt"]) (ρl := [some (.tup [hz a, hz b]), some (.tup [hz c, hz e])])
    hm hcomp hccd (by kernel_rfl) ht hu (by rw [hcn]; decide +kernel) (fun _ => rfl) hcl (fun _ _ _ _ => rfl)
    (fun _ _ => ok_lam (names := [Str.ofString "right", Str.ofString "left"]) rfl (by decide +kernel) rfl (by decide +kernel) (by decide +kernel) (by decide +kernel) (by simpa using hne.symm)) rfl rfl (by decide) (fun x v hx => ?_) (fun _ _ => ?_) hk
  · cases hx with
    | here => exact ⟨hl, cL, by rfl, el⟩
    | there hx => cases hx with
      | here => exact ⟨hr, cR, by rfl, er⟩
      | there hx => cases hx
  · repeat' walk_at "ms"
    exact fun v hv => hv
end
section
local macro_rules | `(tactic| walk_at "glob") => `(tactic| (with_reducible exact glmpi_le _))
local macro_rules | `(tactic| walk_at "call") => `(tactic| ((with_reducible refine' Cl.mono (fn_hz_le ?h1 ?h2 ?h3 ?h4) ?hk); (case h1 => (with_reducible assumption)); (case h2 => (with_reducible assumption)); (case h3 => (with_reducible assumption)); (case h4 => (with_reducible assumption))))
theorem ev_outL_le {a b c e : Int} {cL cR : Addr} {p1 p2 p3 p4 np pos lpos : Pos} {Ψ : V → Loc → Prop} (hm : InL f.gs (Str.ofString "_law_outcome")) (hcomp : f.comp = none) (hccd : f.ccd = .ref 329)
    (ht : (327, Str.ofString "_law_compared.<locals>.<lambda>") ∈ f.tabs) (hu : ∀ t ∈ f.tabs, t.1 = 327 → t.2 = Str.ofString "_law_compared.<locals>.<lambda>") (hcn : f.cn = Str.ofString "_law_compared")
    (hl : GetN f.ns ρ (Str.ofString "left") (.tup [hz a, hz b])) (hr : GetN f.ns ρ (Str.ofString "right") (.tup [hz c, hz e])) (el : f.cl.lookup (Str.ofString "left") = some cL) (er : f.cl.lookup (Str.ofString "right") = some cR) (hne : cL ≠ cR)
    (hcl : ∀ L, closureFor { kind := .function, names := [(Str.ofString "left", .free), (Str.ofString "right", .free), (Str.ofString "mpi_le", .globalImplicit)], isGenerator := false, isCoroutine := false, more := [] } (f.fenv L) = pure [(Str.ofString "right", cR), (Str.ofString "left", cL)])
    (ha : -20 ≤ a ∧ a ≤ 20) (hb : -20 ≤ b ∧ b ≤ 20) (hc : -20 ≤ c ∧ c ≤ 20) (he : -20 ≤ e ∧ e ≤ 20) (hk : Ψ (.str (oc (decide (b ≤ c)) (decide (e < a)))) ρ) :
    Ev (GG w p loose mean mg mb) f (d + 13) (.Call (.Name (Str.ofString "_law_outcome") np) [.Lambda { posonlyargs := [], args := [], vararg := none, kwonlyargs := [], kw_defaults := [], kwarg := none, defaults := [] }
      (.Call (.Name (Str.ofString "mpi_le") p1) [.Name (Str.ofString "left") p2, .Name (Str.ofString "right") p3] [] p4)
      { kind := .function, names := [(Str.ofString "left", .free), (Str.ofString "right", .free), (Str.ofString "mpi_le", .globalImplicit)], isGenerator := false, isCoroutine := false, more := [] } lpos] [] pos) ρ Ψ Y := by
  refine ev_cmpOut (d := d + 11) (y := decide (b ≤ c)) (n := decide (e < a)) (c := 329) (P := 327) (nsl := [Str.ofString "left", Str.ofString "right"]) (gsl := [Str.ofString "mpi_le"]) (ρl := [some (.tup [hz a, hz b]), some (.tup [hz c, hz e])])
    hm hcomp hccd (by kernel_rfl) ht hu (by rw [hcn]; decide +kernel) (fun _ => rfl) hcl (fun _ _ _ _ => rfl)
    (fun _ _ => ok_lam (names := [Str.ofString "right", Str.ofString "left"]) rfl (by decide +kernel) rfl (by decide +kernel) (by decide +kernel) (by decide +kernel) (by simpa using hne.symm)) rfl rfl (by decide) (fun x v hx => ?_) (fun _ _ => ?_) hk
  · cases hx with
    | here => exact ⟨hl, cL, by rfl, el⟩
    | there hx => cases hx with
      | here => exact ⟨hr, cR, by rfl, er⟩
      | there hx => cases hx
  · repeat' walk_at "ms"
    exact fun v hv => hv
end
section
local macro_rules | `(tactic| walk_at "glob") => `(tactic| (with_reducible exact glmpi_gt _))
local macro_rules | `(tactic| walk_at "call") => `(tactic| ((with_reducible refine' Cl.mono (fn_hz_gt ?h1 ?h2 ?h3 ?h4) ?hk); (case h1 => (with_reducible assumption)); (case h2 => (with_reducible assumption)); (case h3 => (with_reducible assumption)); (case h4 => (with_reducible assumption))))
theorem ev_outL_gt {a b c e : Int} {cL cR : Addr} {p1 p2 p3 p4 np pos lpos : Pos} {Ψ : V → Loc → Prop} (hm : InL f.gs (Str.ofString "_law_outcome")) (hcomp : f.comp = none) (hccd : f.ccd = .ref 329)
    (ht : (327, Str.ofString "_law_compared.<locals>.<lambda>") ∈ f.tabs) (hu : ∀ t ∈ f.tabs, t.1 = 327 → t.2 = Str.ofString "_law_compared.<locals>.<lambda>") (hcn : f.cn = Str.ofString "_law_compared")
    (hl : GetN f.ns ρ (Str.ofString "left") (.tup [hz a, hz b])) (hr : GetN f.ns ρ (Str.ofString "right") (.tup [hz c, hz e])) (el : f.cl.lookup (Str.ofString "left") = some cL) (er : f.cl.lookup (Str.ofString "right") = some cR) (hne : cL ≠ cR)
    (hcl : ∀ L, closureFor { kind := .function, names := [(Str.ofString "left", .free), (Str.ofString "right", .free), (Str.ofString "mpi_gt", .globalImplicit)], isGenerator := false, isCoroutine := false, more := [] } (f.fenv L) = pure [(Str.ofString "right", cR), (Str.ofString "left", cL)])
    (ha : -20 ≤ a ∧ a ≤ 20) (hb : -20 ≤ b ∧ b ≤ 20) (hc : -20 ≤ c ∧ c ≤ 20) (he : -20 ≤ e ∧ e ≤ 20) (hk : Ψ (.str (oc (decide (e < a)) (decide (b ≤ c)))) ρ) :
    Ev (GG w p loose mean mg mb) f (d + 13) (.Call (.Name (Str.ofString "_law_outcome") np) [.Lambda { posonlyargs := [], args := [], vararg := none, kwonlyargs := [], kw_defaults := [], kwarg := none, defaults := [] }
      (.Call (.Name (Str.ofString "mpi_gt") p1) [.Name (Str.ofString "left") p2, .Name (Str.ofString "right") p3] [] p4)
      { kind := .function, names := [(Str.ofString "left", .free), (Str.ofString "right", .free), (Str.ofString "mpi_gt", .globalImplicit)], isGenerator := false, isCoroutine := false, more := [] } lpos] [] pos) ρ Ψ Y := by
  refine ev_cmpOut (d := d + 11) (y := decide (e < a)) (n := decide (b ≤ c)) (c := 329) (P := 327) (nsl := [Str.ofString "left", Str.ofString "right"]) (gsl := [Str.ofString "mpi_gt"]) (ρl := [some (.tup [hz a, hz b]), some (.tup [hz c, hz e])])
    hm hcomp hccd (by kernel_rfl) ht hu (by rw [hcn]; decide +kernel) (fun _ => rfl) hcl (fun _ _ _ _ => rfl)
    (fun _ _ => ok_lam (names := [Str.ofString "right", Str.ofString "left"]) rfl (by decide +kernel) rfl (by decide +kernel) (by decide +kernel) (by decide +kernel) (by simpa using hne.symm)) rfl rfl (by decide) (fun x v hx => ?_) (fun _ _ => ?_) hk
  · cases hx with
    | here => exact ⟨hl, cL, by rfl, el⟩
    | there hx => cases hx with
      | here => exact ⟨hr, cR, by rfl, er⟩
      | there hx => cases hx
  · repeat' walk_at "ms"
    exact fun v hv => hv
end
section
local macro_rules | `(tactic| walk_at "glob") => `(tactic| (with_reducible exact glmpi_ge _))
local macro_rules | `(tactic| walk_at "call") => `(tactic| ((with_reducible refine' Cl.mono (fn_hz_ge ?h1 ?h2 ?h3 ?h4) ?hk); (case h1 => (with_reducible assumption)); (case h2 => (with_reducible assumption)); (case h3 => (with_reducible assumption)); (case h4 => (with_reducible assumption))))
theorem ev_outL_ge {a b c e : Int} {cL cR : Addr} {p1 p2 p3 p4 np pos lpos : Pos} {Ψ : V → Loc → Prop} (hm : InL f.gs (Str.ofString "_law_outcome")) (hcomp : f.comp = none) (hccd : f.ccd = .ref 329)
    (ht : (327, Str.ofString "_law_compared.<locals>.<lambda>") ∈ f.tabs) (hu : ∀ t ∈ f.tabs, t.1 = 327 → t.2 = Str.ofString "_law_compared.<locals>.<lambda>") (hcn : f.cn = Str.ofString "_law_compared")
    (hl : GetN f.ns ρ (Str.ofString "left") (.tup [hz a, hz b])) (hr : GetN f.ns ρ (Str.ofString "right") (.tup [hz c, hz e])) (el : f.cl.lookup (Str.ofString "left") = some cL) (er : f.cl.lookup (Str.ofString "right") = some cR) (hne : cL ≠ cR)
    (hcl : ∀ L, closureFor { kind := .function, names := [(Str.ofString "left", .free), (Str.ofString "right", .free), (Str.ofString "mpi_ge", .globalImplicit)], isGenerator := false, isCoroutine := false, more := [] } (f.fenv L) = pure [(Str.ofString "right", cR), (Str.ofString "left", cL)])
    (ha : -20 ≤ a ∧ a ≤ 20) (hb : -20 ≤ b ∧ b ≤ 20) (hc : -20 ≤ c ∧ c ≤ 20) (he : -20 ≤ e ∧ e ≤ 20) (hk : Ψ (.str (oc (decide (e ≤ a)) (decide (b < c)))) ρ) :
    Ev (GG w p loose mean mg mb) f (d + 13) (.Call (.Name (Str.ofString "_law_outcome") np) [.Lambda { posonlyargs := [], args := [], vararg := none, kwonlyargs := [], kw_defaults := [], kwarg := none, defaults := [] }
      (.Call (.Name (Str.ofString "mpi_ge") p1) [.Name (Str.ofString "left") p2, .Name (Str.ofString "right") p3] [] p4)
      { kind := .function, names := [(Str.ofString "left", .free), (Str.ofString "right", .free), (Str.ofString "mpi_ge", .globalImplicit)], isGenerator := false, isCoroutine := false, more := [] } lpos] [] pos) ρ Ψ Y := by
  refine ev_cmpOut (d := d + 11) (y := decide (e ≤ a)) (n := decide (b < c)) (c := 329) (P := 327) (nsl := [Str.ofString "left", Str.ofString "right"]) (gsl := [Str.ofString "mpi_ge"]) (ρl := [some (.tup [hz a, hz b]), some (.tup [hz c, hz e])])
    hm hcomp hccd (by kernel_rfl) ht hu (by rw [hcn]; decide +kernel) (fun _ => rfl) hcl (fun _ _ _ _ => rfl)
    (fun _ _ => ok_lam (names := [Str.ofString "right", Str.ofString "left"]) rfl (by decide +kernel) rfl (by decide +kernel) (by decide +kernel) (by decide +kernel) (by simpa using hne.symm)) rfl rfl (by decide) (fun x v hx => ?_) (fun _ _ => ?_) hk
  · cases hx with
    | here => exact ⟨hl, cL, by rfl, el⟩
    | there hx => cases hx with
      | here => exact ⟨hr, cR, by rfl, er⟩
      | there hx => cases hx
  · repeat' walk_at "ms"
    exact fun v hv => hv
end
/-- what is none is refused -/
theorem ev_outO {x : Str} {cO : Addr} {p1 p2 p3 p4 np pos lpos : Pos} {kk : Nat} {Ψ : V → Loc → Prop} (hm : InL f.gs (Str.ofString "_law_outcome")) (hcomp : f.comp = none) (hccd : f.ccd = .ref 336)
    (ht : (332, Str.ofString "law.<locals>.<lambda>") ∈ f.tabs) (hu : ∀ t ∈ f.tabs, t.1 = 332 → t.2 = Str.ofString "law.<locals>.<lambda>") (hcn : f.cn = Str.ofString "law")
    (hl : GetN f.ns ρ (Str.ofString "odd") (.str x)) (el : f.cl.lookup (Str.ofString "odd") = some cO)
    (hcl : ∀ L, closureFor { kind := .function, names := [(Str.ofString "odd", .free), (Str.ofString "mpi_from_str", .globalImplicit)], isGenerator := false, isCoroutine := false, more := [] } (f.fenv L) = pure [(Str.ofString "odd", cO)])
    (hR : ∀ {f : FI} {d : Nat}, Cl (GG w p loose mean mg mb) f (d + 14) (.ref 264) [.str x, .int 20] (fun _ => False) True) (hk : Ψ (.str (Str.ofString "refused")) ρ) :
    Ev (GG w p loose mean mg mb) f (d + 16) (.Call (.Name (Str.ofString "_law_outcome") np) [.Lambda { posonlyargs := [], args := [], vararg := none, kwonlyargs := [], kw_defaults := [], kwarg := none, defaults := [] }
      (.Call (.Name (Str.ofString "mpi_from_str") p1) [.Name (Str.ofString "odd") p2, .Constant (.int 20) kk p3] [] p4)
      { kind := .function, names := [(Str.ofString "odd", .free), (Str.ofString "mpi_from_str", .globalImplicit)], isGenerator := false, isCoroutine := false, more := [] } lpos] [] pos) ρ Ψ Y := by
  refine ev_outcome (d := d + 14) (X := True) (Φ := fun _ => False) (c := 336) (P := 332) (nsl := [Str.ofString "odd"]) (gsl := [Str.ofString "mpi_from_str"]) (ρl := [some (.str x)])
    hm hcomp hccd (by kernel_rfl) ht hu (by rw [hcn]; decide +kernel) (fun _ => rfl) hcl (fun _ _ _ _ => rfl)
    (fun _ _ => ok_lam (names := [Str.ofString "odd"]) rfl (by decide +kernel) rfl (by decide +kernel) (by decide +kernel) (by decide +kernel) (by simp)) rfl rfl (by decide) (fun x v hx => ?_) (fun _ _ => ?_) (fun _ h => h.elim) fun _ => hk
  · cases hx with
    | here => exact ⟨hl, cO, rfl, el⟩
    | there hx => cases hx
  · repeat' walk_at "ms"
    exact Cl.mono hR fun v hv => hv
end

end
section
local macro_rules | `(tactic| walk_at "exmore") => `(tactic| ((with_reducible refine' ex_swap2 ?hs ?hk ?h1); (case hs => (intro; kernel_rfl)); (case h1 => (intro; rfl))))
local macro_rules | `(tactic| walk_at "m0") => `(tactic| ((with_reducible show (∃ _ _, V.tup _ = V.tup _ ∧ _)); (with_reducible refine ⟨_, _, rfl, ?_⟩)))
local macro_rules | `(tactic| walk_at "tst") => `(tactic| (with_reducible refine tst_if ?_))
local macro_rules | `(tactic| walk_at "call") => `(tactic| ((with_reducible refine' Cl.eq (fn_numI ?h1 ?h2 ?h3) ?hk); (case h1 => (with_reducible assumption)); (case h2 => omega); (case h3 => omega)))
local macro_rules | `(tactic| walk_at "exmore") => `(tactic| ((with_reducible refine' ex_swap2 ?hs ?hk ?h1); (case hs => (intro; kernel_rfl)); (case h1 => (intro; rfl))))
local macro_rules | `(tactic| walk_at "s4") => `(tactic| (first | (case h4 => walk_at "side") | skip))
local macro_rules | `(tactic| walk_at "side") => `(tactic| first | (with_reducible assumption) | (exact Nat.le_of_ble_eq_true rfl) | omega | (simp only [Str.length_append, T_len]; omega) | decide | (decide +kernel))
local macro_rules | `(tactic| walk_at "asm") => `(tactic| first | (with_reducible assumption) | (decide +kernel))
local macro_rules | `(tactic| walk_at "opmore") => `(tactic| first
  | ((with_reducible refine' op_addS ?h1 ?h2 ?hk); walk_at "s1"; walk_at "s2")
  | ((with_reducible refine' op_inS ?h1 ?hk); (case h1 => (with_reducible assumption))))
local macro_rules | `(tactic| walk_at "op") => `(tactic| first
  | ((with_reducible show Op2 (subscriptTail _ _) _ _ _ (V.lst [_, _]) _ _ _); (refine' sub_lst ?h3 ?h1 ?h2 ?hk ?h5); (case h3 => rfl); (case h1 => decide); (case h2 => decide); (case h5 => (intros; with_unfolding_all rfl)))
  | ((with_reducible refine' op_modE ?h1 ?h2 ?hk); (case h1 => decide); (case h2 => (with_reducible assumption)))
  | ((with_reducible show Op2 (subscriptTail _ _) _ _ _ (V.tup _) _ _ _); (refine' sub_tup ?h3 ?h1 ?h2 ?h4 ?hk ?h5); (case h3 => rfl); (case h1 => rfl); (case h2 => decide); (case h4 => decide); (case h5 => (intros; with_unfolding_all rfl))))
local macro_rules | `(tactic| walk_at "cl") => `(tactic| first
  | ((with_reducible refine' cl_strE ?h1 ?h2 ?hk); (case h1 => (with_reducible assumption)); (case h2 => omega)))
section
variable {w : World} {p : Program} {loose : List Str} {mean : ExcName → Option Value} {mg mb : Str → Option Value} {f : FI} {d : Nat} {X : Prop}
theorem two_sorted {l : List Int} {x y : Int} {P : Int → Prop} (hp : l.Perm [x, y]) (ho : l.Pairwise (· ≤ ·)) (hx : P x) (hy : P y) : ∃ a b, l = [a, b] ∧ a ≤ b ∧ P a ∧ P b := by
  have hl := hp.length_eq
  match l, hl with
  | [a, b], _ =>
    have ma : a ∈ [x, y] := hp.mem_iff.mp (.head _)
    have mb : b ∈ [x, y] := hp.mem_iff.mp (.tail _ (.head _))
    have h1 : a ≤ b := by
      have := (List.pairwise_cons.mp ho).1 b (.head _)
      exact this
    refine ⟨a, b, rfl, h1, ?_, ?_⟩
    · simp only [List.mem_cons, List.not_mem_nil, or_false] at ma
      rcases ma with rfl | rfl <;> assumption
    · simp only [List.mem_cons, List.not_mem_nil, or_false] at mb
      rcases mb with rfl | rfl <;> assumption
local macro_rules | `(tactic| walk_at "call") => `(tactic| first
  | ((with_reducible refine' Cl.eq (fn_numI ?h1 ?h2 ?h3) ?hk); (case h1 => (with_reducible assumption)); (case h2 => omega); (case h3 => omega)))
local macro_rules | `(tactic| walk_at "ev") => `(tactic| first
  | ((with_reducible refine' ev_sliceL_to ?hk ?h1 ?h2); (case h1 => (intros; with_unfolding_all rfl)); (case h2 => (intros; with_unfolding_all rfl)))
  | ((with_reducible refine' ev_sliceL_from ?hk ?h1 ?h2); (case h1 => (intros; with_unfolding_all rfl)); (case h2 => (intros; with_unfolding_all rfl))))
local macro_rules | `(tactic| walk_at "m0") => `(tactic| ((with_reducible show (∃ _ _, V.lst _ = V.lst _ ∧ V.int _ = V.int _ ∧ _)); (with_reducible refine' ⟨_, _, rfl, rfl, ?h1, ?h2, ?hk⟩); (case h1 => decide); (case h2 => (simp))))
local macro_rules | `(tactic| walk_at "cl") => `(tactic| ((with_reducible refine' cl_sortedL ?hl ?hk); (case hl => (simp)); intro _ hperm hord))
local macro_rules | `(tactic| walk_at "cl") => `(tactic| ((with_reducible refine' cl_tupleL ?hl ?hk); (case hl => (simp))))
local macro_rules | `(tactic| walk_at "op") => `(tactic| ((with_reducible refine' op_addL ?hl ?hk); (case hl => (simp))))
local macro_rules | `(tactic| walk_at "op") => `(tactic| first | (with_reducible refine op_notInF ?_) | (with_reducible refine op_notInT ?_))
local macro_rules | `(tactic| walk_at "ev") => `(tactic| (
  (with_reducible show Ev _ _ _ (.Call (.Name (Str.ofString "_law_outcome") _) [.Lambda _ (.Call (.Name (Str.ofString "mpi_lt") _) _ _ _) _ _] _ _) _ _ _);
  (refine' ev_outL_lt ?hm rfl rfl ?ht ?hu rfl ?hl ?hr ?el ?er ?hne ?hcl ?ha ?hb ?hc ?he ?hk);
  (case hm => walk_at "inl"); (case ht => assumption); (case hu => assumption); (case hl => walk_at "get"); (case hr => walk_at "get"); (case el => rfl); (case er => rfl); (case hne => (simp)); (case hcl => (intro L; rfl));
  (case ha => (with_reducible assumption)); (case hb => (with_reducible assumption)); (case hc => (with_reducible assumption)); (case he => (with_reducible assumption))))
local macro_rules | `(tactic| walk_at "ev") => `(tactic| (
  (with_reducible show Ev _ _ _ (.Call (.Name (Str.ofString "_law_outcome") _) [.Lambda _ (.Call (.Name (Str.ofString "mpi_le") _) _ _ _) _ _] _ _) _ _ _);
  (refine' ev_outL_le ?hm rfl rfl ?ht ?hu rfl ?hl ?hr ?el ?er ?hne ?hcl ?ha ?hb ?hc ?he ?hk);
  (case hm => walk_at "inl"); (case ht => assumption); (case hu => assumption); (case hl => walk_at "get"); (case hr => walk_at "get"); (case el => rfl); (case er => rfl); (case hne => (simp)); (case hcl => (intro L; rfl));
  (case ha => (with_reducible assumption)); (case hb => (with_reducible assumption)); (case hc => (with_reducible assumption)); (case he => (with_reducible assumption))))
local macro_rules | `(tactic| walk_at "ev") => `(tactic| (
  (with_reducible show Ev _ _ _ (.Call (.Name (Str.ofString "_law_outcome") _) [.Lambda _ (.Call (.Name (Str.ofString "mpi_gt") _) _ _ _) _ _] _ _) _ _ _);
  (refine' ev_outL_gt ?hm rfl rfl ?ht ?hu rfl ?hl ?hr ?el ?er ?hne ?hcl ?ha ?hb ?hc ?he ?hk);
  (case hm => walk_at "inl"); (case ht => assumption); (case hu => assumption); (case hl => walk_at "get"); (case hr => walk_at "get"); (case el => rfl); (case er => rfl); (case hne => (simp)); (case hcl => (intro L; rfl));
  (case ha => (with_reducible assumption)); (case hb => (with_reducible assumption)); (case hc => (with_reducible assumption)); (case he => (with_reducible assumption))))
local macro_rules | `(tactic| walk_at "ev") => `(tactic| (
  (with_reducible show Ev _ _ _ (.Call (.Name (Str.ofString "_law_outcome") _) [.Lambda _ (.Call (.Name (Str.ofString "mpi_ge") _) _ _ _) _ _] _ _) _ _ _);
  (refine' ev_outL_ge ?hm rfl rfl ?ht ?hu rfl ?hl ?hr ?el ?er ?hne ?hcl ?ha ?hb ?hc ?he ?hk);
  (case hm => walk_at "inl"); (case ht => assumption); (case hu => assumption); (case hl => walk_at "get"); (case hr => walk_at "get"); (case el => rfl); (case er => rfl); (case hne => (simp)); (case hcl => (intro L; rfl));
  (case ha => (with_reducible assumption)); (case hb => (with_reducible assumption)); (case hc => (with_reducible assumption)); (case he => (with_reducible assumption))))
local macro_rules | `(tactic| walk_at "call") => `(tactic| first
  | ((with_reducible refine' Cl.eq fn_hz ?hk))
  | ((with_reducible refine' Cl.mono (fn_endI ?hD ?h1 ?h2 ?h3 ?h4 ?h5 ?h6) ?hk); (case hD => (with_reducible assumption)); (case h1 => decide); (case h2 => omega); (case h3 => omega); (case h4 => (with_reducible assumption)); (case h5 => decide); (case h6 => decide); intro _ hE)
  | ((with_reducible refine' Cl.eq (fn_hz_mid ?h1 ?h2 ?h3) ?hk); (case h1 => (with_reducible assumption)); (case h2 => (with_reducible assumption)); (case h3 => (with_reducible assumption)))
  | ((with_reducible refine' Cl.eq (fn_hz_delta ?h1 ?h2 ?h3) ?hk); (case h1 => (with_reducible assumption)); (case h2 => (with_reducible assumption)); (case h3 => (with_reducible assumption))))
theorem fn_law_compared {ns : List Int} (hn : ns.length ≤ 100) (ht : (327, Str.ofString "_law_compared.<locals>.<lambda>") ∈ f.tabs) (hu : ∀ t ∈ f.tabs, t.1 = 327 → t.2 = Str.ofString "_law_compared.<locals>.<lambda>") :
    Cl (GG w p loose mean mg mb) f (d + 15) (.ref 330) [.lst (ns.map V.int)] (fun v => v = .bool true) X := by
  refine' fn_enterC (x := .lst (ns.map V.int)) (p := Str.ofString "script") (fun n => [(Str.ofString "right", n + 3), (Str.ofString "left", n + 2), (Str.ofString "two", n + 1), (Str.ofString "script", n)]) nsu_law_compared gsu_law_compared nsu_law_compared.tail 10 ?ho ?hcd ?hbind ?hp ?hns ?hcells ?hok ?hnd ?hkind ?hco ?hgen ?hρ ?hb
  case ho => (show List.lookup _ (hd.heap_39 _) = _; k_is)
  case hcd => (show codeIn (hd.heap_39 _) _ _ = _; k_is)
  case hbind => (intro s vals X hl; match vals, hl with | [_], _ => exact BindsTo.of_eq rfl)
  case hp => rfl
  case hns => rfl
  case hcells => (intro n; rfl)
  case hok => (intro n; exact ok_cells (names := [Str.ofString "right", Str.ofString "left", Str.ofString "two", Str.ofString "script"]) rfl (by decide +kernel) rfl (by decide +kernel) (by decide +kernel) (by decide +kernel) (by show [n + 3, n + 2, n + 1, n].Nodup; simp))
  case hnd => decide +kernel
  case hkind => (intro n; exact .inr ⟨by decide +kernel, by rfl⟩)
  case hco => rfl
  case hgen => rfl
  case hρ => (simp only [List.replicate]; rfl)
  intro n
  have num41 : ∀ k : Nat, ∃ e : Int, num ns k % 41 = e + 20 ∧ -20 ≤ e ∧ e ≤ 20 := fun k => ⟨num ns k % 41 - 20, by omega, by omega, by omega⟩
  obtain ⟨e8, q8, a8, b8⟩ := num41 (8 : Int).toNat
  obtain ⟨e9, q9, a9, b9⟩ := num41 (9 : Int).toNat
  obtain ⟨e10, q10, a10, b10⟩ := num41 (10 : Int).toNat
  obtain ⟨e11, q11, a11, b11⟩ := num41 (11 : Int).toNat
  refine exs_cons ?_
  refine' ex_comp1 (sc := { kind := .function, names := [(Str.ofString ".0", .local), (Str.ofString "at", .local), (Str.ofString "_law_number", .globalImplicit), (Str.ofString "script", .cell)], isGenerator := false, isCoroutine := false, more := [] }) (cl := [(Str.ofString "script", n)]) (gs := [Str.ofString "_law_number"]) (vs := [.int 8, .int 9, .int 10, .int 11])
    (fun v => match v with | .int i => .int (num ns i.toNat % 41 - 20) | _ => .none)
    [Str.ofString "script"] [some (.lst (ns.map V.int))] ?hiter rfl ?hclos ?hrel ?hcell rfl ?hnames ?hok ?ho ?hx ?hxc ?hel ?hflat ?hlen ?hset ?hk ?hown ?hsw ?hs
  case hclos => (intro L; rfl)
  case hrel => (intro L; first | rfl | kernel_rfl)
  case hcell => decide
  case hnames => decide +kernel
  case hx => rfl
  case hxc => rfl
  case hlen => (simp)
  case hown => exact .inr rfl
  case hsw => (intro L; rfl)
  case hs => (intros; rfl)
  case hset => walk_at "set"
  case hiter =>
    (repeat' walk_at "ms")
    exact .inl rfl
  case hok =>
    intro C
    exact ok_inner (names := [Str.ofString "script"]) ⟨rfl, rfl⟩ (by decide +kernel) rfl (by decide +kernel) (by decide +kernel) (by decide +kernel) (by simp)
  case ho =>
    intro y u hy
    cases hy with
    | here => exact ⟨by walk_at "get", n, rfl, rfl⟩
    | there hy => cases hy
  case hflat =>
    intro v hv
    simp only [List.mem_cons, List.not_mem_nil, or_false] at hv
    rcases hv with rfl | rfl | rfl | rfl <;> rfl
  case hel =>
    intro C v hv
    simp only [List.mem_cons, List.not_mem_nil, or_false] at hv
    rcases hv with rfl | rfl | rfl | rfl <;> (repeat' walk_at "ms") <;> (show _ = _) <;> simp only [q8, q9, q10, q11]
  have eE : ([V.int 8, V.int 9, V.int 10, V.int 11].map (fun v => match v with | .int i => V.int (num ns i.toNat % 41 - 20) | _ => .none)) = [e8, e9, e10, e11].map V.int := by
    simp only [List.map_cons, List.map_nil, q8, q9, q10, q11]
    congr 1
    · congr 1; omega
    · congr 1
      · congr 1; omega
      · congr 1
        · congr 1; omega
        · congr 1
          congr 1; omega
  rw [eE]
  walk_at "nx"
  rename_i l1 hp1 ho1 l2 hp2 ho2
  obtain ⟨a, b, rfl, hab, ha, hb⟩ := two_sorted hp1 ho1 (P := fun x => -20 ≤ x ∧ x ≤ 20) ⟨a8, b8⟩ ⟨a9, b9⟩
  obtain ⟨c, e, rfl, hce, hc, he⟩ := two_sorted hp2 ho2 (P := fun x => -20 ≤ x ∧ x ≤ 20) ⟨a10, b10⟩ ⟨a11, b11⟩
  simp only [List.map_cons, List.map_nil]
  walk_at "nx"
  refine' ev_comp1 (sc := { kind := .function, names := [(Str.ofString ".0", .local), (Str.ofString "end", .local), (Str.ofString "from_man_exp", .globalImplicit)], isGenerator := false, isCoroutine := false, more := [] }) (cl := []) (gs := [Str.ofString "from_man_exp"]) (vs := [.int a, .int b])
    (fun v => match v with | .int i => hz i | _ => .none) [] [] ?hiter_1 rfl ?hclos_1 ?hrel_1 ?hcell_1 rfl ?hnames_1 ?hok_1 ?ho_1 ?hx_1 ?hxc_1 ?hel_1 ?hflat_1 ?hlen_1 ?hk_1 ?hs_1
  case hclos_1 => (intro L; rfl)
  case hrel_1 => (intro L; first | rfl | kernel_rfl)
  case hcell_1 => decide
  case hnames_1 => decide +kernel
  case hs_1 => (intros; rfl)
  case hx_1 => rfl
  case hxc_1 => rfl
  case hlen_1 => (simp)
  case hiter_1 =>
    (repeat' walk_at "ms")
    exact .inr rfl
  case hok_1 =>
    intro C
    exact ok_inner (names := []) ⟨rfl, rfl⟩ (by decide +kernel) rfl (by decide +kernel) (by decide +kernel) (by decide +kernel) (by simp)
  case ho_1 =>
    intro y u hy
    cases hy
  case hflat_1 =>
    intro v hv
    simp only [List.mem_cons, List.not_mem_nil, or_false] at hv
    rcases hv with rfl | rfl <;> exact hz_flat _
  case hel_1 =>
    intro C v hv
    simp only [List.mem_cons, List.not_mem_nil, or_false] at hv
    rcases hv with rfl | rfl <;> (repeat' walk_at "ms") <;> rfl
  simp only [List.map_cons, List.map_nil]
  repeat' walk_at "m1"
  refine' ev_comp1 (sc := { kind := .function, names := [(Str.ofString ".0", .local), (Str.ofString "end", .local), (Str.ofString "from_man_exp", .globalImplicit)], isGenerator := false, isCoroutine := false, more := [] }) (cl := []) (gs := [Str.ofString "from_man_exp"]) (vs := [.int c, .int e])
    (fun v => match v with | .int i => hz i | _ => .none) [] [] ?hiter_2 rfl ?hclos_2 ?hrel_2 ?hcell_2 rfl ?hnames_2 ?hok_2 ?ho_2 ?hx_2 ?hxc_2 ?hel_2 ?hflat_2 ?hlen_2 ?hk_2 ?hs_2
  case hclos_2 => (intro L; rfl)
  case hrel_2 => (intro L; first | rfl | kernel_rfl)
  case hcell_2 => decide
  case hnames_2 => decide +kernel
  case hs_2 => (intros; rfl)
  case hx_2 => rfl
  case hxc_2 => rfl
  case hlen_2 => (simp)
  case hiter_2 =>
    (repeat' walk_at "ms")
    exact .inr rfl
  case hok_2 =>
    intro C
    exact ok_inner (names := []) ⟨rfl, rfl⟩ (by decide +kernel) rfl (by decide +kernel) (by decide +kernel) (by decide +kernel) (by simp)
  case ho_2 =>
    intro y u hy
    cases hy
  case hflat_2 =>
    intro v hv
    simp only [List.mem_cons, List.not_mem_nil, or_false] at hv
    rcases hv with rfl | rfl <;> exact hz_flat _
  case hel_2 =>
    intro C v hv
    simp only [List.mem_cons, List.not_mem_nil, or_false] at hv
    rcases hv with rfl | rfl <;> (repeat' walk_at "ms") <;> rfl
  simp only [List.map_cons, List.map_nil]
  repeat' walk_at "m1"
  walk_at "nx"
  walk_at "nx"
  refine then_next (exs_cons ?_)
  refine' ex_compN (sc := { kind := .function, names := [(Str.ofString ".0", .local), (Str.ofString "first", .local), (Str.ofString "second", .local), (Str.ofString "two", .cell)], isGenerator := false, isCoroutine := false, more := [] }) (cl := [(Str.ofString "two", n + 1)]) (gs := []) (is := [a, b]) (js := [c, e])
    (fun i j => .tup [.int i, .int j]) [Str.ofString "two"] [some (.lst [.int c, .int e])] ?hiter_3 rfl ?hclos_3 ?hrel_3 ?hcell_3 rfl ?hnames_3 ?hok_3 ?ho_3 ?haa_3 ?hac_3 ?hbb_3 ?hbc_3 ?hab_3 ?hy_3 ?hel_3 ?hflat_3 ?hlen_3 ?hlenn_3 ?hset_3 ?hk_3 ?hown_3 ?hsw_3 ?hs_3
  case hclos_3 => (intro L; rfl)
  case hrel_3 => (intro L; first | rfl | kernel_rfl)
  case hcell_3 => decide
  case hnames_3 => decide +kernel
  case hs_3 => (intros; rfl)
  case haa_3 => rfl
  case hac_3 => rfl
  case hbb_3 => rfl
  case hbc_3 => rfl
  case hab_3 => decide +kernel
  case hy_3 => exact .here
  case hlen_3 => (simp)
  case hlenn_3 => (simp)
  case hown_3 => exact .inr rfl
  case hsw_3 => (intro L; rfl)
  case hset_3 => walk_at "set"
  case hiter_3 =>
    (repeat' walk_at "ms")
    exact .inr rfl
  case hok_3 =>
    intro C
    exact ok_inner (names := [Str.ofString "two"]) ⟨rfl, rfl⟩ (by decide +kernel) rfl (by decide +kernel) (by decide +kernel) (by decide +kernel) (by simp)
  case ho_3 =>
    intro y u hy
    cases hy with
    | here => exact ⟨by walk_at "get", n + 1, rfl, rfl⟩
    | there hy => cases hy
  case hflat_3 => (intros; rfl)
  case hel_3 =>
    intro C i j hi hj
    (repeat' walk_at "ms")
    rfl
  simp only [List.map_cons, List.map_nil, List.flatten_cons, List.flatten_nil, List.cons_append, List.nil_append]
  refine then_next (exs_cons ?_)
  repeat' walk_at "m1"
  refine' ev_comp2 (sc := { kind := .function, names := [(Str.ofString ".0", .local), (Str.ofString "first", .local), (Str.ofString "second", .local)], isGenerator := false, isCoroutine := false, more := [] }) (gs := []) (ps := [(.int a, .int c), (.int a, .int e), (.int b, .int c), (.int b, .int e)])
    (fun p => match p with | (.int i, .int j) => .bool (decide (i < j)) | _ => .none) ?hiter_4 rfl ?hclos_4 ?hrel_4 ?hcell_4 rfl ?hnames_4 ?hok_4 ?haa_4 ?hbb_4 ?hab_4 ?hel_4 ?hflat_4 ?hlen_4 ?hk_4 ?hs_4
  case hclos_4 => (intro L; rfl)
  case hrel_4 => (intro L; first | rfl | kernel_rfl)
  case hcell_4 => decide
  case hnames_4 => decide +kernel
  case hs_4 => (intros; rfl)
  case haa_4 => rfl
  case hbb_4 => rfl
  case hab_4 => decide +kernel
  case hlen_4 => (simp)
  case hiter_4 =>
    (repeat' walk_at "ms")
    exact .inr rfl
  case hok_4 =>
    intro C
    exact ok_inner (names := []) ⟨rfl, rfl⟩ (by decide +kernel) rfl (by decide +kernel) (by decide +kernel) (by decide +kernel) (by simp)
  case hflat_4 =>
    intro v hv
    simp only [List.mem_cons, List.not_mem_nil, or_false] at hv
    rcases hv with rfl | rfl | rfl | rfl <;> rfl
  case hel_4 =>
    intro C v hv
    simp only [List.mem_cons, List.not_mem_nil, or_false] at hv
    rcases hv with rfl | rfl | rfl | rfl <;> (repeat' walk_at "ms") <;> rfl
  simp only [List.map_cons, List.map_nil]
  repeat' walk_at "m1"
  refine' ev_comp2 (sc := { kind := .function, names := [(Str.ofString ".0", .local), (Str.ofString "first", .local), (Str.ofString "second", .local)], isGenerator := false, isCoroutine := false, more := [] }) (gs := []) (ps := [(.int a, .int c), (.int a, .int e), (.int b, .int c), (.int b, .int e)])
    (fun p => match p with | (.int i, .int j) => .bool (decide (i ≤ j)) | _ => .none) ?hiter_5 rfl ?hclos_5 ?hrel_5 ?hcell_5 rfl ?hnames_5 ?hok_5 ?haa_5 ?hbb_5 ?hab_5 ?hel_5 ?hflat_5 ?hlen_5 ?hk_5 ?hs_5
  case hclos_5 => (intro L; rfl)
  case hrel_5 => (intro L; first | rfl | kernel_rfl)
  case hcell_5 => decide
  case hnames_5 => decide +kernel
  case hs_5 => (intros; rfl)
  case haa_5 => rfl
  case hbb_5 => rfl
  case hab_5 => decide +kernel
  case hlen_5 => (simp)
  case hiter_5 =>
    (repeat' walk_at "ms")
    exact .inr rfl
  case hok_5 =>
    intro C
    exact ok_inner (names := []) ⟨rfl, rfl⟩ (by decide +kernel) rfl (by decide +kernel) (by decide +kernel) (by decide +kernel) (by simp)
  case hflat_5 =>
    intro v hv
    simp only [List.mem_cons, List.not_mem_nil, or_false] at hv
    rcases hv with rfl | rfl | rfl | rfl <;> rfl
  case hel_5 =>
    intro C v hv
    simp only [List.mem_cons, List.not_mem_nil, or_false] at hv
    rcases hv with rfl | rfl | rfl | rfl <;> (repeat' walk_at "ms") <;> rfl
  simp only [List.map_cons, List.map_nil]
  repeat' walk_at "m1"
  refine then_next (exs_cons ?_)
  repeat' walk_at "m1"
  refine' ev_comp2 (sc := { kind := .function, names := [(Str.ofString ".0", .local), (Str.ofString "first", .local), (Str.ofString "second", .local)], isGenerator := false, isCoroutine := false, more := [] }) (gs := []) (ps := [(.int a, .int c), (.int a, .int e), (.int b, .int c), (.int b, .int e)])
    (fun p => match p with | (.int i, .int j) => .bool (decide (j < i)) | _ => .none) ?hiter_6 rfl ?hclos_6 ?hrel_6 ?hcell_6 rfl ?hnames_6 ?hok_6 ?haa_6 ?hbb_6 ?hab_6 ?hel_6 ?hflat_6 ?hlen_6 ?hk_6 ?hs_6
  case hclos_6 => (intro L; rfl)
  case hrel_6 => (intro L; first | rfl | kernel_rfl)
  case hcell_6 => decide
  case hnames_6 => decide +kernel
  case hs_6 => (intros; rfl)
  case haa_6 => rfl
  case hbb_6 => rfl
  case hab_6 => decide +kernel
  case hlen_6 => (simp)
  case hiter_6 =>
    (repeat' walk_at "ms")
    exact .inr rfl
  case hok_6 =>
    intro C
    exact ok_inner (names := []) ⟨rfl, rfl⟩ (by decide +kernel) rfl (by decide +kernel) (by decide +kernel) (by decide +kernel) (by simp)
  case hflat_6 =>
    intro v hv
    simp only [List.mem_cons, List.not_mem_nil, or_false] at hv
    rcases hv with rfl | rfl | rfl | rfl <;> rfl
  case hel_6 =>
    intro C v hv
    simp only [List.mem_cons, List.not_mem_nil, or_false] at hv
    rcases hv with rfl | rfl | rfl | rfl <;> (repeat' walk_at "ms") <;> rfl
  simp only [List.map_cons, List.map_nil]
  repeat' walk_at "m1"
  refine' ev_comp2 (sc := { kind := .function, names := [(Str.ofString ".0", .local), (Str.ofString "first", .local), (Str.ofString "second", .local)], isGenerator := false, isCoroutine := false, more := [] }) (gs := []) (ps := [(.int a, .int c), (.int a, .int e), (.int b, .int c), (.int b, .int e)])
    (fun p => match p with | (.int i, .int j) => .bool (decide (j ≤ i)) | _ => .none) ?hiter_7 rfl ?hclos_7 ?hrel_7 ?hcell_7 rfl ?hnames_7 ?hok_7 ?haa_7 ?hbb_7 ?hab_7 ?hel_7 ?hflat_7 ?hlen_7 ?hk_7 ?hs_7
  case hclos_7 => (intro L; rfl)
  case hrel_7 => (intro L; first | rfl | kernel_rfl)
  case hcell_7 => decide
  case hnames_7 => decide +kernel
  case hs_7 => (intros; rfl)
  case haa_7 => rfl
  case hbb_7 => rfl
  case hab_7 => decide +kernel
  case hlen_7 => (simp)
  case hiter_7 =>
    (repeat' walk_at "ms")
    exact .inr rfl
  case hok_7 =>
    intro C
    exact ok_inner (names := []) ⟨rfl, rfl⟩ (by decide +kernel) rfl (by decide +kernel) (by decide +kernel) (by decide +kernel) (by simp)
  case hflat_7 =>
    intro v hv
    simp only [List.mem_cons, List.not_mem_nil, or_false] at hv
    rcases hv with rfl | rfl | rfl | rfl <;> rfl
  case hel_7 =>
    intro C v hv
    simp only [List.mem_cons, List.not_mem_nil, or_false] at hv
    rcases hv with rfl | rfl | rfl | rfl <;> (repeat' walk_at "ms") <;> rfl
  simp only [List.map_cons, List.map_nil]
  repeat' walk_at "m1"
  rw [row_lt hab hce, row_le hab hce, row_gt hab hce, row_ge hab hce]
  refine then_next (exs_cons ?_)
  repeat' walk_at "m1"
  refine' ev_comp1 (sc := { kind := .function, names := [(Str.ofString ".0", .local), (Str.ofString "row", .local)], isGenerator := false, isCoroutine := false, more := [] }) (cl := []) (gs := []) (vs := [.lst [.bool (decide (a < c)), .bool (decide (a < e)), .bool (decide (b < c)), .bool (decide (b < e))], .lst [.bool (decide (a ≤ c)), .bool (decide (a ≤ e)), .bool (decide (b ≤ c)), .bool (decide (b ≤ e))], .lst [.bool (decide (c < a)), .bool (decide (e < a)), .bool (decide (c < b)), .bool (decide (e < b))], .lst [.bool (decide (c ≤ a)), .bool (decide (e ≤ a)), .bool (decide (c ≤ b)), .bool (decide (e ≤ b))]])
    (rowF) [] [] ?hiter_8 rfl ?hclos_8 ?hrel_8 ?hcell_8 rfl ?hnames_8 ?hok_8 ?ho_8 ?hx_8 ?hxc_8 ?hel_8 ?hflat_8 ?hlen_8 ?hk_8 ?hs_8
  case hclos_8 => (intro L; rfl)
  case hrel_8 => (intro L; first | rfl | kernel_rfl)
  case hcell_8 => decide
  case hnames_8 => decide +kernel
  case hs_8 => (intros; rfl)
  case hx_8 => rfl
  case hxc_8 => rfl
  case hlen_8 => (simp)
  case hiter_8 =>
    (repeat' walk_at "ms")
    exact .inr rfl
  case hok_8 =>
    intro C
    exact ok_inner (names := []) ⟨rfl, rfl⟩ (by decide +kernel) rfl (by decide +kernel) (by decide +kernel) (by decide +kernel) (by simp)
  case ho_8 =>
    intro y u hy
    cases hy
  case hflat_8 =>
    intro v hv
    simp only [List.mem_cons, List.not_mem_nil, or_false] at hv
    rcases hv with rfl | rfl | rfl | rfl <;> rfl
  case hel_8 =>
    intro C v hv
    simp only [List.mem_cons, List.not_mem_nil, or_false] at hv
    rcases hv with rfl | rfl | rfl | rfl <;> exact ev_rowElt (by walk_at "get")
  simp only [List.map_cons, List.map_nil]
  simp only [rowF]
  refine op_neTold (strOk_oc _ _) (strOk_oc _ _) (strOk_oc _ _) (strOk_oc _ _) rfl rfl rfl rfl ?_
  repeat' walk_at "m1"
  obtain ⟨P, qP, hP, hP'⟩ : ∃ P : Nat, num ns (1 : Int).toNat % 9 = (P : Int) - 1 ∧ 1 ≤ P ∧ P ≤ 9 := ⟨(num ns (1 : Int).toNat % 9).toNat + 1, by omega, by omega, by omega⟩
  have eP : 1 + ((P : Int) - 1) = P := by omega
  have bS : bl (a + b).natAbs ≤ 300 := Nat.le_trans (bl_41 (a := a + b) (by omega) (by omega)) (by decide)
  have bD : bl (b - a).natAbs ≤ 300 := Nat.le_trans (bl_41 (a := b - a) (by omega) (by omega)) (by decide)
  have n4 : (4 : Int) = ((4 : Nat) : Int) := rfl
  have n2 : (2 : Int) = ((2 : Nat) : Int) := rfl
  walk_at "nx"
  rw [eP]
  walk_at "nx"
  rename_i vm hM
  walk_at "nx"
  refine op_eqIs4 hM.is4 (mid_is hP hM) ?_
  repeat' walk_at "m1"
  rename_i vd hD
  refine op_eqIs4 hD.is4 (delta_is hP (by omega) hD) ?_
  repeat' walk_at "m1"
  rfl
end

end
section
local macro_rules | `(tactic| walk_at "exmore") => `(tactic| ((with_reducible refine' ex_swap2 ?hs ?hk ?h1); (case hs => (intro; kernel_rfl)); (case h1 => (intro; rfl))))
local macro_rules | `(tactic| walk_at "m0") => `(tactic| ((with_reducible show (∃ _ _, V.tup _ = V.tup _ ∧ _)); (with_reducible refine ⟨_, _, rfl, ?_⟩)))
local macro_rules | `(tactic| walk_at "tst") => `(tactic| (with_reducible refine tst_if ?_))
local macro_rules | `(tactic| walk_at "call") => `(tactic| ((with_reducible refine' Cl.eq (fn_numI ?h1 ?h2 ?h3) ?hk); (case h1 => (with_reducible assumption)); (case h2 => omega); (case h3 => omega)))
local macro_rules | `(tactic| walk_at "exmore") => `(tactic| ((with_reducible refine' ex_swap2 ?hs ?hk ?h1); (case hs => (intro; kernel_rfl)); (case h1 => (intro; rfl))))
local macro_rules | `(tactic| walk_at "s4") => `(tactic| (first | (case h4 => walk_at "side") | skip))
local macro_rules | `(tactic| walk_at "side") => `(tactic| first | (with_reducible assumption) | (exact Nat.le_of_ble_eq_true rfl) | omega | (simp only [Str.length_append, T_len]; omega) | decide | (decide +kernel))
local macro_rules | `(tactic| walk_at "asm") => `(tactic| first | (with_reducible assumption) | (decide +kernel))
local macro_rules | `(tactic| walk_at "opmore") => `(tactic| first
  | ((with_reducible refine' op_addS ?h1 ?h2 ?hk); walk_at "s1"; walk_at "s2")
  | ((with_reducible refine' op_inS ?h1 ?hk); (case h1 => (with_reducible assumption))))
local macro_rules | `(tactic| walk_at "op") => `(tactic| first
  | ((with_reducible show Op2 (subscriptTail _ _) _ _ _ (V.lst [_, _]) _ _ _); (refine' sub_lst ?h3 ?h1 ?h2 ?hk ?h5); (case h3 => rfl); (case h1 => decide); (case h2 => decide); (case h5 => (intros; with_unfolding_all rfl)))
  | ((with_reducible refine' op_modE ?h1 ?h2 ?hk); (case h1 => decide); (case h2 => (with_reducible assumption)))
  | ((with_reducible show Op2 (subscriptTail _ _) _ _ _ (V.tup _) _ _ _); (refine' sub_tup ?h3 ?h1 ?h2 ?h4 ?hk ?h5); (case h3 => rfl); (case h1 => rfl); (case h2 => decide); (case h4 => decide); (case h5 => (intros; with_unfolding_all rfl))))
local macro_rules | `(tactic| walk_at "cl") => `(tactic| first
  | ((with_reducible refine' cl_strE ?h1 ?h2 ?hk); (case h1 => (with_reducible assumption)); (case h2 => omega)))
section
variable {w : World} {p : Program} {loose : List Str} {mean : ExcName → Option Value} {mg mb : Str → Option Value} {f : FI} {d : Nat} {X : Prop}
/-- a text that is no interval -/
def Bad (w : World) (p : Program) (loose : List Str) (mean : ExcName → Option Value) (mg mb : Str → Option Value) (x : Str) : Prop :=
  ∀ {f : FI} {d : Nat}, Cl (GG w p loose mean mg mb) f (d + 14) (.ref 264) [.str x, .int 20] (fun _ => False) True
abbrev lawTabs : List (Addr × Str) := [(332, Str.ofString "law.<locals>.<lambda>"), (327, Str.ofString "_law_compared.<locals>.<lambda>")]
abbrev lawCps : List (Addr × Addr) := [(329, 327), (336, 332)]
theorem lawTabs_1 : (332, Str.ofString "law.<locals>.<lambda>") ∈ lawTabs := .head _
theorem lawTabs_2 : (327, Str.ofString "_law_compared.<locals>.<lambda>") ∈ lawTabs := .tail _ (.head _)
theorem lawTabs_3 : ∀ t ∈ lawTabs, t.1 = 332 → t.2 = Str.ofString "law.<locals>.<lambda>" := by
  intro t ht h
  simp only [lawTabs, List.mem_cons, List.not_mem_nil, or_false] at ht
  rcases ht with rfl | rfl
  · rfl
  · exact absurd h (by decide)
theorem lawTabs_4 : ∀ t ∈ lawTabs, t.1 = 327 → t.2 = Str.ofString "_law_compared.<locals>.<lambda>" := by
  intro t ht h
  simp only [lawTabs, List.mem_cons, List.not_mem_nil, or_false] at ht
  rcases ht with rfl | rfl
  · exact absurd h (by decide)
  · rfl
local macro_rules | `(tactic| walk_at "ev") => `(tactic| ((with_reducible refine' ev_sliceL_to ?hk ?h1 ?h2); (case h1 => (intros; with_unfolding_all rfl)); (case h2 => (intros; with_unfolding_all rfl))))
local macro_rules | `(tactic| walk_at "m0") => `(tactic| ((with_reducible show (∃ _ _, V.lst _ = V.lst _ ∧ V.int _ = V.int _ ∧ _)); (with_reducible refine' ⟨_, _, rfl, rfl, ?h1, ?h2, ?hk⟩); (case h1 => decide); (case h2 => omega)))
local macro_rules | `(tactic| walk_at "cl") => `(tactic| ((with_reducible refine' cl_lenL ?hk ?hl); (case hl => decide); (with_reducible show Op2 _ _ _ _ _ _ _ _)))
local macro_rules | `(tactic| walk_at "ev") => `(tactic| (
  (with_reducible show Ev _ _ _ (.Call (.Name (Str.ofString "_law_outcome") _) [.Lambda _ (.Call (.Name (Str.ofString "mpi_from_str") _) _ _ _) _ _] _ _) _ _ _);
  (refine' ev_outO ?hm rfl rfl lawTabs_1 lawTabs_3 rfl ?hl ?el ?hcl ?hR ?hk);
  (case hm => walk_at "inl"); (case hl => walk_at "get"); (case el => rfl); (case hcl => (intro L; rfl)); (case hR => assumption)))
local macro_rules | `(tactic| walk_at "op") => `(tactic| (
  (with_reducible show Op2 (subscriptTail _ _) _ _ _ (V.lst _) _ _ _); (refine' sub_lst ?h3 ?h1 ?h2 ?hk ?h5); (case h3 => rfl); (case h1 => decide); (case h2 => decide); (case h5 => (intros; with_unfolding_all rfl))))
local macro_rules | `(tactic| walk_at "call") => `(tactic| first
  | ((with_reducible refine' Cl.eq (fn_law_read ?h1) ?hk); (case h1 => (with_reducible assumption)))
  | ((with_reducible refine' Cl.eq (fn_law_compared ?h1 lawTabs_2 lawTabs_4) ?hk); (case h1 => (with_reducible assumption))))
theorem law_walk {s : Shared} {val : Value} {ns : List Int} (hn : ns.length ≤ 1000) (hT : TabsAt lawCps s.heap) (X' : (hd.heap_39 w.params).In (ghostOf s.heap lawCps)) (T' : Top p loose mean mg mb (ghostOf s.heap lawCps))
    (rx : Rep (fun b o => (ghostOf s.heap lawCps).get? b = some o) val (.lst (ns.map V.int))) {Q : Value → Shared → Prop} {E : Value → Shared → Prop}
    (hQ : ∀ h' tk', (∀ b o, (ghostOf s.heap lawCps).get? b = some o → h'.get? b = some o) → (∀ q ∈ lawTabs, GrownAt q.1 h') → Q (.bool true) { s with heap := h', toks := tk' }) :
    wpC (model PySem.Challenge.rw_bw0032_01.row.prog w) callerA (call (.ref 337) [val]) Q E s := by
  refine' top_enter (g := GG w p loose mean mg mb) (d := 0 + 16) (cps := lawCps) (tabs := lawTabs) (Φ := fun v => v = .bool true) (p := Str.ofString "script") hT ?htab X' T' (fun n => [(Str.ofString "odd", n)]) nslaw gslaw nslaw.tail 2 rx ?ho ?hcd ?hbind rfl ?hcells ?hok ?hnd ?hl ?hlc ?hco ?hgen (by decide) (by decide) ?hρ ?hb ?hQ
  case htab => decide
  case ho => (show List.lookup _ (hd.heap_39 _) = _; k_is)
  case hcd => (show codeIn (hd.heap_39 _) _ _ = _; k_is)
  case hbind => exact BindsTo.of_eq rfl
  case hcells => (intro n; rfl)
  case hok => (intro n; exact ok_cells (names := [Str.ofString "odd"]) rfl (by decide +kernel) rfl (by decide +kernel) (by decide +kernel) (by decide +kernel) (by simp))
  case hnd => decide +kernel
  case hl => decide +kernel
  case hlc => (intro n; rfl)
  case hco => rfl
  case hgen => rfl
  case hρ => (simp only [List.replicate]; rfl)
  case hQ =>
    intro val' v h' tk' news' k1 k2 rv hv
    subst hv
    cases rv
    exact hQ h' tk' k1 k2
  intro n
  have ll : ((ns.take (24 : Int).toNat).map V.int).length ≤ 100 := by simp; omega
  have ll' : (ns.take (24 : Int).toNat).length ≤ 100 := by simp; omega
  walk_at "st"
  refine then_next ?_
  refine exs_cons ?_
  repeat' walk_at "m1"
  refine then_next ?_
  obtain ⟨o, qo, o0, o9⟩ : ∃ o : Int, num (ns.take (24 : Int).toNat) (12 : Int).toNat % 10 = o ∧ 0 ≤ o ∧ o ≤ 9 := ⟨_, rfl, by omega, by omega⟩
  obtain ⟨sc, hsc⟩ : ∃ sc, sc = ns.take (24 : Int).toNat := ⟨_, rfl⟩
  rw [← hsc] at ll ll' qo ⊢
  refine exs_join (fun ρ' => ∃ x, Bad w p loose mean mg mb x ∧ ρ' = [some (.lst (sc.map V.int)), some (.lst [.str (Str.ofString "1,2"), .str (Str.ofString "(1,2)"), .str (Str.ofString "1(2"), .str (Str.ofString "5(1%2)"), .str (Str.ofString "some"), .str (Str.ofString "1[2,3"), .str (Str.ofString "1+-2+-3"), .str (Str.ofString ""), .str (Str.ofString "1.2.3"), .str (Str.ofString "[1;2]")]), some (.str x)]) ?_ ?_
  · have e10 : (([.str (Str.ofString "1,2"), .str (Str.ofString "(1,2)"), .str (Str.ofString "1(2"), .str (Str.ofString "5(1%2)"), .str (Str.ofString "some"), .str (Str.ofString "1[2,3"), .str (Str.ofString "1+-2+-3"), .str (Str.ofString ""), .str (Str.ofString "1.2.3"), .str (Str.ofString "[1;2]")] : List V).length : Int) = 10 := rfl
    have ho : o = 0 ∨ o = 1 ∨ o = 2 ∨ o = 3 ∨ o = 4 ∨ o = 5 ∨ o = 6 ∨ o = 7 ∨ o = 8 ∨ o = 9 := by omega
    rcases ho with rfl | rfl | rfl | rfl | rfl | rfl | rfl | rfl | rfl | rfl
    all_goals (
      (repeat' walk_at "m1")
      rw [e10, qo]
      (repeat' walk_at "ms")
      refine ⟨_, ?_, rfl⟩
      first | exact fun {_ _} => odd_r0 trivial | exact fun {_ _} => odd_r1 trivial | exact fun {_ _} => odd_r2 trivial | exact fun {_ _} => odd_r3 trivial | exact fun {_ _} => odd_r4 trivial | exact fun {_ _} => odd_r5 trivial | exact fun {_ _} => odd_f0 trivial | exact fun {_ _} => odd_f1 trivial | exact fun {_ _} => odd_f2 trivial | exact fun {_ _} => odd_f3 trivial)
  rintro _ ⟨x, hx, rfl⟩
  have hR : ∀ {f : FI} {d : Nat}, Cl (GG w p loose mean mg mb) f (d + 14) (.ref 264) [.str x, .int 20] (fun _ => False) True := hx
  refine exs_cons ?_
  repeat' walk_at "m1"
  rfl
end

end
section


theorem law_tabs {K : Frag} {h : Heap} (X : K.In h) (e1 : codeHdIn K 329 327 = true) (e2 : codeHdIn K 336 332 = true) (t : ∀ P ∈ [327, 332], h.get? P = some (tabObj #[])) : TabsAt lawCps h := fun q hq => by
  simp only [lawCps, List.mem_cons, List.not_mem_nil, or_false] at hq
  rcases hq with rfl | rfl
  · exact ⟨codeHd_of_K X e1, t _ (.head _)⟩
  · exact ⟨codeHd_of_K X e2, t _ (.tail _ (.head _))⟩
theorem law_old {h h' : Heap} (hT : TabsAt lawCps h) (keep : ∀ b o, (ghostOf h lawCps).get? b = some o → h'.get? b = some o) (grown : ∀ q ∈ lawTabs, GrownAt q.1 h') : OldK h h' := by
  have g : ∀ q ∈ lawCps, GrownAt q.2 h' := fun q hq => by
    simp only [lawCps, List.mem_cons, List.not_mem_nil, or_false] at hq
    rcases hq with rfl | rfl
    · exact grown _ lawTabs_2
    · exact grown _ lawTabs_1
  refine ⟨fun b o e => ?_, fun b o e => ?_⟩
  · by_cases hb : b ∈ lawCps.map (·.2)
    · obtain ⟨q, hq, rfl⟩ := List.mem_map.mp hb
      obtain ⟨ps, hP⟩ := g q hq
      have t := hT q hq
      have eo : o = tabObj #[] := Option.some.inj (e.symm.trans t.2)
      refine .inr (.inl ⟨(t.1.tab t.2).isCodeTable, ?_, #[], ps, ?_, ?_⟩)
      · rw [eo]
      · rw [eo]
      · rw [eo, hP, Array.empty_append]
    · exact .inl (keep b o (ghost_ne e hb))
  · by_cases hb : b ∈ lawCps.map (·.2)
    · obtain ⟨q, hq, rfl⟩ := List.mem_map.mp hb
      obtain ⟨ps, hP⟩ := g q hq
      exact ⟨_, hP⟩
    · exact ⟨o, keep b o (ghost_ne e hb)⟩
theorem rep_list {h : Heap} {a : Addr} {items : Array Value} {ns : List Int} (x : h.IsList a items) (hi : IntsAre items.toList ns) : Rep (fun b o => h.get? b = some o) (.ref a) (.lst (ns.map V.int)) := by
  obtain ⟨o, h1, h2, n, h3⟩ := x
  exact .lst (items := items.toList) h1 h2 (by simpa using h3) (repL_of_ints hi)

end
end Mine
set_option maxRecDepth 100000 in
set_option maxHeartbeats 8000000 in
theorem PySem.Challenge.cw_bw0032_01_holds : PySem.Challenge.rw_bw0032_01.Holds := by
  refine Mine.hd ?_
  w_on
  intro w s₀ s₁ mg mb G Y fa o pm cd doc dV kV ho hdat hcd hD hmg hg args vals as hpre hlay hrd hwl hlo
  have KX := km_in_of Y
  have hT := Mine.law_tabs KX (by kernel_rfl) (by kernel_rfl) (km_tabs_of Y)
  have T := G.T
  have ea : fa = 337 := by
    obtain ⟨v, e1, e2⟩ := (Mine.gllaw w.params).out
    cases e2
    have e3 := mg_of KX T.g e1
    have e4 : mg (Str.ofString "law") = some (.ref fa) := hmg
    rw [e3] at e4
    cases e4
    rfl
  subst ea
  clear hdat ho hcd hD
  have T' := ghost_top hT T
  have X' := ghost_K hT KX (by kernel_rfl)
  wrow_args hpre hlay hrd hwl hlo
  all_goals (
    rename IntsAre _ _ => hi
    rename Heap.IsList _ _ _ => hl
    rename ¬ _ => hlen
    refine Mine.law_walk (w := w) (mean := ExcName.means s₀.heap) (mg := mg) (mb := mb) (by omega) hT X' T' (Mine.rep_list (ghost_list hT hl) hi) fun h' tk' keep grown => ?_
    refine ⟨.inl ⟨.bool true, .bool true, [], rfl, ?_, ?_, ?_, ?_⟩, Mine.law_old hT keep grown, rfl, ?_⟩)
  · exact fun _ => rfl
  · exact .bool true
  · wrow_post
  · exact fun _ => ⟨List.nodup_nil, fun _ h => by cases h⟩
  · exact .of_eq hg
