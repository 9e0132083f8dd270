import PyProof.Rows.All
import Wide.All
import OpenK.AllK
import Wide.FinOn
import PySem.Challenge.RW_nq0044_01
set_option Elab.async false
section
open PySem PySem.W PyProof.Rows PySem.Calls
open Sem (wp)
set_option maxRecDepth 100000
set_option maxHeartbeats 4000000
namespace Mine
/-! ## a head that asks the call in the one context in which the claim makes it (the kit's head asks it in every context) -/
abbrev topC : Ctx := ⟨.builtin "claim.caller" {}, none, none, [], none⟩
def wpT {α : Type} (M : Model) (t : Sem α) (Q : α → Shared → Prop) (E : Value → Shared → Prop) (s : Shared) : Prop := ∀ p, wp M topC t (fun a _ s' => Q a s') (fun e _ s' => E e s') p s
theorem wpT_mono {α : Type} {M : Model} {t : Sem α} {Q Q' : α → Shared → Prop} {E E' : Value → Shared → Prop} {s : Shared} (h : wpT M t Q E s) (hQ : ∀ a s, Q a s → Q' a s) (hE : ∀ e s, E e s → E' e s) : wpT M t Q' E' s :=
  fun p => Sem.wp_mono M topC t (fun a _ s => hQ a s) (fun e _ s => hE e s) p s (h p)
/-- the claim's thread runs to what the call gives -/
theorem stub_ends {prog : Program} {w : World} {name : Str} {vs : List Value} {s : Shared} {mg : Str → Option Value} {f : Value} {R : Result → Shared → Prop} (hz : s.asleep) (hg : s.heap.Ns mainGlobals mg) (hf : mg name = some f)
    (h : wpT (model prog w) (call f vs) (fun v s' => R (.ok (.ret v)) s' ∧ leftWithCleanup s'.gens = false) (fun e s' => R (.error e) s' ∧ leftWithCleanup s'.gens = false) s) :
    ∃ n r s' s'', schedN (denote table) prog w n (.single s (callStub name vs)) = .halted (outcomeOf r) s'' ∧ runN (denote table) prog w n s (callStub name vs) = .halted (outcomeOf r) s'' ∧ s''.forget = s'.forget ∧ R r s' := by
  refine wp_halts_full (M := model prog w) (R := R) hz ?_
  rw [Sem.wp_bind']
  refine (Sem.wp_nsGet _ topC _ _ s hg name _).mpr ?_
  rw [hf]
  show wp (model prog w) topC (call f vs >>= fun v => ret v) _ _ _ s
  rw [Sem.wp_bind']
  exact Sem.wp_mono _ topC _ (fun v p' s' x => x) (fun _ _ _ x => x) _ _ (h _)
/-- what is asked of the call -/
abbrev WalkT (q : Program) (loose : List Str) (XP : (Str → Option Value) → Heap → Prop) (YP : World → Heap → Prop) (r : RowW) : Prop :=
  ∀ (w : World) (s₀ s₁ : Shared) (mg mb : Str → Option Value), Ground q loose r.records XP w s₀ mg mb s₁.heap → YP w s₁.heap → s₁.gens = #[] →
    ∀ (args : List WData) (vs : List Value) (as : List Addr), r.claim.pre args = true → ReadsAllW r.records (classAt s₀.heap) s₁.heap vs args as →
      ∃ f, mg r.name = some f ∧ wpT (model r.prog w) (call f vs) (fun v s' => GoodW r.claim (classAt s₀.heap) (ExcName.means s₀.heap) args s₁ (.ok (.ret v)) s') (fun _ _ => False) s₁
/-- a law's call from the state behind the top, once it is known in the claim's own context -/
theorem call_from {r : RowW} {w : World} {s : Shared} {mg : Str → Option Value} {free : Addr → Prop} {gens : Prop} {kept : Heap → Prop} (hz : s.asleep) (hgens : s.gens = #[]) (hmg : s.heap.Ns mainGlobals mg)
    (hlays : ∀ args, r.claim.pre args = true → ∀ ord : List DictEntry → List DictEntry, (layAllW r.records (classAt s.heap) w.params ord args s).isSome = true)
    (hsame : r.claim.same = none) (hwi : r.claim.within = []) (hi : ∀ a b, r.claim.ident a b = true) (hkept : ∀ s₁ s' : Shared, (∀ b o, s.heap.get? b = some o → s₁.heap.get? b = some o) → OldK s₁.heap s'.heap → kept s'.heap)
    (hcall : ∀ args vs as s₁, r.claim.pre args = true → WData.layableAll args = true → Laid r.records w s s₁ args vs as →
      ∃ f, mg r.name = some f ∧ wpT (model r.prog w) (call f vs) (fun v s' => GoodW r.claim (classAt s.heap) (ExcName.means s.heap) args s₁ (.ok (.ret v)) s') (fun _ _ => False) s₁) :
    r.claim.CallFrom (callStub r.name) w free gens kept s := by
  intro args hpre hlay ord hord
  obtain ⟨⟨vs, s₁⟩, hlaid⟩ := Option.isSome_iff_exists.mp (hlays args hpre ord)
  have keeps := layAllW_keeps _ _ _ hlaid
  have hal := layAllW_rest _ _ _ hlaid
  obtain ⟨as, hrd, hin, hold⟩ := reads_layAllW hord _ _ _ hlaid hlay s₁.heap (fun _ _ e => e)
  have L : Laid r.records w s s₁ args vs as := ⟨⟨ord, hord, hlaid⟩, hrd, hin, hold, keeps, hal.1.trans hgens, hal.2.2.1⟩
  obtain ⟨f, hf, h⟩ := hcall args vs as s₁ hpre hlay L
  obtain ⟨n, res, s', s'', hsched, hrun, hfo, v, rfl, hG⟩ := stub_ends (R := fun res s' => ∃ v, res = .ok (.ret v) ∧ GoodW r.claim (classAt s.heap) (ExcName.means s.heap) args s₁ (.ok (.ret v)) s')
    (Shared.asleep_of_life hal.2.2.2 hz) (hmg.keeps keeps) hf (wpT_mono h (fun v s' g => ⟨⟨v, rfl, g⟩, leftWithCleanup_false_of_bare g.toG.2.2.2⟩) fun _ _ x => x.elim)
  have hK := hG.toG.2.1
  obtain ⟨hE, hos, _⟩ := GoodWG.laid (c := r.claim) hsame hwi hi L hG.toG
  obtain ⟨eh, _, _, eo, _⟩ := Shared.forget_eq hfo
  have hlife : s''.heap.life = s.heap.life := (runN_life _ _ _ hrun).trans hal.2.2.2
  refine ⟨vs, s₁, hlaid, n, _, s'', hsched, ?_, (fun _ i x hx => by rw [hgens] at hx; simp at hx), hkept s₁ s'' keeps (eh ▸ hK), by rw [hlife], Shared.rest_eq (eo.trans hos)⟩
  rcases hE.congr eh with ⟨v', e, d1, d2, d3, d4, d5⟩ | ⟨_, _, _, e, _⟩
  · cases e
    exact .inl ⟨v, rfl, d1, d2, d3, fun b o y _ => d4 b o y, d5⟩
  · cases e
end Mine
namespace Mine.PySem.W
/-- the head itself. It bears this name, under Mine, so that the kit's open_top, within the namespace Mine, builds its head with this lemma -/
theorem holds_open {r : OpenRow} {q : Program} {loose : List Str} {Xt : Shared → Bool} {XP : (Str → Option Value) → Heap → Prop} {α : Type} {Yf : Shared → α} {Ya : World → α} {YP : World → Heap → Prop} {d : DefRec} {kwd : List (Str × PySem.Expr)} {N : Nat}
    (left : LeftO r.prog q loose Xt Yf Ya N) (hY : ∀ w s, Yf s = Ya w → YP w s.heap) (hYk : ∀ w h h', YP w h → (∀ b o, h.get? b = some o → h'.get? b = some o) → YP w h')
    (hX : ∀ s, Xt s = true → XP (s.heap.nsMap mainGlobals) s.heap) (hXk : ∀ mg h h', XP mg h → (∀ b o, h.get? b = some o → h'.get? b = some o) → XP mg h')
    (hdef : defOf q r.name = some (d, kwd)) (hp : r.prog.theDef r.name = some (d.params, d.body, d.scope)) (hk : kwWritten? d.params.kwonlyargs d.params.kw_defaults = some kwd) (hRf : ∀ s, Xt s = true → RecFacts r.records s.heap) (hwr : (!r.writes || r.records.isEmpty) = true)
    (k1 : r.wellSaid = true) (ok : (chainsOk q && opensWell r.prog && (frees r.toRowW && r.within.isEmpty)) = true) (hb : r.prog.bare) (hw : r.toRowW.promised)
    (call : WalkT q loose XP YP r.toRowW) : r.Holds := by
  simp only [Bool.and_eq_true] at ok
  obtain ⟨⟨hch, o1⟩, k5, k6⟩ := ok
  obtain ⟨hsame, hu, ha, hap, hm⟩ := frees_parts k5
  refine ⟨k1, hw, ⟨hb, o1, by show r.makers.map _ = []; rw [hm]; rfl⟩, hw.witness, fun w => ⟨(left.behind hX hch w).1, fun s' hs' => ?_⟩⟩
  obtain ⟨s₀, hf, hg0, s, hT, hz, hgens, hg, GR, y⟩ := (left.behind (XP := fun mg h => XP mg h ∧ RecFacts r.records h) (fun s hs => ⟨hX s hs, hRf s hs⟩) hch w).2 s' hs'
  have RF := GR.X.2
  have G0 : Ground q loose [] XP w s (s.heap.nsMap mainGlobals) (s.heap.nsMap builtinsNs) s.heap := { GR with X := GR.X.1 }
  have G := RF.ground G0
  refine ⟨s₀, hf, hg0, s, hT, fun n hn => ?_, RF.1, RF.2.1, ?_⟩
  · obtain rfl : n = r.name := by split at hn <;> simp_all
    exact pinned_of_view hg G0 hdef hp hk
  · refine call_from (r := r.toRowW) hz (Array.eq_empty_of_size_eq_zero (beq_iff_eq.mp hgens)) G.T.g (fun args hpre ord => layAllW_isSome G.has args r.args s (pre_splitW hpre).1) hsame (List.isEmpty_iff.mp k6) (ident_freeW hu ha hap)
      (fun s₁ s' keeps hK q => ⟨namesKept_of hT hg _ keeps hK.old, noTable hwr q⟩) fun args vs as s₁ hpre hlay L => ?_
    exact call w s s₁ _ _ (G.keeps hXk L.keeps) (hYk _ _ _ (hY w s y) L.keeps) L.gens args vs as hpre L.reads
end Mine.PySem.W
end
section
open PySem PySem.W PyProof.Rows
namespace Mine
set_option maxRecDepth 100000
set_option maxHeartbeats 8000000
open_top hd for PySem.Challenge.rw_nq0044_01
end Mine
end
section
open PySem PySem.W PyProof.Rows PySem.Calls
set_option maxRecDepth 100000
set_option maxHeartbeats 4000000
namespace Mine

/-! ## what stands between two states -/

/-- from s to s' nothing that stood is lost but at W; the base heap b₀ stays -/
structure Ext (b₀ : Heap) (W : List Addr) (s s' : Shared) : Prop where
  same : ∃ h tk, s' = { s with heap := h, toks := tk }
  keep : ∀ b o, b ∉ W → s.heap.get? b = some o → s'.heap.get? b = some o
  base : ∀ b o, b₀.get? b = some o → s'.heap.get? b = some o
  live : ∀ b o, s.heap.get? b = some o → ∃ o', s'.heap.get? b = some o'

abbrev Ledger := List (Addr × (Obj → Prop))

/-- a frame at work: since s₀ only W and the frame L were written; the frame's map; what the call owns -/
structure In (b₀ : Heap) (s₀ : Shared) (W : List Addr) (L : Addr) (m : Str → Option Value) (led : Ledger) (s : Shared) : Prop where
  same : ∃ h tk, s = { s₀ with heap := h, toks := tk }
  keep : ∀ b o, b ∉ W → b ≠ L → s₀.heap.get? b = some o → s.heap.get? b = some o
  base : ∀ b o, b₀.get? b = some o → s.heap.get? b = some o
  live : ∀ b o, s₀.heap.get? b = some o → ∃ o', s.heap.get? b = some o'
  ns : s.heap.Ns L m
  own : ∀ p ∈ led, ∃ o, s.heap.get? p.1 = some o ∧ p.2 o
  new : ∀ p ∈ led, b₀.get? p.1 = none ∧ p.1 ≠ L
  apart : (led.map (·.1)).Nodup
  newL : b₀.get? L = none

theorem none_of_size {h : Heap} {a : Addr} (ha : h.objs.size ≤ a) : h.get? a = none := by
  cases e : h.get? a with
  | none => rfl
  | some o => exact absurd (Heap.lt_size e) (Nat.not_lt.mpr ha)

section
variable {b₀ : Heap} {s₀ s s' s'' : Shared} {W W' : List Addr} {L : Addr} {m m' : Str → Option Value} {led led' : Ledger}

theorem Ext.refl (hb : ∀ b o, b₀.get? b = some o → s.heap.get? b = some o) : Ext b₀ W s s := ⟨⟨s.heap, s.toks, rfl⟩, fun _ _ _ e => e, hb, fun _ o e => ⟨o, e⟩⟩
theorem Ext.trans (x : Ext b₀ W s s') (y : Ext b₀ W s' s'') : Ext b₀ W s s'' := by
  refine ⟨?_, fun b o hb e => y.keep b o hb (x.keep b o hb e), y.base, fun b o e => let ⟨o', e'⟩ := x.live b o e; y.live b o' e'⟩
  obtain ⟨h, tk, rfl⟩ := x.same
  obtain ⟨h', tk', rfl⟩ := y.same
  exact ⟨h', tk', rfl⟩
theorem In.tok (x : In b₀ s₀ W L m led s) (tk : Nat) : In b₀ s₀ W L m led { s with toks := tk } := by
  obtain ⟨h, tk', rfl⟩ := x.same
  exact ⟨⟨h, tk, rfl⟩, x.keep, x.base, x.live, x.ns, x.own, x.new, x.apart, x.newL⟩
theorem In.exit (x : In b₀ s₀ W L m led s) (hL : s₀.heap.get? L = none) : Ext b₀ W s₀ s :=
  ⟨x.same, fun b o hb e => x.keep b o hb (by rintro rfl; rw [hL] at e; cases e) e, x.base, x.live⟩
theorem In.less (x : In b₀ s₀ W L m led s) (hs : ∀ p ∈ led', p ∈ led) (hn : (led'.map (·.1)).Nodup) : In b₀ s₀ W L m led' s :=
  ⟨x.same, x.keep, x.base, x.live, x.ns, fun p hp => x.own p (hs p hp), fun p hp => x.new p (hs p hp), hn, x.newL⟩
theorem In.tail {p : Addr × (Obj → Prop)} (x : In b₀ s₀ W L m (p :: led) s) : In b₀ s₀ W L m led s := x.less (fun _ h => .tail _ h) (List.nodup_cons.mp x.apart).2
theorem In.set {h' : Heap} {tk : Nat} (x : In b₀ s₀ W L m led s) (hn : h'.Ns L m') (hs : Heap.SameBut L s.heap h') : In b₀ s₀ W L m' led { s with heap := h', toks := tk } := by
  refine ⟨?_, fun b o hb hL e => (hs.2 b hL).trans (x.keep b o hb hL e), fun b o e => (hs.2 b (by rintro rfl; rw [x.newL] at e; cases e)).trans (x.base b o e), ?_, hn, fun p hp => ?_, x.new, x.apart, x.newL⟩
  · obtain ⟨h, tk', rfl⟩ := x.same; exact ⟨h', tk, rfl⟩
  · intro b o e
    by_cases hbL : b = L
    · subst hbL; obtain ⟨o', _, _, ho', _⟩ := hn; exact ⟨o', ho'⟩
    · obtain ⟨o', e'⟩ := x.live b o e; exact ⟨o', (hs.2 b hbL).trans e'⟩
  · obtain ⟨o, ho, hp'⟩ := x.own p hp
    exact ⟨o, (hs.2 p.1 (x.new p hp).2).trans ho, hp'⟩

theorem In.push (x : In b₀ s₀ W L m led s) (o : Obj) (P : Obj → Prop) (hf : o.isFreed = false) (hP : P o) :
    In b₀ s₀ W L m ((s.heap.objs.size, P) :: led) { s with heap := s.heap.push o } ∧ s₀.heap.get? s.heap.objs.size = none := by
  refine ⟨⟨?_, fun b o' hb hL e => Heap.get?_push_of_some _ (x.keep b o' hb hL e), fun b o' e => Heap.get?_push_of_some _ (x.base b o' e), ?_, ?_, ?_, ?_, ?_, x.newL⟩, ?_⟩
  · obtain ⟨h, tk', rfl⟩ := x.same; exact ⟨h.push o, tk', rfl⟩
  · intro b o' e; obtain ⟨o'', e'⟩ := x.live b o' e; exact ⟨o'', Heap.get?_push_of_some _ e'⟩
  · exact x.ns.at' fun o' e => Heap.get?_push_of_some _ e
  · intro p hp
    rcases List.mem_cons.mp hp with rfl | hp
    · exact ⟨o, Heap.get?_push_size _ hf, hP⟩
    · obtain ⟨o', ho', hp'⟩ := x.own p hp
      exact ⟨o', Heap.get?_push_of_some _ ho', hp'⟩
  · intro p hp
    rcases List.mem_cons.mp hp with rfl | hp
    · refine ⟨?_, fun e => ?_⟩
      · cases q : b₀.get? s.heap.objs.size with
        | none => rfl
        | some o' => exact absurd (Heap.lt_size (x.base _ _ q)) (Nat.lt_irrefl _)
      · exact absurd x.ns.lt (by rw [← e]; exact Nat.lt_irrefl _)
    · exact x.new p hp
  · refine List.nodup_cons.mpr ⟨fun hm => ?_, x.apart⟩
    obtain ⟨p, hp, e⟩ := List.mem_map.mp hm
    obtain ⟨o', ho', _⟩ := x.own p hp
    exact absurd (Heap.lt_size ho') (by rw [e]; exact Nat.lt_irrefl _)
  · cases q : s₀.heap.get? s.heap.objs.size with
    | none => rfl
    | some o' => obtain ⟨o'', e'⟩ := x.live _ _ q; exact absurd (Heap.lt_size e') (Nat.lt_irrefl _)

/-- an owned object is changed -/
theorem In.change {a : Addr} {P P' : Obj → Prop} {h' : Heap} {tk : Nat} (x : In b₀ s₀ W L m ((a, P) :: led) s) (hW : a ∈ W ∨ s₀.heap.get? a = none) (hs : Heap.SameBut a s.heap h') (ho : ∃ o, h'.get? a = some o ∧ P' o) :
    In b₀ s₀ W L m ((a, P') :: led) { s with heap := h', toks := tk } := by
  have ha := x.new _ (List.Mem.head _)
  have hn := List.nodup_cons.mp x.apart
  refine ⟨?_, fun b o hb hL e => (hs.2 b ?_).trans (x.keep b o hb hL e), fun b o e => (hs.2 b (by rintro rfl; rw [ha.1] at e; cases e)).trans (x.base b o e), ?_, ?_, ?_, ?_, x.apart, x.newL⟩
  · obtain ⟨h, tk', rfl⟩ := x.same; exact ⟨h', tk, rfl⟩
  · rintro rfl
    rcases hW with h | h
    · exact hb h
    · rw [h] at e; cases e
  · intro b o e
    by_cases hba : b = a
    · subst hba; obtain ⟨o', ho', _⟩ := ho; exact ⟨o', ho'⟩
    · obtain ⟨o', e'⟩ := x.live b o e; exact ⟨o', (hs.2 b hba).trans e'⟩
  · exact x.ns.sameBut hs (Ne.symm ha.2)
  · intro p hp
    rcases List.mem_cons.mp hp with rfl | hp
    · exact ho
    · obtain ⟨o', ho', hp'⟩ := x.own p (.tail _ hp)
      refine ⟨o', (hs.2 p.1 fun e => hn.1 ?_).trans ho', hp'⟩
      exact e ▸ (List.mem_map_of_mem (f := (·.1)) hp)
  · intro p hp
    rcases List.mem_cons.mp hp with rfl | hp
    · exact ha
    · exact x.new p (.tail _ hp)

/-- a callee has worked on nothing that the frame owns -/
theorem In.ext (x : In b₀ s₀ W L m led s) (y : Ext b₀ [] s s') : In b₀ s₀ W L m led s' := by
  refine ⟨?_, fun b o hb hL e => y.keep b o (by simp) (x.keep b o hb hL e), y.base, fun b o e => let ⟨o', e'⟩ := x.live b o e; y.live b o' e', x.ns.at' fun o e => y.keep _ o (by simp) e, fun p hp => ?_, x.new, x.apart, x.newL⟩
  · obtain ⟨h, tk, rfl⟩ := x.same
    obtain ⟨h', tk', rfl⟩ := y.same
    exact ⟨h', tk', rfl⟩
  · obtain ⟨o, ho, hp'⟩ := x.own p hp
    exact ⟨o, y.keep _ o (by simp) ho, hp'⟩
/-- a callee has written one owned object -/
theorem In.ext1 {a : Addr} {P P' : Obj → Prop} (x : In b₀ s₀ W L m ((a, P) :: led) s) (hW : a ∈ W ∨ s₀.heap.get? a = none) (y : Ext b₀ [a] s s') (ho : ∃ o, s'.heap.get? a = some o ∧ P' o) : In b₀ s₀ W L m ((a, P') :: led) s' := by
  have ha := x.new _ (List.Mem.head _)
  have hn := List.nodup_cons.mp x.apart
  refine ⟨?_, fun b o hb hL e => y.keep b o ?_ (x.keep b o hb hL e), y.base, fun b o e => let ⟨o', e'⟩ := x.live b o e; y.live b o' e', x.ns.at' fun o e => y.keep _ o ?_ e, fun p hp => ?_, ?_, x.apart, x.newL⟩
  · obtain ⟨h, tk, rfl⟩ := x.same
    obtain ⟨h', tk', rfl⟩ := y.same
    exact ⟨h', tk', rfl⟩
  · intro hm
    cases List.mem_singleton.mp hm
    rcases hW with h | h
    · exact hb h
    · rw [h] at e; cases e
  · intro hm; exact ha.2 (List.mem_singleton.mp hm).symm
  · rcases List.mem_cons.mp hp with rfl | hp
    · exact ho
    · obtain ⟨o', ho', hp'⟩ := x.own p (.tail _ hp)
      refine ⟨o', y.keep _ _ (fun hm => hn.1 ?_) ho', hp'⟩
      exact List.mem_singleton.mp hm ▸ (List.mem_map_of_mem (f := (·.1)) hp)
  · intro p hp
    rcases List.mem_cons.mp hp with rfl | hp
    · exact ha
    · exact x.new p (.tail _ hp)
/-- two owned objects change places in the list -/
theorem In.swap {p q : Addr × (Obj → Prop)} (x : In b₀ s₀ W L m (p :: q :: led) s) : In b₀ s₀ W L m (q :: p :: led) s := by
  refine x.less (fun r hr => ?_) ?_
  · rcases List.mem_cons.mp hr with rfl | hr
    · exact .tail _ (.head _)
    · rcases List.mem_cons.mp hr with rfl | hr
      · exact .head _
      · exact .tail _ (.tail _ hr)
  · have := x.apart
    simp only [List.map_cons, List.nodup_cons, List.mem_cons, not_or] at this ⊢
    exact ⟨⟨fun e => this.1.1 e.symm, this.2.1⟩, this.1.2, this.2.2⟩
/-- what stood at s₀ still stands -/
theorem In.head {a : Addr} {P : Obj → Prop} (x : In b₀ s₀ W L m ((a, P) :: led) s) : ∃ o, s.heap.get? a = some o ∧ P o := x.own _ (.head _)
end

/-! ## what an object is -/
def isL (vs : List Value) (o : Obj) : Prop := o.cls = .type "list" ∧ ∃ n, o.data = .seq vs.toArray n
def isT (vs : List Value) (o : Obj) : Prop := o.cls = .type "tuple" ∧ ∃ n, o.data = .seq vs.toArray n
def isC (v : Value) (o : Obj) : Prop := o.data = .cell (some v)
/-! ## expressions that change nothing -/

def PEv (prog : Program) (w : World) (A : Around) (env : Env) (s : Shared) (e : PySem.Expr) (P : Value → Prop) : Prop :=
  ∀ (Q : Value → Shared → Prop) (E : Value → Shared → Prop) (tk : Nat), (∀ v tk', P v → Q v { s with toks := tk' }) → wpAny (model prog w) A (eval e env) Q E { s with toks := tk }
abbrev PInt (prog : Program) (w : World) (A : Around) (env : Env) (s : Shared) (e : PySem.Expr) (i : Int) : Prop := PEv prog w A env s e fun v => ∃ t, v = .int i t
abbrev PVal (prog : Program) (w : World) (A : Around) (env : Env) (s : Shared) (e : PySem.Expr) (x : Value) : Prop := PEv prog w A env s e fun v => v = x
abbrev PBool (prog : Program) (w : World) (A : Around) (env : Env) (s : Shared) (e : PySem.Expr) (b : Bool) : Prop := PEv prog w A env s e fun v => v = .bool b
def PTest (prog : Program) (w : World) (A : Around) (env : Env) (s : Shared) (e : PySem.Expr) (b : Bool) : Prop :=
  ∀ (Q : Bool → Shared → Prop) (E : Value → Shared → Prop) (tk : Nat), (∀ tk', Q b { s with toks := tk' }) → wpAny (model prog w) A (isTrue e env (eval e env)) Q E { s with toks := tk }

section
variable {prog : Program} {w : World} {A : Around} {env : Env} {s : Shared} {l r e : PySem.Expr} {pos : Pos} {a b i : Int} {x : Str} {v : Value} {m : Str → Option Value} {P P' : Value → Prop}

theorem PEv.use {Q : Value → Shared → Prop} {E : Value → Shared → Prop} (h : PEv prog w A env s e P) (hQ : ∀ v tk', P v → Q v { s with toks := tk' }) : wpAny (model prog w) A (eval e env) Q E s := h Q E s.toks hQ
theorem PTest.use {Q : Bool → Shared → Prop} {E : Value → Shared → Prop} {b : Bool} (h : PTest prog w A env s e b) (hQ : ∀ tk', Q b { s with toks := tk' }) : wpAny (model prog w) A (isTrue e env (eval e env)) Q E s := h Q E s.toks hQ
theorem PEv.mono (h : PEv prog w A env s e P) (hp : ∀ v, P v → P' v) : PEv prog w A env s e P' := fun Q E tk hQ => h Q E tk fun v tk' pv => hQ v tk' (hp v pv)
theorem PEv.local (hn : s.heap.Ns env.locals m) (hv : m x = some v) (hk : env.scope.kind = .function := by rfl) (hl : env.kindOf x = some .local := by rfl) (hd : (x == ("__debug__" : Str)) = false := by decide) :
    PVal prog w A env s (.Name x pos) v := fun _ _ _ hQ => wpAny_Name (wpAny_loadName_local hk hl hn hv (hQ _ _ rfl)) hd
theorem PEv.localI {t : Tok} (hn : s.heap.Ns env.locals m) (hv : m x = some (.int i t)) (hk : env.scope.kind = .function := by rfl) (hl : env.kindOf x = some .local := by rfl) (hd : (x == ("__debug__" : Str)) = false := by decide) :
    PInt prog w A env s (.Name x pos) i := (PEv.local hn hv hk hl hd).mono fun _ e => ⟨t, e⟩
theorem PEv.cell {c : Addr} (hc : env.cells.lookup x = some c) (hv : s.heap.IsCell c (some v)) (hk : env.scope.kind = .function := by rfl) (hl : env.kindOf x = some .cell := by rfl) (hd : (x == ("__debug__" : Str)) = false := by decide) :
    PVal prog w A env s (.Name x pos) v := fun _ _ _ hQ => wpAny_Name (wpAny_loadName_cell hk hl hc hv (hQ _ _ rfl)) hd
theorem PEv.cellI {c : Addr} {t : Tok} (hc : env.cells.lookup x = some c) (hv : s.heap.IsCell c (some (.int i t))) (hk : env.scope.kind = .function := by rfl) (hl : env.kindOf x = some .cell := by rfl) (hd : (x == ("__debug__" : Str)) = false := by decide) :
    PInt prog w A env s (.Name x pos) i := (PEv.cell hc hv hk hl hd).mono fun _ e => ⟨t, e⟩
theorem PEv.const {k : Nat} : PInt prog w A env s (.Constant (.int i) k pos) i := fun _ _ _ hQ => wpAny_Constant_int (hQ _ _ ⟨_, rfl⟩)

theorem PEv.bin {op : Operator} {c : Int} (hl : PInt prog w A env s l a) (hr : PInt prog w A env s r b)
    (h : ∀ (t u : Tok) (Q : Value → Shared → Prop) (E : Value → Shared → Prop) (s : Shared), Q (.int c s.toks) { s with toks := s.toks + 1 } → wpAny (model prog w) A (binaryOp op (.int a t) (.int b u)) Q E s) :
    PInt prog w A env s (.BinOp l op r pos) c := fun Q E tk hQ =>
  wpAny_BinOp (hl _ _ _ (by
    rintro _ tk1 ⟨t, rfl⟩
    refine hr _ _ _ ?_
    rintro _ tk2 ⟨u, rfl⟩
    exact h t u _ _ _ (hQ _ _ ⟨_, rfl⟩)))
theorem PEv.add (hl : PInt prog w A env s l a) (hr : PInt prog w A env s r b) : PInt prog w A env s (.BinOp l .Add r pos) (a + b) := .bin hl hr fun _ _ _ _ _ h => PyProof.Rows.add_int h
theorem PEv.sub (hl : PInt prog w A env s l a) (hr : PInt prog w A env s r b) : PInt prog w A env s (.BinOp l .Sub r pos) (a - b) := .bin hl hr fun _ _ _ _ _ h => SiftDown.sub_int h
theorem PEv.mul (hl : PInt prog w A env s l a) (hr : PInt prog w A env s r b) (h1 : -(2 ^ 64) < a) (h2 : a < 2 ^ 64) : PInt prog w A env s (.BinOp l .Mult r pos) (a * b) :=
  .bin hl hr fun _ _ _ _ _ h => PyProof.Rows.mul_int h (.of_left (intBits_le_64 h1 h2))
theorem PEv.fdiv (hl : PInt prog w A env s l a) (hr : PInt prog w A env s r b) (hb : b ≠ 0) (hb2 : b.natAbs < 1073741824) : PInt prog w A env s (.BinOp l .FloorDiv r pos) (a.fdiv b) :=
  .bin hl hr fun _ _ _ _ _ h => PyProof.Rows.floordiv_int hb h (Or.inl (PyProof.noPylong_small hb2))
theorem PEv.fmod (hl : PInt prog w A env s l a) (hr : PInt prog w A env s r b) (hb : b ≠ 0) : PInt prog w A env s (.BinOp l .Mod r pos) (a.fmod b) :=
  .bin hl hr fun _ _ _ _ _ h => PyProof.Rows.mod_int' hb h
theorem PEv.pow (hl : PInt prog w A env s l a) (hr : PInt prog w A env s r b) (ha : a.natAbs < 2 ^ 64) (h0 : 0 ≤ b) (h1 : b ≤ 1000000) : PInt prog w A env s (.BinOp l .Pow r pos) (a ^ b.toNat) :=
  .bin hl hr fun _ _ _ _ _ h => PyProof.Rows.pow_int_small h0 h1 ha h
theorem PEv.shr (hl : PInt prog w A env s l a) (hr : PInt prog w A env s r b) (h0 : 0 ≤ b) : PInt prog w A env s (.BinOp l .RShift r pos) (a.fdiv (2 ^ b.toNat)) :=
  .bin hl hr fun _ _ _ _ _ h => PyProof.Rows.rshift_int h0 h

theorem PTest.cmp {op : CmpOp} {c : Bool} (hl : PInt prog w A env s l a) (hr : PInt prog w A env s r b)
    (h : ∀ (t u : Tok) (Q : Value → Shared → Prop) (E : Value → Shared → Prop) (s : Shared), Q (.bool c) s → wpAny (model prog w) A (compareOp op (.int a t) (.int b u)) Q E s)
    (hm : behindInMarks op r = false := by with_unfolding_all rfl) :
    PTest prog w A env s (.Compare l [op] [r] pos) c := fun Q E tk hQ =>
  wpAny_isTrue_Compare1 (hl _ _ _ (by
    rintro _ tk1 ⟨t, rfl⟩
    refine hr _ _ _ ?_
    rintro _ tk2 ⟨u, rfl⟩
    exact h t u _ _ _ (wpAny_truthy_bool (hQ _)))) hm
theorem PTest.lt (hl : PInt prog w A env s l a) (hr : PInt prog w A env s r b) (hm : behindInMarks .Lt r = false := by with_unfolding_all rfl) : PTest prog w A env s (.Compare l [.Lt] [r] pos) (decide (a < b)) := .cmp hl hr (fun _ _ _ _ _ h => PyProof.Rows.lt_int h) hm
theorem PTest.gt (hl : PInt prog w A env s l a) (hr : PInt prog w A env s r b) (hm : behindInMarks .Gt r = false := by with_unfolding_all rfl) : PTest prog w A env s (.Compare l [.Gt] [r] pos) (decide (b < a)) := .cmp hl hr (fun _ _ _ _ _ h => PyProof.Rows.gt_int h) hm
theorem PTest.eq (hl : PInt prog w A env s l a) (hr : PInt prog w A env s r b) (hm : behindInMarks .Eq r = false := by with_unfolding_all rfl) : PTest prog w A env s (.Compare l [.Eq] [r] pos) (a == b) := .cmp hl hr (fun _ _ _ _ _ h => PyProof.Rows.eq_int h) hm
end
end Mine
end
section
open PySem PySem.W PyProof.Rows PySem.Calls
set_option maxRecDepth 100000
set_option maxHeartbeats 4000000
set_option linter.unusedVariables false
namespace Mine
section
variable {prog : Program} {w : World} {A : Around} {env : Env} {s : Shared} {value slice l r e : PySem.Expr} {pos : Pos} {a b i : Int} {x : Str} {v : Value} {m : Str → Option Value} {P P' : Value → Prop}

/-- an item of a list -/
theorem PEv.item {D : Addr} {vs : List Value} (hv : PVal prog w A env s value (.ref D)) (hi : PInt prog w A env s slice i) (hl : s.heap.IsList D vs.toArray) (h0 : 0 ≤ i) (hx : vs[i.toNat]? = some v) (hfit : i < 2 ^ 63)
    (hs : ∀ u, subscripted slice false (.ref D) (.int i u) = operate [.ref D, .int i u] (getItem (.ref D) (.int i u)) := by intro _; with_unfolding_all rfl) (hg : ∀ r, letTemporaryGo value (.ref D) r = pure () := by intro _; with_unfolding_all rfl) :
    PVal prog w A env s (.Subscript value slice pos) v := fun Q E tk hQ => by
  refine PyProof.Rows.Subscript_ (hv _ _ _ ?_)
  rintro _ tk1 rfl
  refine hi _ _ _ ?_
  rintro _ tk2 ⟨u, rfl⟩
  exact PyProof.Rows.item_listL (s := { s with toks := tk2 }) hl h0 hfit hx (hQ _ _ rfl) (hs u) hg

theorem PTest.not {c : Bool} (h : PTest prog w A env s e c) : PTest prog w A env s (.UnaryOp .Not e pos) (!c) := fun Q E tk hQ => wpAny_isTrue_Not (h _ _ _ fun tk' => hQ tk')
theorem PTest.and {c d : Bool} {e₂ : PySem.Expr} (h : PTest prog w A env s e c) (h₂ : c = true → PTest prog w A env s e₂ d) : PTest prog w A env s (.BoolOp .And [e, e₂] pos) (c && d) := fun Q E tk hQ => by
  refine PyProof.Rows.isTrue_and (h _ _ _ fun tk' => ?_)
  cases c with
  | false => simpa using hQ tk'
  | true =>
    simp only [if_true, Bool.true_and] at hQ ⊢
    refine PyProof.Rows.isTrue_and (h₂ rfl _ _ _ fun tk' => ?_)
    cases d with
    | false => simpa using hQ tk'
    | true => simp only [if_true]; exact PyProof.Rows.isTrue_and_nil (hQ _)
end

/-! ## pairs of ints -/
def isPair (g p : Int) (o : Obj) : Prop := ∃ t u n, o = { cls := .type "tuple", data := .seq #[.int g t, .int p u] n }
/-- v is a pair of ints in h -/
def PairAt (h : Heap) (v : Value) (q : Int × Int) : Prop := ∃ a o, v = .ref a ∧ h.get? a = some o ∧ isPair q.1 q.2 o
theorem PairAt.keeps {h h' : Heap} {v : Value} {q : Int × Int} (x : PairAt h v q) (k : ∀ b o, h.get? b = some o → isPair q.1 q.2 o → h'.get? b = some o) : PairAt h' v q := by
  obtain ⟨a, o, e, ho, hp⟩ := x
  exact ⟨a, o, e, k a o ho hp, hp⟩
def pairLt (a b : Int × Int) : Bool := if a.1 = b.1 then decide (a.2 < b.2) else decide (a.1 < b.1)

section
variable {prog : Program} {w : World} {A : Around} {E : Value → Shared → Prop} {s : Shared}

theorem pair_lt_tree {x y : Value} {p q : Int × Int} {Pf : Fin → Shared → Prop} (hx : PairAt s.heap x p) (hy : PairAt s.heap y q) (h : Pf (.done (.ret (.bool (pairLt p q)))) s) :
    wpAny (model prog w) A (Builtin.«tuple.__lt__» ⟨[x, y], []⟩) Pf E s := by
  obtain ⟨a, oa, rfl, hoa, t1, u1, n1, rfl⟩ := hx
  obtain ⟨b, ob, rfl, hob, t2, u2, n2, rfl⟩ := hy
  show wpAny _ _ (isInstance (.ref b) (.type "tuple") >>= _) _ _ s
  refine wpAny_bind (wpAny_isInstance (T := "tuple") ⟨_, hob, rfl⟩ isSubtype_tuple_tuple ?_)
  simp only [Bool.not_true, Bool.false_eq_true, if_false]
  refine wpAny_bind (wpAny_tupleItemsOf hoa rfl ?_)
  refine wpAny_bind (wpAny_tupleItemsOf hob rfl ?_)
  refine wpAny_bind ?_
  simp only [List.zip_cons_cons, List.zip_nil_left, List.forIn_cons, List.forIn_nil]
  refine wpAny_bind (wpAny_bind (wpAny_eqBool_int ?_))
  by_cases h1 : p.1 = q.1
  · have e1 : (p.1 == q.1) = true := by simp [h1]
    rw [e1]
    simp only [Bool.not_true, Bool.false_eq_true, if_false]
    refine wpAny_pure (wpAny_bind (wpAny_bind (wpAny_eqBool_int ?_)))
    by_cases h2 : p.2 = q.2
    · have e2 : (p.2 == q.2) = true := by simp [h2]
      rw [e2]
      simp only [Bool.not_true, Bool.false_eq_true, if_false]
      refine wpAny_pure (wpAny_pure ?_)
      have : pairLt p q = false := by simp [pairLt, h1, h2]
      rw [this] at h
      exact wpAny_pure h
    · have e2 : (p.2 == q.2) = false := by simp [h2]
      rw [e2]
      simp only [Bool.not_false, if_true]
      have : pairLt p q = decide (p.2 < q.2) := by simp [pairLt, h1]
      rw [this] at h
      exact wpAny_bind (wpAny_rule (wpAny_bind (PyProof.Rows.lt_int (wpAny_pure (wpAny_pure (wpAny_pure h))))))
  · have e1 : (p.1 == q.1) = false := by simp [h1]
    rw [e1]
    simp only [Bool.not_false, if_true]
    have : pairLt p q = decide (p.1 < q.1) := by simp [pairLt, h1]
    rw [this] at h
    exact wpAny_bind (wpAny_rule (wpAny_bind (PyProof.Rows.lt_int (wpAny_pure (wpAny_pure (wpAny_pure h))))))
theorem PairAt.typeIs {x : Value} {p : Int × Int} (hx : PairAt s.heap x p) : s.TypeIs x "tuple" := by
  obtain ⟨a, oa, rfl, hoa, t1, u1, n1, rfl⟩ := hx
  exact ⟨_, hoa, rfl⟩
theorem pair_lt {x y : Value} {p q : Int × Int} {Q : Value → Shared → Prop} (hu : A.units < cLine) (hx : PairAt s.heap x p) (hy : PairAt s.heap y q) (h : Q (.bool (pairLt p q)) s) :
    wpAny (model prog w) A (compareOp .Lt x y) Q E s := by
  show wpAny _ _ (richCompare .Lt x y) Q E s
  exact wpAny_richCompare_same_or (op := .Lt) (T := "tuple") hx.typeIs hy.typeIs F.slot_tuple_lt
      (wpAny_call_entry F.slot_tuple_lt hx.typeIs F.entry_tuple_lt (pair_lt_tree hx hy ⟨_, rfl, (fun e => nomatch e), h⟩) (F.args_tuple_lt_2 _ _)) (.inr hu)

variable {env : Env} {l r : PySem.Expr} {pos : Pos}
theorem PTest.pairLt {x y : Value} {p q : Int × Int} (hu : A.units < cLine) (hl : PVal prog w A env s l x) (hr : PVal prog w A env s r y) (hx : PairAt s.heap x p) (hy : PairAt s.heap y q) (hm : behindInMarks .Lt r = false := by with_unfolding_all rfl) :
    PTest prog w A env s (.Compare l [.Lt] [r] pos) (Mine.pairLt p q) := fun Q E tk hQ =>
  wpAny_isTrue_Compare1 (hl _ _ _ (by
    rintro _ tk1 rfl
    refine hr _ _ _ ?_
    rintro _ tk2 rfl
    exact pair_lt (s := { s with toks := tk2 }) hu hx hy (wpAny_truthy_bool (hQ _)))) hm
end

/-! ## the room of a call -/
structure Rm (k : Nat) (A : Around) : Prop where
  depth : A.depth + k < recursionLimit
  units : A.units + 8 * k + 8 < cLine
  handled : A.handled = none
theorem Rm.deeper {k : Nat} {A : Around} (R : Rm (k + 1) A) (env : Env) : Rm k (A.deeper env) := by
  obtain ⟨h1, h2, h3⟩ := R
  refine ⟨?_, ?_, h3⟩
  · show A.depth + 1 + k < recursionLimit; omega
  · show A.units + 3 + 8 * k + 8 < cLine; omega
theorem Rm.less {k j : Nat} {A : Around} (R : Rm k A) (h : j ≤ k) : Rm j A := ⟨by have := R.depth; omega, by have := R.units; omega, R.handled⟩
theorem Rm.room {k : Nat} {A : Around} (R : Rm k A) : A.depth < recursionLimit := by have := R.depth; omega
theorem Rm.cunits {k : Nat} {A : Around} (R : Rm k A) : A.units < cLine := by have := R.units; omega

/-! ## statements -/
section
variable {prog : Program} {w : World} {A : Around} {E : Value → Shared → Prop} {s : Shared} {env : Env} {b₀ : Heap} {s₀ : Shared} {W : List Addr} {m : Str → Option Value} {led : Ledger} {x : Str} {v : Value} {P : Value → Prop}

theorem In.store {Q : Unit → Shared → Prop} (I : In b₀ s₀ W env.locals m led s) (h : ∀ s', In b₀ s₀ W env.locals (fun y => if y = x then some v else m y) led s' → Q () s')
    (hk : env.scope.kind = .function := by rfl) (hl : env.kindOf x = some .local := by rfl) : wpAny (model prog w) A (storeName env x v) Q E s :=
  wpAny_storeName_local hl I.ns (fun h' hn hs => h _ (I.set hn hs)) (by rw [hk]; rfl)
theorem In.assign {Q : Flow → Shared → Prop} {value : PySem.Expr} {pos' pos : Pos} (I : In b₀ s₀ W env.locals m led s) (hv : PEv prog w A env s value P)
    (h : ∀ v s', P v → In b₀ s₀ W env.locals (fun y => if y = x then some v else m y) led s' → Q .next s')
    (hk : env.scope.kind = .function := by rfl) (hl : env.kindOf x = some .local := by rfl) (hs : swapsWith value (some (.Name x pos')) pos.line env = pure false := by rfl) :
    wpAny (model prog w) A (exec (.Assign [.Name x pos'] value pos) env) Q E s :=
  wpAny_Assign_Name (hv.use fun v tk' pv => (I.tok tk').store (fun s' I' => h v s' pv I') hk hl) hs
end
abbrev aL (vs : List Value) : Obj → Prop := fun o => ∃ n, o = listOf vs.toArray n
section
variable {prog : Program} {w : World} {A : Around} {E : Value → Shared → Prop} {s : Shared} {env : Env} {b₀ : Heap} {s₀ : Shared} {W : List Addr} {m : Str → Option Value} {led : Ledger} {x : Str} {v : Value} {P : Value → Prop} {L D : Addr} {vs : List Value}
theorem In.isList (I : In b₀ s₀ W L m ((D, aL vs) :: led) s) : s.heap.IsList D vs.toArray := by
  obtain ⟨o, ho, n, rfl⟩ := I.head
  exact ⟨_, ho, rfl, n, rfl⟩
theorem In.setItem {i : Int} {t : Tok} {Q : Unit → Shared → Prop} (I : In b₀ s₀ W L m ((D, aL vs) :: led) s) (hW : D ∈ W ∨ s₀.heap.get? D = none) (h0 : 0 ≤ i) (h1 : i < vs.length) (hfit : i < 2 ^ 63)
    (h : ∀ s', In b₀ s₀ W L m ((D, aL (vs.set i.toNat v)) :: led) s' → Q () s') : wpAny (model prog w) A (PySem.setItem (.ref D) (.int i t) v) Q E s := by
  obtain ⟨o, ho, n, rfl⟩ := I.head
  refine ki_setAt ho h0 hfit (by simpa using h1) (h _ (I.change hW (Heap.SameBut.update ..) ⟨_, Heap.get?_update_self _ ho rfl, n, ?_⟩))
  simp [Obj.mapSeq, PySem.W.listOf]
theorem In.assignItem {Q : Flow → Shared → Prop} {value o idx : PySem.Expr} {pos' pos : Pos} {i : Int} (I : In b₀ s₀ W L m ((D, aL vs) :: led) s) (hv : PVal prog w A env s value v) (ho : PVal prog w A env s o (.ref D)) (hi : PInt prog w A env s idx i)
    (hW : D ∈ W ∨ s₀.heap.get? D = none) (h0 : 0 ≤ i) (h1 : i < vs.length) (hfit : i < 2 ^ 63)
    (h : ∀ s', In b₀ s₀ W L m ((D, aL (vs.set i.toNat v)) :: led) s' → Q .next s') (hs : swapsWith value (some (.Subscript o idx pos')) pos.line env = pure false := by rfl) :
    wpAny (model prog w) A (exec (.Assign [.Subscript o idx pos'] value pos) env) Q E s := by
  refine wpAny_Assign_Subscript (hv.use ?_) hs
  rintro _ tk1 rfl
  refine ho _ _ _ ?_
  rintro _ tk2 rfl
  refine hi _ _ _ ?_
  rintro _ tk3 ⟨t, rfl⟩
  exact (I.tok tk3).setItem hW h0 h1 hfit h
end

/-! ## the text's defs -/
section
variable {prog : Program} {w : World} {A : Around} {E : Value → Shared → Prop} {s : Shared} {b₀ : Heap}

theorem call_fn {f : Addr} {o : Obj} {fd : FuncData} {body : List Stmt} {args : List Value} {binds : List (Str × Value)} {Q : Value → Shared → Prop}
    (hroom : A.depth < recursionLimit) (hb : ∀ b o, b₀.get? b = some o → s.heap.get? b = some o) (ho : b₀.get? f = some o) (hdata : o.data = .func fd) (hlim : b₀.NoLimit) (hcd : b₀.CodeRec fd.code fd.qualname)
    (hbody : fd.body = .stmts body) (hbind : bindArgs fd ⟨args, []⟩ = pure binds) (hcell : ∀ x ∈ fd.scope.names, x.2 ≠ .cell) (hloc : ∀ x ∈ binds, fd.scope.names.lookup x.1 = some .local)
    (h : ∀ E' s₁, In b₀ s [] s.heap.objs.size (fun x => binds.reverse.lookup x) [] s₁ → wpAny (model prog w) (A.deeper (callEnv fd s.heap.objs.size f)) (execs body (callEnv fd s.heap.objs.size f)) (fun fl s' => Q (match fl with | .ret v => v | _ => .none) s') E' s₁)
    (hco : fd.scope.isCoroutine = false := by rfl) (hgen : fd.scope.isGenerator = false := by rfl) (hk : fd.scope.kind = .function := by rfl) :
    wpAny (model prog w) A (call (.ref f) args) Q E s := by
  refine wpAny_call (codeAny_call_def hroom (hb _ _ ho) hdata (hlim.keeps hb) (hcd.keeps hb) hbody (.of_eq hbind) hcell hloc (fun h₁ hns hk₁ => ?_) hco hgen hk)
  refine h _ _ ⟨⟨_, _, rfl⟩, fun b o _ _ e => hk₁ b o e, fun b o e => hk₁ b o (hb b o e), fun b o e => ⟨o, hk₁ b o e⟩, hns, (fun _ h => nomatch h), (fun _ h => nomatch h), List.nodup_nil, ?_⟩
  cases q : b₀.get? s.heap.objs.size with
  | none => rfl
  | some o' => exact absurd (Heap.lt_size (hb _ _ q)) (Nat.lt_irrefl _)
end
end Mine
end
section
open PySem PySem.W PyProof.Rows PySem.Calls
set_option maxRecDepth 100000
set_option maxHeartbeats 4000000
set_option linter.unusedVariables false
namespace Mine
abbrev PG : Program := PySem.Challenge.rw_nq0044_01.row.prog
/-- what the base heap is -/
structure Bs (w : World) (b₀ : Heap) : Prop where
  X : (hd.heap_39 w.params).In b₀
  T : ∃ loose mean mg mb, Top hd.view_39 loose mean mg mb b₀

noncomputable def dataAt (P : Params) (f : Addr) : FuncData := match (hd.heap_39 P).lookup f with
  | some ⟨_, _, .func fd, _⟩ => fd
  | _ => default
noncomputable def bodyAt (P : Params) (f : Addr) : List Stmt := match (dataAt P f).body with
  | .stmts b => b
  | _ => []
noncomputable def isFnAt (K : Frag) (f : Addr) : Bool := match K.lookup f with
  | some ⟨_, _, .func fd, _⟩ => (match fd.body with | .stmts _ => true | _ => false) && codeIn K fd.code fd.qualname
  | _ => false
theorem isFnAt_out {P : Params} {b₀ : Heap} (X : (hd.heap_39 P).In b₀) {f : Addr} (h : isFnAt (hd.heap_39 P) f = true) :
    ∃ o, b₀.get? f = some o ∧ o.data = .func (dataAt P f) ∧ (dataAt P f).body = .stmts (bodyAt P f) ∧ b₀.CodeRec (dataAt P f).code (dataAt P f).qualname := by
  unfold isFnAt at h
  unfold bodyAt dataAt
  split at h
  · rename_i c d fd sl e
    refine ⟨_, X _ _ e, rfl, ?_, codeRec_of X (Bool.and_eq_true_iff.mp h).2⟩
    have := (Bool.and_eq_true_iff.mp h).1
    split at this
    · rename_i q; rw [q]
    · cases this
  · cases h

theorem call_at {w : World} {A : Around} {E : Value → Shared → Prop} {s : Shared} {b₀ : Heap} {f : Addr} {args : List Value} {binds : List (Str × Value)} {Q : Value → Shared → Prop} (hB : Bs w b₀) {k : Nat} (R : Rm k A)
    (hb : ∀ b o, b₀.get? b = some o → s.heap.get? b = some o) (hf : isFnAt (hd.heap_39 w.params) f = true) (hbind : bindArgs (dataAt w.params f) ⟨args, []⟩ = pure binds)
    (hcell : ((dataAt w.params f).scope.names.all fun x => x.2 != .cell) = true) (hloc : (binds.all fun x => (dataAt w.params f).scope.names.lookup x.1 == some .local) = true)
    (h : ∀ E' s₁, In b₀ s [] s.heap.objs.size (fun x => binds.reverse.lookup x) [] s₁ → wpAny (model PG w) (A.deeper (callEnv (dataAt w.params f) s.heap.objs.size f)) (execs (bodyAt w.params f) (callEnv (dataAt w.params f) s.heap.objs.size f)) (fun fl s' => Q (match fl with | .ret v => v | _ => .none) s') E' s₁)
    (hco : (dataAt w.params f).scope.isCoroutine = false) (hgen : (dataAt w.params f).scope.isGenerator = false) (hk : (dataAt w.params f).scope.kind = .function) :
    wpAny (model PG w) A (call (.ref f) args) Q E s := by
  obtain ⟨o, ho, hd', hbody, hcd⟩ := isFnAt_out hB.X hf
  obtain ⟨_, _, _, _, T⟩ := hB.T
  refine call_fn R.room hb ho hd' T.nolimit hcd hbody hbind (fun x hx => ?_) (fun x hx => ?_) h hco hgen hk
  · have := List.all_eq_true.mp hcell x hx
    simpa using this
  · have := List.all_eq_true.mp hloc x hx
    simpa using this

/-- an object that stood at the start is taken over -/
theorem In.take {b₀ : Heap} {s₀ s : Shared} {W : List Addr} {L : Addr} {m : Str → Option Value} {led : Ledger} {l : Addr} {P : Obj → Prop} (I : In b₀ s₀ W L m led s) (hl : ∃ o, s₀.heap.get? l = some o ∧ P o) (hW : l ∉ W) (hL : l ≠ L) (h0 : b₀.get? l = none)
    (hf : l ∉ led.map (·.1)) : In b₀ s₀ (l :: W) L m ((l, P) :: led) s := by
  obtain ⟨o, ho, hP⟩ := hl
  refine ⟨I.same, fun b o hb hL e => I.keep b o (fun h => hb (.tail _ h)) hL e, I.base, I.live, I.ns, ?_, ?_, List.nodup_cons.mpr ⟨hf, I.apart⟩, I.newL⟩
  · intro p hp
    rcases List.mem_cons.mp hp with rfl | hp
    · exact ⟨o, I.keep l o hW hL ho, hP⟩
    · exact I.own p hp
  · intro p hp
    rcases List.mem_cons.mp hp with rfl | hp
    · exact ⟨h0, hL⟩
    · exact I.new p hp

/-- a while -/
theorem while_in {w : World} {prog : Program} {A : Around} {E : Value → Shared → Prop} {s : Shared} {env : Env} {test : PySem.Expr} {body : List Stmt} {pos : Pos} {Q : Flow → Shared → Prop} (J : Nat → Shared → Prop) (n : Nat) (h0 : J n s)
    (turn : ∀ n s E', J n s → wpAny (model prog w) A (isTrue test env (eval test env)) (fun b s₂ => if b = true then wpAny (model prog w) A (execs body env) (fun f s₃ => match f with
        | .next | .cont => ∃ k, k < n ∧ J k s₃
        | .brk => Q .next s₃
        | .ret v => Q (.ret v) s₃) E' s₂ else Q .next s₂) E' s) :
    wpAny (model prog w) A (exec (.While test body [] pos) env) Q E s := by
  refine wpAny_While (codeAny_whileLoop J (fun n s hJ => ?_) n h0)
  refine wpAny_mono (turn n s _ hJ) (fun b s₂ h₂ => ?_) fun _ _ x => x
  cases b with
  | false => simp only [Bool.false_eq_true, if_false] at h₂ ⊢; exact wpAny_execs_nil h₂
  | true =>
    simp only [if_true] at h₂ ⊢
    exact wpAny_mono h₂ (fun f s₃ h₃ => by cases f <;> exact h₃) fun _ _ x => x

/-! ## the sift, plain -/
def sdF {β : Type} (lt : β → β → Bool) (new : β) (sp : Nat) : Nat → List β → Nat → List β
  | 0, z, pos => z.set pos new
  | n + 1, z, pos => if sp < pos then match z[(pos - 1) / 2]? with
      | some par => if lt new par then sdF lt new sp n (z.set pos par) ((pos - 1) / 2) else z.set pos new
      | none => z.set pos new
    else z.set pos new

theorem sdF_fuel {β : Type} (lt : β → β → Bool) (new : β) (sp : Nat) : ∀ (n m : Nat) (z : List β) (pos : Nat), pos ≤ n → pos ≤ m → sdF lt new sp n z pos = sdF lt new sp m z pos
  | 0, 0, _, _, _, _ => rfl
  | 0, m + 1, z, pos, h1, h2 => by
    have : pos = 0 := by omega
    subst this
    simp [sdF]
  | n + 1, 0, z, pos, h1, h2 => by
    have : pos = 0 := by omega
    subst this
    simp [sdF]
  | n + 1, m + 1, z, pos, h1, h2 => by
    unfold sdF
    by_cases hp : sp < pos
    · simp only [hp, if_true]
      cases z[(pos - 1) / 2]? with
      | none => rfl
      | some par =>
        dsimp only
        rw [sdF_fuel lt new sp n m _ _ (by omega) (by omega)]
    · simp only [hp, if_false]

/-- the values and what they are -/
abbrev Zs := List (Value × (Int × Int))
abbrev vals (z : Zs) : List Value := z.map Prod.fst
abbrev ltZ (a b : Value × (Int × Int)) : Bool := pairLt a.2 b.2
abbrev gtZ (a b : Value × (Int × Int)) : Bool := pairLt b.2 a.2
def AllPairs (h : Heap) (z : Zs) : Prop := ∀ q ∈ z, PairAt h q.1 q.2
theorem mem_set {β : Type} {z : List β} {i : Nat} {x q : β} (h : q ∈ z.set i x) : q ∈ z ∨ q = x := List.mem_or_eq_of_mem_set h


theorem PairAt.ne {h : Heap} {v : Value} {q : Int × Int} {a : Addr} {vs : List Value} (x : PairAt h v q) (hl : ∃ o, h.get? a = some o ∧ aL vs o) : v ≠ .ref a := by
  rintro rfl
  obtain ⟨b, o, e, ho, t, u, n, rfl⟩ := x
  obtain ⟨o', ho', n', rfl⟩ := hl
  cases e
  rw [ho] at ho'
  exact absurd (congrArg Obj.cls (Option.some.inj ho')) (show Value.type "tuple" ≠ Value.type "list" by decide)
/-- the pairs stand whatever is done to the list -/
theorem AllPairs.stay {b₀ : Heap} {s₀ s : Shared} {L l : Addr} {m : Str → Option Value} {led : Ledger} {z : Zs} {vs : List Value} (hz : AllPairs s₀.heap z) (hl : ∃ o, s₀.heap.get? l = some o ∧ aL vs o) (hL : s₀.heap.get? L = none) (I : In b₀ s₀ [l] L m led s) : AllPairs s.heap z := by
  intro q hq
  have := (hz q hq).ne hl
  refine (hz q hq).keeps fun b o hb hp => ?_
  refine I.keep b o (fun hm => ?_) (by rintro rfl; rw [hL] at hb; cases hb) hb
  cases List.mem_singleton.mp hm
  obtain ⟨o', ho', n, rfl⟩ := hl
  obtain ⟨t, u, n', rfl⟩ := hp
  rw [hb] at ho'
  exact absurd (congrArg Obj.cls (Option.some.inj ho')) (show Value.type "tuple" ≠ Value.type "list" by decide)

theorem siftdown_ok {w : World} {A : Around} {E : Value → Shared → Prop} {s : Shared} {b₀ : Heap} (hB : Bs w b₀) (R : Rm 1 A) (hb : ∀ b o, b₀.get? b = some o → s.heap.get? b = some o) {l : Addr} {z : Zs} {sp pos : Nat} {t1 t2 : Tok} {new : Value × (Int × Int)}
    (hl0 : b₀.get? l = none) (hl : ∃ o, s.heap.get? l = some o ∧ aL (vals z) o) (hz : AllPairs s.heap z) (hlen : z.length < 1000) (hp : z[pos]? = some new) (hsp : sp ≤ pos) :
    wpAny (model PG w) A (call (.ref 49) [.ref l, .int sp t1, .int pos t2]) (fun v s' => v = .none ∧ Ext b₀ [l] s s' ∧ ∃ o, s'.heap.get? l = some o ∧ aL (vals (sdF ltZ new sp pos z pos)) o) E s := by
  refine call_at hB R hb rfl rfl rfl rfl (fun E' s₁ I => ?_) rfl rfl rfl
  have R' : Rm 0 (A.deeper (callEnv (dataAt w.params 49) s.heap.objs.size 49)) := R.deeper _
  have hLn : s.heap.get? s.heap.objs.size = none := none_of_size (Nat.le_refl _)
  have hlL : l ≠ s.heap.objs.size := by rintro rfl; obtain ⟨o, ho, _⟩ := hl; rw [hLn] at ho; cases ho
  have I₁ := I.take hl (by simp) hlL hl0 (by simp)
  have hpl : pos < z.length := (List.getElem?_eq_some_iff.mp hp).1
  refine wpAny_execs_cons (I₁.assign (P := fun v => v = new.1) (PEv.item (D := l) (vs := vals z) (i := (pos : Int)) (.local I₁.ns rfl) (.localI I₁.ns rfl) I₁.isList (by omega) (by simp [hp]) (by omega)) ?_)
  rintro _ s₂ rfl I₂
  dsimp only
  refine wpAny_execs_cons ?_
  have fin : ∀ (z' : Zs) (n : Nat) (m : Str → Option Value) (t : Tok) (s' : Shared), z'.length = z.length → n < z.length → In b₀ s [l] s.heap.objs.size m [(l, aL (vals z'))] s' → m "heap" = some (.ref l) → m "pos" = some (.int n t) → m "newitem" = some new.1 →
      z'.set n new = sdF ltZ new sp pos z pos → wpAny (model PG w) (A.deeper (callEnv (dataAt w.params 49) s.heap.objs.size 49)) (execs ((bodyAt w.params 49).drop 2) (callEnv (dataAt w.params 49) s.heap.objs.size 49))
        (fun fl s' => (match fl with | .ret v => v | _ => .none) = .none ∧ Ext b₀ [l] s s' ∧ ∃ o, s'.heap.get? l = some o ∧ aL (vals (sdF ltZ new sp pos z pos)) o) E' s' := by
    intro z' n m t s' hl' hn J e1 e3 e4 hR
    refine wpAny_execs_cons (J.assignItem (v := new.1) (i := (n : Int)) (.local J.ns e4) (.local J.ns e1) (.localI J.ns e3) (.inl (by simp)) (by omega) (by simp; omega) (by omega) ?_)
    intro s₅ J₅
    dsimp only
    refine wpAny_execs_nil ⟨rfl, J₅.exit hLn, ?_⟩
    have e : vals (sdF ltZ new sp pos z pos) = (vals z').set (n : Int).toNat new.1 := by rw [← hR]; simp [vals, List.map_set]
    rw [e]; exact J₅.head
  refine while_in (fun n s' => ∃ (z' : Zs) (m : Str → Option Value) (t : Tok), In b₀ s [l] s.heap.objs.size m [(l, aL (vals z'))] s' ∧ m "heap" = some (.ref l) ∧ m "startpos" = some (.int sp t1) ∧ m "pos" = some (.int n t) ∧ m "newitem" = some new.1 ∧
    (∀ q ∈ z', q ∈ z) ∧ z'.length = z.length ∧ n < z.length ∧ sdF ltZ new sp n z' n = sdF ltZ new sp pos z pos) pos ⟨z, _, t2, I₂, rfl, rfl, rfl, rfl, fun _ h => h, rfl, hpl, rfl⟩ ?_
  · rintro n s' E'' ⟨z', m, t, J, e1, e2, e3, e4, hsub, hl', hn, hR⟩
    have hz' : AllPairs s'.heap z := hz.stay hl hLn J
    refine (PTest.gt (.localI J.ns e3) (.localI J.ns e2)).use fun tk => ?_
    by_cases hlt : (sp : Int) < (n : Int)
    · rw [decide_eq_true hlt]
      simp only [if_true]
      have J₁ := J.tok tk
      obtain ⟨k, rfl⟩ : ∃ k, n = k + 1 := ⟨n - 1, by omega⟩
      have hk2 : k / 2 < z'.length := by omega
      obtain ⟨par, hpar⟩ : ∃ par, z'[k / 2]? = some par := ⟨z'[k / 2], by simp [hk2]⟩
      have hdiv : Int.fdiv (((k + 1 : Nat) : Int) - 1) (2 ^ (1 : Int).toNat) = ((k / 2 : Nat) : Int) := by
        have : (((k + 1 : Nat) : Int) - 1) = (k : Int) := by omega
        rw [this]
        show Int.fdiv (k : Int) 2 = _
        rw [Int.fdiv_eq_ediv_of_nonneg _ (by decide)]
        omega
      refine wpAny_execs_cons (J₁.assign (PEv.shr (.sub (.localI J₁.ns e3) .const) .const (by decide)) ?_)
      rintro _ s₃ ⟨tp, rfl⟩ J₂
      rw [hdiv] at J₂
      have hx : (vals z')[((k / 2 : Nat) : Int).toNat]? = some par.1 := by rw [Int.toNat_natCast]; simp [vals, hpar]
      dsimp only
      refine wpAny_execs_cons (J₂.assign (P := fun v => v = par.1) (PEv.item (D := l) (vs := vals z') (i := ((k / 2 : Nat) : Int)) (.local J₂.ns e1) (.localI J₂.ns rfl) J₂.isList (by omega) hx (by omega)) ?_)
      rintro _ s₄ rfl J₃
      dsimp only
      have hz₄ : AllPairs s₄.heap z := hz.stay hl hLn J₃
      have hnew : new ∈ z := List.mem_of_getElem? hp
      have hparm : par ∈ z := hsub _ (List.mem_of_getElem? hpar)
      refine wpAny_execs_cons (wpAny_If ?_)
      refine (PTest.pairLt R'.cunits (.local (x := "newitem") (v := new.1) J₃.ns e4) (.local (x := "parent") (v := par.1) J₃.ns rfl) (hz₄ _ hnew) (hz₄ _ hparm)).use fun tk' => ?_
      have J₄ := J₃.tok tk'
      have hR' : (if ltZ new par = true then sdF ltZ new sp k (z'.set (k + 1) par) (k / 2) else z'.set (k + 1) new) = sdF ltZ new sp pos z pos := by
        rw [← hR]
        have hsp' : sp < k + 1 := by omega
        simp [sdF, hsp', hpar]
      by_cases hc : pairLt new.2 par.2 = true
      · rw [hc]
        simp only [if_true]
        rw [if_pos hc] at hR'
        refine wpAny_execs_cons (J₄.assignItem (v := par.1) (i := ((k + 1 : Nat) : Int)) (.local J₄.ns rfl) (.local J₄.ns e1) (.localI J₄.ns e3) (.inl (by simp)) (by omega) (by simp; omega) (by omega) ?_)
        intro s₅ J₅
        dsimp only
        refine wpAny_execs_cons (J₅.assign (P := fun v => v = .int ((k / 2 : Nat) : Int) tp) (.local J₅.ns rfl) ?_)
        rintro _ s₆ rfl J₆
        dsimp only
        refine wpAny_execs_cons (SiftDown.continue_ ?_)
        have e : (vals z').set ((k + 1 : Nat) : Int).toNat par.1 = vals (z'.set (k + 1) par) := by rw [Int.toNat_natCast]; simp [vals, List.map_set]
        rw [e] at J₆
        refine ⟨k / 2, by omega, z'.set (k + 1) par, _, tp, J₆, e1, e2, rfl, e4, ?_, by simp [hl'], by omega, ?_⟩
        · intro q hq
          rcases mem_set hq with h | h
          · exact hsub _ h
          · rw [h]; exact hparm
        · rw [← hR']; exact sdF_fuel _ _ _ _ _ _ _ (Nat.le_refl _) (by omega)
      · have hc' : pairLt new.2 par.2 = false := by simpa using hc
        rw [hc']
        simp only [Bool.false_eq_true, if_false]
        rw [if_neg hc] at hR'
        refine wpAny_execs_nil ?_
        dsimp only
        refine wpAny_execs_cons (SiftDown.break_ ?_)
        dsimp only
        exact fin z' _ _ _ _ hl' hn J₄ e1 e3 e4 hR'
    · rw [decide_eq_false hlt]
      simp only [Bool.false_eq_true, if_false]
      refine fin z' _ _ _ _ hl' hn (J.tok tk) e1 e3 e4 ?_
      rw [← hR]
      have hsp' : ¬ sp < n := by omega
      cases n <;> simp [sdF, hsp']
end Mine
end
section
open PySem PySem.W PyProof.Rows PySem.Calls
set_option maxRecDepth 100000
set_option maxHeartbeats 4000000
set_option linter.unusedVariables false
namespace Mine
theorem siftdownM_ok {w : World} {A : Around} {E : Value → Shared → Prop} {s : Shared} {b₀ : Heap} (hB : Bs w b₀) (R : Rm 1 A) (hb : ∀ b o, b₀.get? b = some o → s.heap.get? b = some o) {l : Addr} {z : Zs} {sp pos : Nat} {t1 t2 : Tok} {new : Value × (Int × Int)}
    (hl0 : b₀.get? l = none) (hl : ∃ o, s.heap.get? l = some o ∧ aL (vals z) o) (hz : AllPairs s.heap z) (hlen : z.length < 1000) (hp : z[pos]? = some new) (hsp : sp ≤ pos) :
    wpAny (model PG w) A (call (.ref 63) [.ref l, .int sp t1, .int pos t2]) (fun v s' => v = .none ∧ Ext b₀ [l] s s' ∧ ∃ o, s'.heap.get? l = some o ∧ aL (vals (sdF gtZ new sp pos z pos)) o) E s := by
  refine call_at hB R hb rfl rfl rfl rfl (fun E' s₁ I => ?_) rfl rfl rfl
  have R' : Rm 0 (A.deeper (callEnv (dataAt w.params 63) s.heap.objs.size 63)) := R.deeper _
  have hLn : s.heap.get? s.heap.objs.size = none := none_of_size (Nat.le_refl _)
  have hlL : l ≠ s.heap.objs.size := by rintro rfl; obtain ⟨o, ho, _⟩ := hl; rw [hLn] at ho; cases ho
  have I₁ := I.take hl (by simp) hlL hl0 (by simp)
  have hpl : pos < z.length := (List.getElem?_eq_some_iff.mp hp).1
  refine wpAny_execs_cons (I₁.assign (P := fun v => v = new.1) (PEv.item (D := l) (vs := vals z) (i := (pos : Int)) (.local I₁.ns rfl) (.localI I₁.ns rfl) I₁.isList (by omega) (by simp [hp]) (by omega)) ?_)
  rintro _ s₂ rfl I₂
  dsimp only
  refine wpAny_execs_cons ?_
  have fin : ∀ (z' : Zs) (n : Nat) (m : Str → Option Value) (t : Tok) (s' : Shared), z'.length = z.length → n < z.length → In b₀ s [l] s.heap.objs.size m [(l, aL (vals z'))] s' → m "heap" = some (.ref l) → m "pos" = some (.int n t) → m "newitem" = some new.1 →
      z'.set n new = sdF gtZ new sp pos z pos → wpAny (model PG w) (A.deeper (callEnv (dataAt w.params 63) s.heap.objs.size 63)) (execs ((bodyAt w.params 63).drop 2) (callEnv (dataAt w.params 63) s.heap.objs.size 63))
        (fun fl s' => (match fl with | .ret v => v | _ => .none) = .none ∧ Ext b₀ [l] s s' ∧ ∃ o, s'.heap.get? l = some o ∧ aL (vals (sdF gtZ new sp pos z pos)) o) E' s' := by
    intro z' n m t s' hl' hn J e1 e3 e4 hR
    refine wpAny_execs_cons (J.assignItem (v := new.1) (i := (n : Int)) (.local J.ns e4) (.local J.ns e1) (.localI J.ns e3) (.inl (by simp)) (by omega) (by simp; omega) (by omega) ?_)
    intro s₅ J₅
    dsimp only
    refine wpAny_execs_nil ⟨rfl, J₅.exit hLn, ?_⟩
    have e : vals (sdF gtZ new sp pos z pos) = (vals z').set (n : Int).toNat new.1 := by rw [← hR]; simp [vals, List.map_set]
    rw [e]; exact J₅.head
  refine while_in (fun n s' => ∃ (z' : Zs) (m : Str → Option Value) (t : Tok), In b₀ s [l] s.heap.objs.size m [(l, aL (vals z'))] s' ∧ m "heap" = some (.ref l) ∧ m "startpos" = some (.int sp t1) ∧ m "pos" = some (.int n t) ∧ m "newitem" = some new.1 ∧
    (∀ q ∈ z', q ∈ z) ∧ z'.length = z.length ∧ n < z.length ∧ sdF gtZ new sp n z' n = sdF gtZ new sp pos z pos) pos ⟨z, _, t2, I₂, rfl, rfl, rfl, rfl, fun _ h => h, rfl, hpl, rfl⟩ ?_
  · rintro n s' E'' ⟨z', m, t, J, e1, e2, e3, e4, hsub, hl', hn, hR⟩
    have hz' : AllPairs s'.heap z := hz.stay hl hLn J
    refine (PTest.gt (.localI J.ns e3) (.localI J.ns e2)).use fun tk => ?_
    by_cases hlt : (sp : Int) < (n : Int)
    · rw [decide_eq_true hlt]
      simp only [if_true]
      have J₁ := J.tok tk
      obtain ⟨k, rfl⟩ : ∃ k, n = k + 1 := ⟨n - 1, by omega⟩
      have hk2 : k / 2 < z'.length := by omega
      obtain ⟨par, hpar⟩ : ∃ par, z'[k / 2]? = some par := ⟨z'[k / 2], by simp [hk2]⟩
      have hdiv : Int.fdiv (((k + 1 : Nat) : Int) - 1) (2 ^ (1 : Int).toNat) = ((k / 2 : Nat) : Int) := by
        have : (((k + 1 : Nat) : Int) - 1) = (k : Int) := by omega
        rw [this]
        show Int.fdiv (k : Int) 2 = _
        rw [Int.fdiv_eq_ediv_of_nonneg _ (by decide)]
        omega
      refine wpAny_execs_cons (J₁.assign (PEv.shr (.sub (.localI J₁.ns e3) .const) .const (by decide)) ?_)
      rintro _ s₃ ⟨tp, rfl⟩ J₂
      rw [hdiv] at J₂
      have hx : (vals z')[((k / 2 : Nat) : Int).toNat]? = some par.1 := by rw [Int.toNat_natCast]; simp [vals, hpar]
      dsimp only
      refine wpAny_execs_cons (J₂.assign (P := fun v => v = par.1) (PEv.item (D := l) (vs := vals z') (i := ((k / 2 : Nat) : Int)) (.local J₂.ns e1) (.localI J₂.ns rfl) J₂.isList (by omega) hx (by omega)) ?_)
      rintro _ s₄ rfl J₃
      dsimp only
      have hz₄ : AllPairs s₄.heap z := hz.stay hl hLn J₃
      have hnew : new ∈ z := List.mem_of_getElem? hp
      have hparm : par ∈ z := hsub _ (List.mem_of_getElem? hpar)
      refine wpAny_execs_cons (wpAny_If ?_)
      refine (PTest.pairLt R'.cunits (.local (x := "parent") (v := par.1) J₃.ns rfl) (.local (x := "newitem") (v := new.1) J₃.ns e4) (hz₄ _ hparm) (hz₄ _ hnew)).use fun tk' => ?_
      have J₄ := J₃.tok tk'
      have hR' : (if gtZ new par = true then sdF gtZ new sp k (z'.set (k + 1) par) (k / 2) else z'.set (k + 1) new) = sdF gtZ new sp pos z pos := by
        rw [← hR]
        have hsp' : sp < k + 1 := by omega
        simp [sdF, hsp', hpar]
      by_cases hc : pairLt par.2 new.2 = true
      · rw [hc]
        simp only [if_true]
        rw [if_pos hc] at hR'
        refine wpAny_execs_cons (J₄.assignItem (v := par.1) (i := ((k + 1 : Nat) : Int)) (.local J₄.ns rfl) (.local J₄.ns e1) (.localI J₄.ns e3) (.inl (by simp)) (by omega) (by simp; omega) (by omega) ?_)
        intro s₅ J₅
        dsimp only
        refine wpAny_execs_cons (J₅.assign (P := fun v => v = .int ((k / 2 : Nat) : Int) tp) (.local J₅.ns rfl) ?_)
        rintro _ s₆ rfl J₆
        dsimp only
        refine wpAny_execs_cons (SiftDown.continue_ ?_)
        have e : (vals z').set ((k + 1 : Nat) : Int).toNat par.1 = vals (z'.set (k + 1) par) := by rw [Int.toNat_natCast]; simp [vals, List.map_set]
        rw [e] at J₆
        refine ⟨k / 2, by omega, z'.set (k + 1) par, _, tp, J₆, e1, e2, rfl, e4, ?_, by simp [hl'], by omega, ?_⟩
        · intro q hq
          rcases mem_set hq with h | h
          · exact hsub _ h
          · rw [h]; exact hparm
        · rw [← hR']; exact sdF_fuel _ _ _ _ _ _ _ (Nat.le_refl _) (by omega)
      · have hc' : pairLt par.2 new.2 = false := by simpa using hc
        rw [hc']
        simp only [Bool.false_eq_true, if_false]
        rw [if_neg hc] at hR'
        refine wpAny_execs_nil ?_
        dsimp only
        refine wpAny_execs_cons (SiftDown.break_ ?_)
        dsimp only
        exact fin z' _ _ _ _ hl' hn J₄ e1 e3 e4 hR'
    · rw [decide_eq_false hlt]
      simp only [Bool.false_eq_true, if_false]
      refine fin z' _ _ _ _ hl' hn (J.tok tk) e1 e3 e4 ?_
      rw [← hR]
      have hsp' : ¬ sp < n := by omega
      cases n <;> simp [sdF, hsp']
end Mine
end
section
open PySem PySem.W PyProof.Rows PySem.Calls
set_option maxRecDepth 100000
set_option maxHeartbeats 4000000
set_option linter.unusedVariables false
namespace Mine
abbrev Kept (b₀ : Heap) (s : Shared) : Prop := ∀ b o, b₀.get? b = some o → s.heap.get? b = some o
section
variable {w : World} {A : Around} {E : Value → Shared → Prop} {s : Shared} {b₀ : Heap} {env : Env} {x : Str} {p pos : Pos} {v : Value} {e e1 e2 e3 : PySem.Expr}

theorem PEv.global (hB : Bs w b₀) (hb : Kept b₀ s) (e : nsIn (hd.heap_39 w.params) mainGlobals x = some (some v) := by rfl) (hk : env.scope.kind = .function := by rfl) (hx : env.kindOf x = some .globalImplicit := by rfl) (hg : env.globals = mainGlobals := by rfl)
    (hd : (x == ("__debug__" : Str)) = false := by decide) : PVal PG w A env s (.Name x p) v := fun Q E tk hQ => by
  obtain ⟨_, _, mg, mb, T⟩ := hB.T
  have hG : s.heap.Ns env.globals mg := hg ▸ T.g.keeps hb
  exact Name_function_global hk hx (loadGlobal_global (s := { s with toks := tk }) hG (mg_of hB.X T.g e) (hQ _ _ rfl)) hd
theorem PEv.builtin (hB : Bs w b₀) (hb : Kept b₀ s) (hv : bootBuiltins x = some v := by decide +kernel) (e : nsIn (hd.heap_39 w.params) mainGlobals x = some none := by rfl) (hn : x ≠ "__name__" := by decide) (hk : env.scope.kind = .function := by rfl) (hx : env.kindOf x = some .globalImplicit := by rfl)
    (hg : env.globals = mainGlobals := by rfl) (hbi : env.builtins = builtinsNs := by rfl) (hd : (x == ("__debug__" : Str)) = false := by decide) : PVal PG w A env s (.Name x p) v := fun Q E tk hQ => by
  obtain ⟨_, _, mg, mb, T⟩ := hB.T
  have hG : s.heap.Ns env.globals mg := hg ▸ T.g.keeps hb
  have hBb : s.heap.Ns env.builtins mb := hbi ▸ T.b.keeps hb
  exact Name_function_global hk hx (loadGlobal_builtin (s := { s with toks := tk }) hG (mg_none_of hB.X T.g e) hBb ((T.builtins x hn).trans hv) (hQ _ _ rfl)) hd

theorem call_b1 {id : String} {Q : Value → Shared → Prop} (hf : PVal PG w A env s (.Name x p) (.builtin id)) (h : ∀ tk, wpAny (model PG w) A (eval e env) (fun v s₁ => wpAny (model PG w) A (call (.builtin id) [v]) Q E s₁) E { s with toks := tk })
    (hs : backTo pos (starEach [e] env) = [(false, eval e env)] := by rfl) : wpAny (model PG w) A (eval (.Call (.Name x p) [e] [] pos) env) Q E s := by
  refine wpAny_Call_NameR (hf.use ?_)
  rintro _ tk rfl
  rw [hs]
  exact callWith_builtin rfl (evalArgs_plain (spliced_cons (wpAny_mono (h tk) (fun v s₁ h₁ => spliced_nil h₁) fun _ _ e => e)))
theorem call_b2 {id : String} {Q : Value → Shared → Prop} (hf : PVal PG w A env s (.Name x p) (.builtin id)) (h : ∀ tk, wpAny (model PG w) A (eval e1 env) (fun v s₁ => wpAny (model PG w) A (eval e2 env) (fun v2 s₂ => wpAny (model PG w) A (call (.builtin id) [v, v2]) Q E s₂) E s₁) E { s with toks := tk })
    (hs : backTo pos (starEach [e1, e2] env) = [(false, eval e1 env), (false, eval e2 env)] := by rfl) : wpAny (model PG w) A (eval (.Call (.Name x p) [e1, e2] [] pos) env) Q E s := by
  refine wpAny_Call_NameR (hf.use ?_)
  rintro _ tk rfl
  rw [hs]
  exact callWith_builtin rfl (evalArgs_plain (spliced_cons (wpAny_mono (h tk) (fun v s₁ h₁ => spliced_cons (wpAny_mono h₁ (fun v2 s₂ h₂ => spliced_nil h₂) fun _ _ e => e)) fun _ _ e => e)))
theorem call_t1 {T : String} {Q : Value → Shared → Prop} (hf : PVal PG w A env s (.Name x p) (.type T)) (h : ∀ tk, wpAny (model PG w) A (eval e env) (fun v s₁ => wpAny (model PG w) A (call (.type T) [v]) Q E s₁) E { s with toks := tk })
    (hs : backTo pos (starEach [e] env) = [(false, eval e env)] := by rfl) : wpAny (model PG w) A (eval (.Call (.Name x p) [e] [] pos) env) Q E s := by
  refine wpAny_Call_NameR (hf.use ?_)
  rintro _ tk rfl
  rw [hs]
  exact PySem.callWith_type rfl (evalArgs_plain (spliced_cons (wpAny_mono (h tk) (fun v s₁ h₁ => spliced_nil h₁) fun _ _ e => e)))
theorem call_t3 {T : String} {Q : Value → Shared → Prop} (hf : PVal PG w A env s (.Name x p) (.type T)) (h : ∀ tk, wpAny (model PG w) A (eval e1 env) (fun v s₁ => wpAny (model PG w) A (eval e2 env) (fun v2 s₂ => wpAny (model PG w) A (eval e3 env) (fun v3 s₃ => wpAny (model PG w) A (call (.type T) [v, v2, v3]) Q E s₃) E s₂) E s₁) E { s with toks := tk })
    (hs : backTo pos (starEach [e1, e2, e3] env) = [(false, eval e1 env), (false, eval e2 env), (false, eval e3 env)] := by rfl) : wpAny (model PG w) A (eval (.Call (.Name x p) [e1, e2, e3] [] pos) env) Q E s := by
  refine wpAny_Call_NameR (hf.use ?_)
  rintro _ tk rfl
  rw [hs]
  exact PySem.callWith_type rfl (evalArgs_plain (spliced_cons (wpAny_mono (h tk) (fun v s₁ h₁ => spliced_cons (wpAny_mono h₁ (fun v2 s₂ h₂ => spliced_cons (wpAny_mono h₂ (fun v3 s₃ h₃ => spliced_nil h₃) fun _ _ e => e)) fun _ _ e => e)) fun _ _ e => e)))

theorem fn_there (hB : Bs w b₀) {f : Addr} (hf : isFnAt (hd.heap_39 w.params) f = true) : ∃ o fd, b₀.get? f = some o ∧ o.data = .func fd := by
  obtain ⟨o, ho, hd', _⟩ := isFnAt_out hB.X hf
  exact ⟨o, _, ho, hd'⟩
theorem call_f1 {f : Addr} {Q : Value → Shared → Prop} (hB : Bs w b₀) (hfn : isFnAt (hd.heap_39 w.params) f = true) (hf : PVal PG w A env s (.Name x p) (.ref f)) (h : ∀ tk, wpAny (model PG w) A (eval e env) (fun v s₁ => Kept b₀ s₁ ∧ wpAny (model PG w) A (call (.ref f) [v]) Q E s₁) E { s with toks := tk })
    (hs : backTo pos (starEach [e] env) = [(false, eval e env)] := by rfl) : wpAny (model PG w) A (eval (.Call (.Name x p) [e] [] pos) env) Q E s := by
  obtain ⟨o, fd, ho, hd'⟩ := fn_there hB hfn
  refine wpAny_Call_NameR (hf.use ?_)
  rintro _ tk rfl
  rw [hs]
  exact callWith_function (evalArgs_plain (spliced_cons (wpAny_mono (h tk) (fun v s₁ h₁ => spliced_nil ⟨⟨h₁.1 _ _ ho, hd'⟩, h₁.2⟩) fun _ _ e => e)))
theorem call_f2 {f : Addr} {Q : Value → Shared → Prop} (hB : Bs w b₀) (hfn : isFnAt (hd.heap_39 w.params) f = true) (hf : PVal PG w A env s (.Name x p) (.ref f)) (h : ∀ tk, wpAny (model PG w) A (eval e1 env) (fun v s₁ => wpAny (model PG w) A (eval e2 env) (fun v2 s₂ => Kept b₀ s₂ ∧ wpAny (model PG w) A (call (.ref f) [v, v2]) Q E s₂) E s₁) E { s with toks := tk })
    (hs : backTo pos (starEach [e1, e2] env) = [(false, eval e1 env), (false, eval e2 env)] := by rfl) : wpAny (model PG w) A (eval (.Call (.Name x p) [e1, e2] [] pos) env) Q E s := by
  obtain ⟨o, fd, ho, hd'⟩ := fn_there hB hfn
  refine wpAny_Call_NameR (hf.use ?_)
  rintro _ tk rfl
  rw [hs]
  exact callWith_function (evalArgs_plain (spliced_cons (wpAny_mono (h tk) (fun v s₁ h₁ => spliced_cons (wpAny_mono h₁ (fun v2 s₂ h₂ => spliced_nil ⟨⟨h₂.1 _ _ ho, hd'⟩, h₂.2⟩) fun _ _ e => e)) fun _ _ e => e)))
theorem call_f3 {f : Addr} {Q : Value → Shared → Prop} (hB : Bs w b₀) (hfn : isFnAt (hd.heap_39 w.params) f = true) (hf : PVal PG w A env s (.Name x p) (.ref f)) (h : ∀ tk, wpAny (model PG w) A (eval e1 env) (fun v s₁ => wpAny (model PG w) A (eval e2 env) (fun v2 s₂ => wpAny (model PG w) A (eval e3 env) (fun v3 s₃ => Kept b₀ s₃ ∧ wpAny (model PG w) A (call (.ref f) [v, v2, v3]) Q E s₃) E s₂) E s₁) E { s with toks := tk })
    (hs : backTo pos (starEach [e1, e2, e3] env) = [(false, eval e1 env), (false, eval e2 env), (false, eval e3 env)] := by rfl) : wpAny (model PG w) A (eval (.Call (.Name x p) [e1, e2, e3] [] pos) env) Q E s := by
  obtain ⟨o, fd, ho, hd'⟩ := fn_there hB hfn
  refine wpAny_Call_NameR (hf.use ?_)
  rintro _ tk rfl
  rw [hs]
  exact callWith_function (evalArgs_plain (spliced_cons (wpAny_mono (h tk) (fun v s₁ h₁ => spliced_cons (wpAny_mono h₁ (fun v2 s₂ h₂ => spliced_cons (wpAny_mono h₂ (fun v3 s₃ h₃ => spliced_nil ⟨⟨h₃.1 _ _ ho, hd'⟩, h₃.2⟩) fun _ _ e => e)) fun _ _ e => e)) fun _ _ e => e)))

/-- len of a list -/
theorem PEv.lenL {D : Addr} {vs : List Value} (hf : PVal PG w A env s (.Name x p) (.builtin "len")) (he : PVal PG w A env s e (.ref D)) (hl : s.heap.IsList D vs.toArray) (hfit : (vs.length : Int) < 2 ^ 63)
    (hs : backTo pos (starEach [e] env) = [(false, eval e env)] := by rfl) : PInt PG w A env s (.Call (.Name x p) [e] [] pos) vs.length := fun Q E tk hQ => by
  refine call_b1 (s := { s with toks := tk }) (fun Q E tk' h => hf Q E tk' h) (fun tk1 => ?_) hs
  refine he _ _ _ ?_
  rintro _ tk2 rfl
  exact PyProof.Rows.len_list (s := { s with toks := tk2 }) hl (by simpa using hfit) (hQ _ _ ⟨_, by rw [List.size_toArray]⟩)
end

/-! ## the sift from above, plain -/
def suF {β : Type} (lt : β → β → Bool) (new : β) (start : Nat) : Nat → List β → Nat → List β
  | 0, z, pos => z
  | n + 1, z, pos =>
    if 2 * pos + 1 < z.length then
      match z[2 * pos + 1]? with
      | none => z
      | some a =>
        match z[2 * pos + 2]? with
        | some b => if lt a b then suF lt new start n (z.set pos a) (2 * pos + 1) else suF lt new start n (z.set pos b) (2 * pos + 2)
        | none => suF lt new start n (z.set pos a) (2 * pos + 1)
    else sdF lt new start pos (z.set pos new) pos

/-- between two turns of the sift from above -/
def SuInv (lt : Value × (Int × Int) → Value × (Int × Int) → Bool) (b₀ : Heap) (s : Shared) (l : Addr) (z : Zs) (new : Value × (Int × Int)) (pos : Nat) (te t2 : Tok) (n : Nat) (s' : Shared) : Prop :=
  ∃ (z' : Zs) (p : Nat) (m : Str → Option Value) (tp tc : Tok), In b₀ s [l] s.heap.objs.size m [(l, aL (vals z'))] s' ∧ m "heap" = some (.ref l) ∧ m "startpos" = some (.int pos t2) ∧ m "endpos" = some (.int z.length te) ∧ m "pos" = some (.int p tp) ∧
    m "newitem" = some new.1 ∧ m "childpos" = some (.int (2 * p + 1) tc) ∧
    (∀ q ∈ z', q ∈ z) ∧ z'.length = z.length ∧ p < z.length ∧ pos ≤ p ∧ z.length ≤ n + p ∧ suF lt new pos n z' p = suF lt new pos z.length z pos

theorem siftup_ok {w : World} {A : Around} {E : Value → Shared → Prop} {s : Shared} {b₀ : Heap} (hB : Bs w b₀) (R : Rm 2 A) (hb : Kept b₀ s) {l : Addr} {z : Zs} {pos : Nat} {t2 : Tok} {new : Value × (Int × Int)}
    (hl0 : b₀.get? l = none) (hl : ∃ o, s.heap.get? l = some o ∧ aL (vals z) o) (hz : AllPairs s.heap z) (hlen : z.length < 1000) (hp : z[pos]? = some new) :
    wpAny (model PG w) A (call (.ref 56) [.ref l, .int pos t2]) (fun v s' => v = .none ∧ Ext b₀ [l] s s' ∧ ∃ o, s'.heap.get? l = some o ∧ aL (vals (suF ltZ new pos z.length z pos)) o) E s := by
  refine call_at hB R hb rfl rfl rfl rfl (fun E' s₁ I => ?_) rfl rfl rfl
  have R' : Rm 1 (A.deeper (callEnv (dataAt w.params 56) s.heap.objs.size 56)) := R.deeper _
  have hLn : s.heap.get? s.heap.objs.size = none := none_of_size (Nat.le_refl _)
  have hlL : l ≠ s.heap.objs.size := by rintro rfl; obtain ⟨o, ho, _⟩ := hl; rw [hLn] at ho; cases ho
  have I₁ := I.take hl (by simp) hlL hl0 (by simp)
  have hpl : pos < z.length := (List.getElem?_eq_some_iff.mp hp).1
  refine wpAny_execs_cons (I₁.assign (P := fun v => ∃ t, v = .int ((vals z).length : Int) t) (PEv.lenL (.builtin hB I₁.base) (.local I₁.ns rfl) I₁.isList (by simp; omega)) ?_)
  rintro _ s₂ ⟨te, rfl⟩ I₂
  dsimp only
  have hvl : (vals z).length = z.length := by simp [vals]
  rw [hvl] at I₂
  refine wpAny_execs_cons (I₂.assign (x := "startpos") (P := fun v => v = .int (pos : Int) t2) (.local (x := "pos") (v := .int (pos : Int) t2) I₂.ns rfl) ?_)
  rintro _ s₃ rfl I₃
  dsimp only
  have hx₃ : (vals z)[(pos : Int).toNat]? = some new.1 := by rw [Int.toNat_natCast]; simp [vals, hp]
  refine wpAny_execs_cons (I₃.assign (P := fun v => v = new.1) (PEv.item (D := l) (vs := vals z) (i := (pos : Int)) (.local I₃.ns rfl) (.localI I₃.ns rfl) I₃.isList (by omega) hx₃ (by omega)) ?_)
  rintro _ s₄ rfl I₄
  dsimp only
  refine wpAny_execs_cons (I₄.assign (PEv.add (.mul .const (.localI (x := "pos") (i := (pos : Int)) I₄.ns rfl) (by decide) (by decide)) .const) ?_)
  rintro _ s₅ ⟨tc, rfl⟩ I₅
  dsimp only
  refine wpAny_execs_cons ?_
  refine while_in (SuInv ltZ b₀ s l z new pos te t2) z.length ⟨z, pos, _, t2, tc, I₅, rfl, rfl, rfl, rfl, rfl, rfl, fun _ h => h, rfl, hpl, Nat.le_refl _, by omega, rfl⟩ ?_
  rintro n s' E'' ⟨z', p, m, tp, tc, J, e1, e2, e3, e4, e5, e6, hsub, hl', hpn, hpp, hfu, hR⟩
  refine (PTest.lt (.localI J.ns e6) (.localI J.ns e3)).use fun tk => ?_
  have J₀ := J.tok tk
  obtain ⟨k, rfl⟩ : ∃ k, n = k + 1 := ⟨n - 1, by omega⟩
  by_cases hlt : (2 * (p : Int) + 1) < (z.length : Int)
  · rw [decide_eq_true hlt]
    simp only [if_true]
    have hc1 : 2 * p + 1 < z'.length := by omega
    obtain ⟨a, ha⟩ : ∃ a, z'[2 * p + 1]? = some a := ⟨z'[2 * p + 1], by simp [hc1]⟩
    have ham : a ∈ z := hsub _ (List.mem_of_getElem? ha)
    refine wpAny_execs_cons (J₀.assign (PEv.add (.localI J₀.ns e6) .const) ?_)
    rintro _ s₆ ⟨tr, rfl⟩ J₁
    dsimp only
    have hz₁ : AllPairs s₆.heap z := hz.stay hl hLn J₁
    /- what is left of the turn, once the child is chosen -/
    have rest : ∀ (c : Nat) (q : Value × (Int × Int)) (m' : Str → Option Value) (tc' : Tok) (s₇ : Shared), In b₀ s [l] s.heap.objs.size m' [(l, aL (vals z'))] s₇ → m' "heap" = some (.ref l) → m' "startpos" = some (.int pos t2) → m' "endpos" = some (.int z.length te) → m' "pos" = some (.int p tp) →
        m' "newitem" = some new.1 → m' "childpos" = some (.int c tc') → z'[c]? = some q → p < c → suF ltZ new pos k (z'.set p q) c = suF ltZ new pos z.length z pos →
        wpAny (model PG w) (A.deeper (callEnv (dataAt w.params 56) s.heap.objs.size 56)) (execs (match (bodyAt w.params 56).drop 4 with | .While _ b _ _ :: _ => b.drop 2 | _ => []) (callEnv (dataAt w.params 56) s.heap.objs.size 56)) (fun f s₃ => f = .next ∧ ∃ k', k' < k + 1 ∧ SuInv ltZ b₀ s l z new pos te t2 k' s₃) E'' s₇ := by
      intro c q m' tc' s₇ J₂ f1 f2 f3 f4 f5 f6 hq hpc hsu
      have hcl : c < z'.length := (List.getElem?_eq_some_iff.mp hq).1
      have hx : (vals z')[(c : Int).toNat]? = some q.1 := by rw [Int.toNat_natCast]; simp [vals, hq]
      refine wpAny_execs_cons (J₂.assignItem (v := q.1) (i := (p : Int)) (PEv.item (D := l) (vs := vals z') (i := (c : Int)) (.local J₂.ns f1) (.localI J₂.ns f6) J₂.isList (by omega) hx (by omega)) (.local J₂.ns f1) (.localI J₂.ns f4) (.inl (by simp)) (by omega) (by simp; omega) (by omega) ?_)
      intro s₈ J₃
      dsimp only
      have e : (vals z').set (p : Int).toNat q.1 = vals (z'.set p q) := by rw [Int.toNat_natCast]; simp [vals, List.map_set]
      rw [e] at J₃
      refine wpAny_execs_cons (J₃.assign (P := fun v => v = .int (c : Int) tc') (.local J₃.ns f6) ?_)
      rintro _ s₉ rfl J₄
      dsimp only
      refine wpAny_execs_cons (J₄.assign (PEv.add (.mul .const (.localI (x := "pos") (i := (c : Int)) J₄.ns rfl) (by decide) (by decide)) .const) ?_)
      rintro _ s₁₀ ⟨td, rfl⟩ J₅
      dsimp only
      refine wpAny_execs_nil ?_
      refine ⟨rfl, k, by omega, z'.set p q, c, _, tc', td, J₅, f1, f2, f3, rfl, f5, rfl, ?_, by simp [hl'], by omega, by omega, by omega, hsu⟩
      intro r hr
      rcases mem_set hr with h | h
      · exact hsub _ h
      · rw [h]; exact hsub _ (List.mem_of_getElem? hq)
    refine wpAny_execs_cons (wpAny_If ?_)
    have hun : suF ltZ new pos (k + 1) z' p = (match z'[2 * p + 2]? with
        | some b => if ltZ a b then suF ltZ new pos k (z'.set p a) (2 * p + 1) else suF ltZ new pos k (z'.set p b) (2 * p + 2)
        | none => suF ltZ new pos k (z'.set p a) (2 * p + 1)) := by
      rw [suF, if_pos hc1, ha]
      dsimp only
      cases z'[2 * p + 2]? <;> rfl
    rw [hun] at hR
    by_cases hr : 2 * p + 2 < z'.length
    · obtain ⟨b, hb'⟩ : ∃ b, z'[2 * p + 2]? = some b := ⟨z'[2 * p + 2], by simp [hr]⟩
      have hbm : b ∈ z := hsub _ (List.mem_of_getElem? hb')
      rw [hb'] at hR
      dsimp only at hR
      have hxa : (vals z')[(2 * (p : Int) + 1).toNat]? = some a.1 := by
        have : (2 * (p : Int) + 1).toNat = 2 * p + 1 := by omega
        rw [this]; simp [vals, ha]
      have hxb : (vals z')[(2 * (p : Int) + 1 + 1).toNat]? = some b.1 := by
        have : (2 * (p : Int) + 1 + 1).toNat = 2 * p + 2 := by omega
        rw [this]; simp [vals, hb']
      refine (PTest.and (.lt (.localI (x := "rightpos") (i := 2 * (p : Int) + 1 + 1) J₁.ns rfl) (.localI (x := "endpos") (i := (z.length : Int)) J₁.ns e3)) fun _ => .not (PTest.pairLt R'.cunits
        (.item (D := l) (vs := vals z') (i := 2 * (p : Int) + 1) (v := a.1) (.local (x := "heap") (v := .ref l) J₁.ns e1) (.localI (x := "childpos") (i := 2 * (p : Int) + 1) J₁.ns e6) J₁.isList (by omega) hxa (by omega))
        (.item (D := l) (vs := vals z') (i := 2 * (p : Int) + 1 + 1) (v := b.1) (.local (x := "heap") (v := .ref l) J₁.ns e1) (.localI (x := "rightpos") (i := 2 * (p : Int) + 1 + 1) J₁.ns rfl) J₁.isList (by omega) hxb (by omega)) (hz₁ _ ham) (hz₁ _ hbm))).use fun tk' => ?_
      have J₂ := J₁.tok tk'
      rw [decide_eq_true (show 2 * (p : Int) + 1 + 1 < (z.length : Int) by omega)]
      by_cases hc : pairLt a.2 b.2 = true
      · rw [hc]
        simp only [Bool.not_true, Bool.and_false, Bool.false_eq_true, if_false]
        rw [if_pos hc] at hR
        refine wpAny_execs_nil ?_
        dsimp only
        exact wpAny_mono (rest (2 * p + 1) a _ tc _ J₂ e1 e2 e3 e4 e5 (by exact e6) ha (by omega) hR) (fun f s₃ h => by obtain ⟨rfl, h⟩ := h; exact h) (fun _ _ h => h)
      · have hc' : pairLt a.2 b.2 = false := by simpa using hc
        rw [hc']
        simp only [Bool.not_false, Bool.and_true, if_true]
        rw [if_neg hc] at hR
        refine wpAny_execs_cons (J₂.assign (P := fun v => v = .int (2 * (p : Int) + 1 + 1) tr) (.local (x := "rightpos") J₂.ns rfl) ?_)
        rintro _ s₇ rfl J₃
        dsimp only
        refine wpAny_execs_nil ?_
        dsimp only
        have hcast : (2 * (p : Int) + 1 + 1) = ((2 * p + 2 : Nat) : Int) := by omega
        rw [hcast] at J₃
        exact wpAny_mono (rest (2 * p + 2) b _ tr _ J₃ e1 e2 e3 e4 e5 rfl hb' (by omega) hR) (fun f s₃ h => by obtain ⟨rfl, h⟩ := h; exact h) (fun _ _ h => h)
    · have hnone : z'[2 * p + 2]? = none := by simp; omega
      rw [hnone] at hR
      dsimp only at hR
      refine (PTest.and (d := false) (.lt (.localI (x := "rightpos") (i := 2 * (p : Int) + 1 + 1) J₁.ns rfl) (.localI (x := "endpos") (i := (z.length : Int)) J₁.ns e3)) fun h => ?_).use fun tk' => ?_
      · exfalso
        have := of_decide_eq_true h
        omega
      have J₂ := J₁.tok tk'
      simp only [Bool.and_false, Bool.false_eq_true, if_false]
      refine wpAny_execs_nil ?_
      dsimp only
      exact wpAny_mono (rest (2 * p + 1) a _ tc _ J₂ e1 e2 e3 e4 e5 (by exact e6) ha (by omega) hR) (fun f s₃ h => by obtain ⟨rfl, h⟩ := h; exact h) (fun _ _ h => h)
  · rw [decide_eq_false hlt]
    simp only [Bool.false_eq_true, if_false]
    have hun : suF ltZ new pos (k + 1) z' p = sdF ltZ new pos p (z'.set p new) p := by
      rw [suF, if_neg (by omega)]
    rw [hun] at hR
    refine wpAny_execs_cons (J₀.assignItem (v := new.1) (i := (p : Int)) (.local J₀.ns e5) (.local J₀.ns e1) (.localI J₀.ns e4) (.inl (by simp)) (by omega) (by simp; omega) (by omega) ?_)
    intro s₆ J₁
    dsimp only
    have e : (vals z').set (p : Int).toNat new.1 = vals (z'.set p new) := by rw [Int.toNat_natCast]; simp [vals, List.map_set]
    rw [e] at J₁
    have hz₁ : AllPairs s₆.heap z := hz.stay hl hLn J₁
    refine wpAny_execs_cons (wpAny_Expr ?_)
    refine call_f3 hB rfl (.global hB J₁.base) fun tk1 => ?_
    have J₂ := J₁.tok tk1
    refine (PEv.local J₂.ns e1).use ?_
    rintro _ tk2 rfl
    refine (PEv.localI J₂.ns e2) _ _ _ ?_
    rintro _ tk3 ⟨t3, rfl⟩
    refine (PEv.localI J₂.ns e4) _ _ _ ?_
    rintro _ tk4 ⟨t4, rfl⟩
    have J₃ := J₂.tok tk4
    refine ⟨J₃.base, ?_⟩
    refine wpAny_mono (siftdown_ok (z := z'.set p new) hB R' J₃.base hl0 J₃.head (fun q hq => ?_) (by rw [List.length_set]; omega) (by rw [List.getElem?_set_self (by omega)]) hpp) (fun v s₇ h => ?_) (fun _ _ h => h)
    · rcases mem_set hq with h | h
      · exact hz₁ _ (hsub _ h)
      · rw [h]; exact hz₁ _ (List.mem_of_getElem? hp)
    · obtain ⟨rfl, hE, ho⟩ := h
      dsimp only
      refine wpAny_execs_nil ⟨rfl, ?_, ?_⟩
      · exact ((J₃.ext1 (.inl (by simp)) hE ho).exit hLn)
      · rw [← hR]; exact ho
end Mine
end
section
open PySem PySem.W PyProof.Rows PySem.Calls
set_option maxRecDepth 100000
set_option maxHeartbeats 4000000
set_option linter.unusedVariables false
namespace Mine
theorem siftupM_ok {w : World} {A : Around} {E : Value → Shared → Prop} {s : Shared} {b₀ : Heap} (hB : Bs w b₀) (R : Rm 2 A) (hb : Kept b₀ s) {l : Addr} {z : Zs} {pos : Nat} {t2 : Tok} {new : Value × (Int × Int)}
    (hl0 : b₀.get? l = none) (hl : ∃ o, s.heap.get? l = some o ∧ aL (vals z) o) (hz : AllPairs s.heap z) (hlen : z.length < 1000) (hp : z[pos]? = some new) :
    wpAny (model PG w) A (call (.ref 70) [.ref l, .int pos t2]) (fun v s' => v = .none ∧ Ext b₀ [l] s s' ∧ ∃ o, s'.heap.get? l = some o ∧ aL (vals (suF gtZ new pos z.length z pos)) o) E s := by
  refine call_at hB R hb rfl rfl rfl rfl (fun E' s₁ I => ?_) rfl rfl rfl
  have R' : Rm 1 (A.deeper (callEnv (dataAt w.params 70) s.heap.objs.size 70)) := R.deeper _
  have hLn : s.heap.get? s.heap.objs.size = none := none_of_size (Nat.le_refl _)
  have hlL : l ≠ s.heap.objs.size := by rintro rfl; obtain ⟨o, ho, _⟩ := hl; rw [hLn] at ho; cases ho
  have I₁ := I.take hl (by simp) hlL hl0 (by simp)
  have hpl : pos < z.length := (List.getElem?_eq_some_iff.mp hp).1
  refine wpAny_execs_cons (I₁.assign (P := fun v => ∃ t, v = .int ((vals z).length : Int) t) (PEv.lenL (.builtin hB I₁.base) (.local I₁.ns rfl) I₁.isList (by simp; omega)) ?_)
  rintro _ s₂ ⟨te, rfl⟩ I₂
  dsimp only
  have hvl : (vals z).length = z.length := by simp [vals]
  rw [hvl] at I₂
  refine wpAny_execs_cons (I₂.assign (x := "startpos") (P := fun v => v = .int (pos : Int) t2) (.local (x := "pos") (v := .int (pos : Int) t2) I₂.ns rfl) ?_)
  rintro _ s₃ rfl I₃
  dsimp only
  have hx₃ : (vals z)[(pos : Int).toNat]? = some new.1 := by rw [Int.toNat_natCast]; simp [vals, hp]
  refine wpAny_execs_cons (I₃.assign (P := fun v => v = new.1) (PEv.item (D := l) (vs := vals z) (i := (pos : Int)) (.local I₃.ns rfl) (.localI I₃.ns rfl) I₃.isList (by omega) hx₃ (by omega)) ?_)
  rintro _ s₄ rfl I₄
  dsimp only
  refine wpAny_execs_cons (I₄.assign (PEv.add (.mul .const (.localI (x := "pos") (i := (pos : Int)) I₄.ns rfl) (by decide) (by decide)) .const) ?_)
  rintro _ s₅ ⟨tc, rfl⟩ I₅
  dsimp only
  refine wpAny_execs_cons ?_
  refine while_in (SuInv gtZ b₀ s l z new pos te t2) z.length ⟨z, pos, _, t2, tc, I₅, rfl, rfl, rfl, rfl, rfl, rfl, fun _ h => h, rfl, hpl, Nat.le_refl _, by omega, rfl⟩ ?_
  rintro n s' E'' ⟨z', p, m, tp, tc, J, e1, e2, e3, e4, e5, e6, hsub, hl', hpn, hpp, hfu, hR⟩
  refine (PTest.lt (.localI J.ns e6) (.localI J.ns e3)).use fun tk => ?_
  have J₀ := J.tok tk
  obtain ⟨k, rfl⟩ : ∃ k, n = k + 1 := ⟨n - 1, by omega⟩
  by_cases hlt : (2 * (p : Int) + 1) < (z.length : Int)
  · rw [decide_eq_true hlt]
    simp only [if_true]
    have hc1 : 2 * p + 1 < z'.length := by omega
    obtain ⟨a, ha⟩ : ∃ a, z'[2 * p + 1]? = some a := ⟨z'[2 * p + 1], by simp [hc1]⟩
    have ham : a ∈ z := hsub _ (List.mem_of_getElem? ha)
    refine wpAny_execs_cons (J₀.assign (PEv.add (.localI J₀.ns e6) .const) ?_)
    rintro _ s₆ ⟨tr, rfl⟩ J₁
    dsimp only
    have hz₁ : AllPairs s₆.heap z := hz.stay hl hLn J₁
    /- what is left of the turn, once the child is chosen -/
    have rest : ∀ (c : Nat) (q : Value × (Int × Int)) (m' : Str → Option Value) (tc' : Tok) (s₇ : Shared), In b₀ s [l] s.heap.objs.size m' [(l, aL (vals z'))] s₇ → m' "heap" = some (.ref l) → m' "startpos" = some (.int pos t2) → m' "endpos" = some (.int z.length te) → m' "pos" = some (.int p tp) →
        m' "newitem" = some new.1 → m' "childpos" = some (.int c tc') → z'[c]? = some q → p < c → suF gtZ new pos k (z'.set p q) c = suF gtZ new pos z.length z pos →
        wpAny (model PG w) (A.deeper (callEnv (dataAt w.params 70) s.heap.objs.size 70)) (execs (match (bodyAt w.params 70).drop 4 with | .While _ b _ _ :: _ => b.drop 2 | _ => []) (callEnv (dataAt w.params 70) s.heap.objs.size 70)) (fun f s₃ => f = .next ∧ ∃ k', k' < k + 1 ∧ SuInv gtZ b₀ s l z new pos te t2 k' s₃) E'' s₇ := by
      intro c q m' tc' s₇ J₂ f1 f2 f3 f4 f5 f6 hq hpc hsu
      have hcl : c < z'.length := (List.getElem?_eq_some_iff.mp hq).1
      have hx : (vals z')[(c : Int).toNat]? = some q.1 := by rw [Int.toNat_natCast]; simp [vals, hq]
      refine wpAny_execs_cons (J₂.assignItem (v := q.1) (i := (p : Int)) (PEv.item (D := l) (vs := vals z') (i := (c : Int)) (.local J₂.ns f1) (.localI J₂.ns f6) J₂.isList (by omega) hx (by omega)) (.local J₂.ns f1) (.localI J₂.ns f4) (.inl (by simp)) (by omega) (by simp; omega) (by omega) ?_)
      intro s₈ J₃
      dsimp only
      have e : (vals z').set (p : Int).toNat q.1 = vals (z'.set p q) := by rw [Int.toNat_natCast]; simp [vals, List.map_set]
      rw [e] at J₃
      refine wpAny_execs_cons (J₃.assign (P := fun v => v = .int (c : Int) tc') (.local J₃.ns f6) ?_)
      rintro _ s₉ rfl J₄
      dsimp only
      refine wpAny_execs_cons (J₄.assign (PEv.add (.mul .const (.localI (x := "pos") (i := (c : Int)) J₄.ns rfl) (by decide) (by decide)) .const) ?_)
      rintro _ s₁₀ ⟨td, rfl⟩ J₅
      dsimp only
      refine wpAny_execs_nil ?_
      refine ⟨rfl, k, by omega, z'.set p q, c, _, tc', td, J₅, f1, f2, f3, rfl, f5, rfl, ?_, by simp [hl'], by omega, by omega, by omega, hsu⟩
      intro r hr
      rcases mem_set hr with h | h
      · exact hsub _ h
      · rw [h]; exact hsub _ (List.mem_of_getElem? hq)
    refine wpAny_execs_cons (wpAny_If ?_)
    have hun : suF gtZ new pos (k + 1) z' p = (match z'[2 * p + 2]? with
        | some b => if gtZ a b then suF gtZ new pos k (z'.set p a) (2 * p + 1) else suF gtZ new pos k (z'.set p b) (2 * p + 2)
        | none => suF gtZ new pos k (z'.set p a) (2 * p + 1)) := by
      rw [suF, if_pos hc1, ha]
      dsimp only
      cases z'[2 * p + 2]? <;> rfl
    rw [hun] at hR
    by_cases hr : 2 * p + 2 < z'.length
    · obtain ⟨b, hb'⟩ : ∃ b, z'[2 * p + 2]? = some b := ⟨z'[2 * p + 2], by simp [hr]⟩
      have hbm : b ∈ z := hsub _ (List.mem_of_getElem? hb')
      rw [hb'] at hR
      dsimp only at hR
      have hxa : (vals z')[(2 * (p : Int) + 1).toNat]? = some a.1 := by
        have : (2 * (p : Int) + 1).toNat = 2 * p + 1 := by omega
        rw [this]; simp [vals, ha]
      have hxb : (vals z')[(2 * (p : Int) + 1 + 1).toNat]? = some b.1 := by
        have : (2 * (p : Int) + 1 + 1).toNat = 2 * p + 2 := by omega
        rw [this]; simp [vals, hb']
      refine (PTest.and (.lt (.localI (x := "rightpos") (i := 2 * (p : Int) + 1 + 1) J₁.ns rfl) (.localI (x := "endpos") (i := (z.length : Int)) J₁.ns e3)) fun _ => .not (PTest.pairLt R'.cunits
        (.item (D := l) (vs := vals z') (i := 2 * (p : Int) + 1 + 1) (v := b.1) (.local (x := "heap") (v := .ref l) J₁.ns e1) (.localI (x := "rightpos") (i := 2 * (p : Int) + 1 + 1) J₁.ns rfl) J₁.isList (by omega) hxb (by omega))
        (.item (D := l) (vs := vals z') (i := 2 * (p : Int) + 1) (v := a.1) (.local (x := "heap") (v := .ref l) J₁.ns e1) (.localI (x := "childpos") (i := 2 * (p : Int) + 1) J₁.ns e6) J₁.isList (by omega) hxa (by omega)) (hz₁ _ hbm) (hz₁ _ ham))).use fun tk' => ?_
      have J₂ := J₁.tok tk'
      rw [decide_eq_true (show 2 * (p : Int) + 1 + 1 < (z.length : Int) by omega)]
      by_cases hc : pairLt b.2 a.2 = true
      · rw [hc]
        simp only [Bool.not_true, Bool.and_false, Bool.false_eq_true, if_false]
        rw [if_pos hc] at hR
        refine wpAny_execs_nil ?_
        dsimp only
        exact wpAny_mono (rest (2 * p + 1) a _ tc _ J₂ e1 e2 e3 e4 e5 (by exact e6) ha (by omega) hR) (fun f s₃ h => by obtain ⟨rfl, h⟩ := h; exact h) (fun _ _ h => h)
      · have hc' : pairLt b.2 a.2 = false := by simpa using hc
        rw [hc']
        simp only [Bool.not_false, Bool.and_true, if_true]
        rw [if_neg hc] at hR
        refine wpAny_execs_cons (J₂.assign (P := fun v => v = .int (2 * (p : Int) + 1 + 1) tr) (.local (x := "rightpos") J₂.ns rfl) ?_)
        rintro _ s₇ rfl J₃
        dsimp only
        refine wpAny_execs_nil ?_
        dsimp only
        have hcast : (2 * (p : Int) + 1 + 1) = ((2 * p + 2 : Nat) : Int) := by omega
        rw [hcast] at J₃
        exact wpAny_mono (rest (2 * p + 2) b _ tr _ J₃ e1 e2 e3 e4 e5 rfl hb' (by omega) hR) (fun f s₃ h => by obtain ⟨rfl, h⟩ := h; exact h) (fun _ _ h => h)
    · have hnone : z'[2 * p + 2]? = none := by simp; omega
      rw [hnone] at hR
      dsimp only at hR
      refine (PTest.and (d := false) (.lt (.localI (x := "rightpos") (i := 2 * (p : Int) + 1 + 1) J₁.ns rfl) (.localI (x := "endpos") (i := (z.length : Int)) J₁.ns e3)) fun h => ?_).use fun tk' => ?_
      · exfalso
        have := of_decide_eq_true h
        omega
      have J₂ := J₁.tok tk'
      simp only [Bool.and_false, Bool.false_eq_true, if_false]
      refine wpAny_execs_nil ?_
      dsimp only
      exact wpAny_mono (rest (2 * p + 1) a _ tc _ J₂ e1 e2 e3 e4 e5 (by exact e6) ha (by omega) hR) (fun f s₃ h => by obtain ⟨rfl, h⟩ := h; exact h) (fun _ _ h => h)
  · rw [decide_eq_false hlt]
    simp only [Bool.false_eq_true, if_false]
    have hun : suF gtZ new pos (k + 1) z' p = sdF gtZ new pos p (z'.set p new) p := by
      rw [suF, if_neg (by omega)]
    rw [hun] at hR
    refine wpAny_execs_cons (J₀.assignItem (v := new.1) (i := (p : Int)) (.local J₀.ns e5) (.local J₀.ns e1) (.localI J₀.ns e4) (.inl (by simp)) (by omega) (by simp; omega) (by omega) ?_)
    intro s₆ J₁
    dsimp only
    have e : (vals z').set (p : Int).toNat new.1 = vals (z'.set p new) := by rw [Int.toNat_natCast]; simp [vals, List.map_set]
    rw [e] at J₁
    have hz₁ : AllPairs s₆.heap z := hz.stay hl hLn J₁
    refine wpAny_execs_cons (wpAny_Expr ?_)
    refine call_f3 hB rfl (.global hB J₁.base) fun tk1 => ?_
    have J₂ := J₁.tok tk1
    refine (PEv.local J₂.ns e1).use ?_
    rintro _ tk2 rfl
    refine (PEv.localI J₂.ns e2) _ _ _ ?_
    rintro _ tk3 ⟨t3, rfl⟩
    refine (PEv.localI J₂.ns e4) _ _ _ ?_
    rintro _ tk4 ⟨t4, rfl⟩
    have J₃ := J₂.tok tk4
    refine ⟨J₃.base, ?_⟩
    refine wpAny_mono (siftdownM_ok (z := z'.set p new) hB R' J₃.base hl0 J₃.head (fun q hq => ?_) (by rw [List.length_set]; omega) (by rw [List.getElem?_set_self (by omega)]) hpp) (fun v s₇ h => ?_) (fun _ _ h => h)
    · rcases mem_set hq with h | h
      · exact hz₁ _ (hsub _ h)
      · rw [h]; exact hz₁ _ (List.mem_of_getElem? hp)
    · obtain ⟨rfl, hE, ho⟩ := h
      dsimp only
      refine wpAny_execs_nil ⟨rfl, ?_, ?_⟩
      · exact ((J₃.ext1 (.inl (by simp)) hE ho).exit hLn)
      · rw [← hR]; exact ho
end Mine
end
section
open PySem PySem.W PyProof.Rows PySem.Calls
set_option maxRecDepth 100000
set_option maxHeartbeats 4000000
set_option linter.unusedVariables false
namespace Mine
/-! ## ranges -/
abbrev aRI (x left step : Int) : Obj → Prop := fun o => o = { cls := .type "range_iterator", dict := none, data := .fields #[rawInt x, rawInt left, rawInt step], slots := #[] }
abbrev aRg (a b c : Int) : Obj → Prop := fun o => ∃ t u v, o = { cls := .type "range", dict := none, data := .fields #[.int a t, .int b u, .int c v], slots := #[] }

section
variable {prog : Program} {w : World} {A : Around} {E : Value → Shared → Prop} {s : Shared} {b₀ : Heap} {s₀ : Shared} {W : List Addr} {L : Addr} {m : Str → Option Value} {led : Ledger} {env : Env}

/-- a loop over what a range's iterator still holds -/
theorem for_rng {R : Result → Shared → Prop} {target : PySem.Expr} {body : List Stmt} {I : Addr} {a c : Int} {n : Nat} (J : Nat → (Str → Option Value) → Ledger → Prop) (hh : A.handled = none)
    (I0 : In b₀ s₀ W L m ((I, aRI a n c) :: led) s) (hI : s₀.heap.get? I = none) (h0 : J 0 m led)
    (step : ∀ i t m led s₁ E', i < n → J i m led → In b₀ s₀ W L m ((I, aRI (a + ((i + 1 : Nat) : Int) * c) ((n : Int) - ((i + 1 : Nat) : Int)) c) :: led) s₁ →
      wpAny (model prog w) A (assign target env (.int (a + (i : Int) * c) t)) (fun _ s₂ => wpAny (model prog w) A (execs body env) (fun f s₃ => f = .next ∧ ∃ m' led', J (i + 1) m' led' ∧
        In b₀ s₀ W L m' ((I, aRI (a + ((i + 1 : Nat) : Int) * c) ((n : Int) - ((i + 1 : Nat) : Int)) c) :: led') s₃) E' s₂) E' s₁)
    (done : ∀ m led s', J n m led → In b₀ s₀ W L m led s' → R (.ok .next) s') (hT : ∀ v, letOwnedTupleGo target (.ref I) v = pure () := by intro _; rfl) :
    codeAny (model prog w) A (.forLoop target (.ref I) body [] env) R s := by
  refine codeAny_forLoop_any (fun k s' => ∃ i m led, i ≤ n ∧ k = n - i ∧ J i m led ∧ In b₀ s₀ W L m ((I, aRI (a + (i : Int) * c) ((n : Int) - (i : Int)) c) :: led) s') ?_ n ⟨0, m, led, Nat.zero_le _, rfl, h0, by simpa using I0⟩
  rintro k s' ⟨i, m, led, hi, rfl, hJ, J₀⟩
  obtain ⟨o, ho, hP⟩ := J₀.head
  subst hP
  have hit : IsRangeIter s'.heap I (a + (i : Int) * c) ((n : Int) - (i : Int)) c := ho
  by_cases hlt : i < n
  · refine wpAny_pyNext_range_item hit (by omega) fun h₁ hit₁ hs₁ => ?_
    dsimp only
    refine wpAny_of_eq (hT _) ?_
    have e1 : a + ((i + 1 : Nat) : Int) * c = a + (i : Int) * c + c := by push_cast; rw [Int.add_mul, Int.one_mul, Int.add_assoc]
    have e2 : (n : Int) - ((i + 1 : Nat) : Int) = (n : Int) - (i : Int) - 1 := by push_cast; omega
    refine wpAny_mono (step i _ m led _ _ hlt hJ ?_) (fun _ s₂ h₂ => wpAny_mono h₂ (fun f s₃ h₃ => ?_) fun _ _ x => x) fun _ _ x => x
    · rw [e1, e2]
      exact J₀.change (.inr hI) hs₁ ⟨_, hit₁, rfl⟩
    · obtain ⟨rfl, m', led', hJ', J₃⟩ := h₃
      exact ⟨n - (i + 1), by omega, i + 1, m', led', hlt, rfl, hJ', J₃⟩
  · have : i = n := by omega
    subst this
    refine wpAny_pyNext_range_end hh hit (by omega) fun h₁ he₁ => ?_
    dsimp only
    refine wpAny_execs_nil (done m led _ hJ ?_)
    have hn := List.nodup_cons.mp J₀.apart
    have hnI := J₀.new _ (List.Mem.head _)
    refine ⟨?_, fun b o hb hL e => he₁ b o (by rintro rfl; rw [hI] at e; cases e) (J₀.keep b o hb hL e), fun b o e => he₁ b o (by rintro rfl; rw [hnI.1] at e; cases e) (J₀.base b o e), (fun b o e => let ⟨o', e'⟩ := J₀.live b o e; ⟨o', he₁ b o' (by rintro rfl; rw [hI] at e; cases e) e'⟩), J₀.ns.at' fun o e => he₁ _ o (Ne.symm hnI.2) e, fun p hp => ?_, fun p hp => J₀.new p (.tail _ hp), hn.2, J₀.newL⟩
    · obtain ⟨h, tk, rfl⟩ := J₀.same; exact ⟨h₁, tk, rfl⟩
    · obtain ⟨o, ho, hp'⟩ := J₀.own p (.tail _ hp)
      exact ⟨o, he₁ _ o (fun e => hn.1 (e ▸ (List.mem_map_of_mem (f := (·.1)) hp))) ho, hp'⟩
end
end Mine
end
section
open PySem PySem.W PyProof.Rows PySem.Calls
set_option maxRecDepth 100000
set_option maxHeartbeats 4000000
set_option linter.unusedVariables false
namespace Mine
section
variable {prog : Program} {w : World} {A : Around} {E : Value → Shared → Prop} {s : Shared}

theorem wp_rangeFields {r : Addr} {a b c : Int} {t u v : Tok} {Q : Int × Int × Int → Shared → Prop} (hr : IsRange s.heap r a b c t u v) (h : Q (a, b, c) s) : wpAny (model prog w) A (Builtin.Range.rangeFields (.ref r)) Q E s := by
  unfold Builtin.Range.rangeFields
  refine wpAny_bind (wpAny_field hr rfl (x := .int a t) rfl ?_)
  simp only [asInt?, pure_bind]
  refine wpAny_bind (wpAny_field hr rfl (x := .int b u) rfl ?_)
  simp only [pure_bind]
  refine wpAny_bind (wpAny_field hr rfl (x := .int c v) rfl ?_)
  simp only [pure_bind]
  exact wpAny_pure h
theorem rangeSize_up {n : Nat} : Builtin.Range.rangeSize 0 (n : Int) 1 = (n : Int) := by rw [rangeSize_one]; split <;> omega

theorem sub_ri_reversed : isSubtype (.type "range_iterator") (.type "reversed") = pure false := by rw [isSubtype_type]; kernel_rfl

theorem call_range_reversed {r : Addr} {n : Nat} {t u v : Tok} {Q : Value → Shared → Prop} (hr : IsRange s.heap r 0 n 1 t u v) (hn : n < 1000)
    (h : Q (.ref s.heap.objs.size) { s with heap := s.heap.push { cls := .type "range_iterator", data := .fields #[rawInt ((n : Int) - 1), rawInt n, rawInt (-1)] } }) : wpAny (model prog w) A (call (.builtin "range.__reversed__") [.ref r]) Q E s := by
  have hT : s.TypeIs (.ref r) "range" := ⟨_, hr, rfl⟩
  refine wpAny_call_entry F.slot_range_reversed hT F.entry_range_reversed ?_ (F.args_range_reversed_1 _)
  unfold Builtin.«range.__reversed__»
  refine wpAny_bind (wpAny_of_eq (a := Value.ref r) rfl ?_)
  refine wpAny_bind (wp_rangeFields hr ?_)
  dsimp only
  rw [rangeSize_up]
  have hs : (Builtin.Range.rangeFitsLong 0 && Builtin.Range.rangeFitsLong (n : Int) && Builtin.Range.rangeFitsLong 1 && Builtin.Range.rangeFitsLong (-1) && Builtin.Range.rangeFitsLong (0 - 1) && Builtin.Range.rangeFitsLong (n : Int)) = true := by
    have : Builtin.Range.rangeFitsLong (n : Int) = true := by
      unfold Builtin.Range.rangeFitsLong
      simp only [Bool.and_eq_true, decide_eq_true_eq]
      omega
    rw [this]; rfl
  rw [hs]
  simp only [Bool.not_true, Bool.false_eq_true, if_false, if_true]
  refine wpAny_bind (wpAny_newObj_type (wpAny_pure ⟨_, rfl, ?_⟩))
  have e : (0 : Int) + ((n : Int) - 1) * 1 = (n : Int) - 1 := by omega
  rw [e]
  exact h

theorem code_reversed_range {r : Addr} {n : Nat} {t u v : Tok} {Q₁ : Value → Shared → Prop} (hr : IsRange s.heap r 0 n 1 t u v) (hn : n < 1000)
    (h : Q₁ (.ref s.heap.objs.size) { s with heap := s.heap.push { cls := .type "range_iterator", data := .fields #[rawInt ((n : Int) - 1), rawInt n, rawInt (-1)] } }) :
    codeAny (model prog w) A (.call (.builtin "reversed.__new__") ⟨[.type "reversed", .ref r], []⟩) (wants Q₁ E) s := by
  have hT : s.TypeIs (.ref r) "range" := ⟨_, hr, rfl⟩
  refine codeAny_call_builtin F.plain_reversed_new F.entry_reversed_new ?_
  refine wpAny_of_eq (F.newCall_reversed_1 _) ?_
  unfold Builtin.«reversed.__new__»
  refine wpAny_bind (wpAny_of_eq (newClass_reversed _) ?_)
  try dsimp only
  refine wpAny_bind (wpAny_of_eq (a := ()) (by first | rfl | kernel_rfl) ?_)
  refine wpAny_bind (wpAny_of_eq (a := ()) (by first | rfl | kernel_rfl) ?_)
  try dsimp only
  refine wpAny_bind (wpAny_specialOf hT F.slot_range_reversed.lookup ?_)
  try dsimp only
  refine wpAny_bind (wpAny_of_eq (F.slot_range_reversed.bind _) ?_)
  try dsimp only
  rw [if_neg (show ¬ ((Value.builtin "range.__reversed__" == Value.none) = true) from Bool.false_ne_true)]
  refine wpAny_bind (wpAny_rule ?_)
  refine wpAny_bind (m := runValue (.call (.builtin "range.__reversed__") ⟨[.ref r], []⟩)) (show wpAny _ _ (call (.builtin "range.__reversed__") [.ref r]) _ _ _ from call_range_reversed hr hn ?_)
  first
  | exact wpAny_pure h
  | exact wpAny_bind (wpAny_pure (wpAny_pure h))

theorem call_reversed_range {r : Addr} {n : Nat} {t u v : Tok} {Q : Value → Shared → Prop} (hr : IsRange s.heap r 0 n 1 t u v) (hn : n < 1000)
    (h : Q (.ref s.heap.objs.size) { s with heap := s.heap.push { cls := .type "range_iterator", data := .fields #[rawInt ((n : Int) - 1), rawInt n, rawInt (-1)] } }) : wpAny (model prog w) A (call (.type "reversed") [.ref r]) Q E s := by
  refine callType_other (U := "range_iterator") (Q₁ := fun obj s₁ => obj = .ref s.heap.objs.size ∧ s₁ = { s with heap := s.heap.push { cls := .type "range_iterator", data := .fields #[rawInt ((n : Int) - 1), rawInt n, rawInt (-1)] } }) (by decide +kernel) F.create_reversed ⟨_, _, F.mro_reversed⟩ F.made_reversed sub_ri_reversed (F.typeCall_reversed_1 _) (code_reversed_range hr hn ⟨rfl, rfl⟩) ?_
  rintro obj s₁ ⟨rfl, rfl⟩
  exact ⟨⟨_, Heap.get?_push_size _ rfl, rfl⟩, h⟩
end
end Mine
end
section
open PySem PySem.W PyProof.Rows PySem.Calls
set_option maxRecDepth 100000
set_option maxHeartbeats 4000000
set_option linter.unusedVariables false
namespace Mine
section
variable {β : Type} {lt : β → β → Bool} {new : β} {sp : Nat}
theorem sdF_length : ∀ (n : Nat) (z : List β) (pos : Nat), (sdF lt new sp n z pos).length = z.length
  | 0, z, pos => by simp [sdF]
  | n + 1, z, pos => by
    unfold sdF
    split
    · split
      · split
        · rw [sdF_length n]; simp
        · simp
      · simp
    · simp
theorem sdF_mem : ∀ (n : Nat) (z : List β) (pos : Nat) (q : β), q ∈ sdF lt new sp n z pos → q ∈ z ∨ q = new
  | 0, z, pos, q, h => mem_set (by simpa [sdF] using h)
  | n + 1, z, pos, q, h => by
    unfold sdF at h
    split at h
    · split at h
      · rename_i par hpar
        split at h
        · rcases sdF_mem n _ _ q h with h | h
          · rcases mem_set h with h | h
            · exact .inl h
            · rw [h]; exact .inl (List.mem_of_getElem? hpar)
          · exact .inr h
        · exact mem_set h
      · exact mem_set h
    · exact mem_set h
theorem suF_length : ∀ (n : Nat) (z : List β) (pos : Nat), (suF lt new sp n z pos).length = z.length
  | 0, z, pos => by simp [suF]
  | n + 1, z, pos => by
    unfold suF
    split
    · split
      · rfl
      · split
        · split
          · rw [suF_length n]; simp
          · rw [suF_length n]; simp
        · rw [suF_length n]; simp
    · rw [sdF_length]; simp
theorem suF_mem : ∀ (n : Nat) (z : List β) (pos : Nat) (q : β), q ∈ suF lt new sp n z pos → q ∈ z ∨ q = new
  | 0, z, pos, q, h => .inl (by simpa [suF] using h)
  | n + 1, z, pos, q, h => by
    unfold suF at h
    have via : ∀ (x : β) (c : Nat), x ∈ z → q ∈ suF lt new sp n (z.set pos x) c → q ∈ z ∨ q = new := fun x c hx h => by
      rcases suF_mem n _ _ q h with h | h
      · rcases mem_set h with h | h
        · exact .inl h
        · rw [h]; exact .inl hx
      · exact .inr h
    split at h
    · split at h
      · exact .inl h
      · rename_i a ha
        split at h
        · rename_i b hb
          split at h
          · exact via a _ (List.mem_of_getElem? ha) h
          · exact via b _ (List.mem_of_getElem? hb) h
        · exact via a _ (List.mem_of_getElem? ha) h
    · rcases sdF_mem _ _ _ q h with h | h
      · exact mem_set h
      · exact .inr h
end
/-- heapify, plain -/
def hfF {β : Type} (lt : β → β → Bool) : Nat → List β → List β
  | 0, z => z
  | k + 1, z => match z[k]? with
    | some x => hfF lt k (suF lt x k z.length z k)
    | none => z
/-- what is left when the first is taken off, plain -/
def popF {β : Type} (lt : β → β → Bool) (z : List β) : Option (β × List β) := match z.getLast? with
  | none => none
  | some last => match z.dropLast with
    | [] => some (last, [])
    | a :: r => some (a, suF lt last 0 (r.length + 1) (last :: r) 0)

/-- the method pop of a list of one's own -/
theorem In.pop {w : World} {A : Around} {E : Value → Shared → Prop} {s : Shared} {env : Env} {b₀ : Heap} {s₀ : Shared} {W : List Addr} {L D : Addr} {m : Str → Option Value} {led : Ledger} {vs : List Value} {y : Value} {o : PySem.Expr} {apos pos : Pos} {Q : Value → Shared → Prop}
    (I : In b₀ s₀ W L m ((D, aL (vs ++ [y])) :: led) s) (ho : PVal PG w A env s o (.ref D)) (hW : D ∈ W ∨ s₀.heap.get? D = none) (hlen : vs.length < 1000)
    (h : ∀ s', In b₀ s₀ W L m ((D, aL vs) :: led) s' → Q y s')
    (hbase : attributeBase o "pop" env (eval o env) = eval o env := by rfl) (hline : (apos.endLine == pos.line) = true := by rfl) :
    wpAny (model PG w) A (eval (.Call (.Attribute o "pop" apos) [] [] pos) env) Q E s := by
  refine wpAny_Call_method (T := "list") (id := "list.pop") hbase rfl hline F.plainAttrs_list F.slot_list_pop F.type_list_pop (ho.use ?_)
  rintro _ tk rfl
  obtain ⟨ob, hob, n, rfl⟩ := I.head
  refine ⟨⟨_, hob, rfl⟩, fun a e => by cases e; exact ⟨_, hob, rfl⟩, ?_⟩
  have I' := I.tok tk
  have hz : (vs ++ [y]).toArray.size ≤ sizeLine := by
    rw [List.size_toArray, List.length_append]
    have : (1001 : Nat) ≤ sizeLine := by decide
    simp only [List.length_cons, List.length_nil]
    omega
  have hk : (vs ++ [y]).toArray.size - 1 = vs.length := by rw [List.size_toArray, List.length_append]; rfl
  refine PySem.P.pop_list (s := { s with toks := tk }) (l := D) (items := (vs ++ [y]).toArray) (n := n) (y := y) hob (by rw [hk]; simp) (h _ (I'.change hW (Heap.SameBut.update ..) ⟨_, Heap.get?_update_self _ hob rfl, n + 1, ?_⟩)) hz
  have he : (vs ++ [y]).eraseIdx vs.length = vs := by rw [List.eraseIdx_append_of_length_le (Nat.le_refl _)]; simp
  simp [Obj.mapSeq, PySem.W.listOf, he]

theorem heapify_ok {w : World} {A : Around} {E : Value → Shared → Prop} {s : Shared} {b₀ : Heap} (hB : Bs w b₀) (R : Rm 3 A) (hb : Kept b₀ s) {l : Addr} {z : Zs}
    (hl0 : b₀.get? l = none) (hl : ∃ o, s.heap.get? l = some o ∧ aL (vals z) o) (hz : AllPairs s.heap z) (hlen : z.length < 1000) :
    wpAny (model PG w) A (call (.ref 28) [.ref l]) (fun v s' => v = .none ∧ Ext b₀ [l] s s' ∧ ∃ o, s'.heap.get? l = some o ∧ aL (vals (hfF ltZ (z.length / 2) z)) o) E s := by
  refine call_at hB R hb rfl rfl rfl rfl (fun E' s₁ I => ?_) rfl rfl rfl
  have R' : Rm 2 (A.deeper (callEnv (dataAt w.params 28) s.heap.objs.size 28)) := R.deeper _
  have hLn : s.heap.get? s.heap.objs.size = none := none_of_size (Nat.le_refl _)
  have hlL : l ≠ s.heap.objs.size := by rintro rfl; obtain ⟨o, ho, _⟩ := hl; rw [hLn] at ho; cases ho
  have I₁ := I.take hl (by simp) hlL hl0 (by simp)
  have hvl : (vals z).length = z.length := by simp [vals]
  refine wpAny_execs_cons (I₁.assign (P := fun v => ∃ t, v = .int ((vals z).length : Int) t) (PEv.lenL (.builtin hB I₁.base) (.local I₁.ns rfl) I₁.isList (by rw [hvl]; omega)) ?_)
  rintro _ s₂ ⟨te, rfl⟩ I₂
  dsimp only
  rw [hvl] at I₂
  refine wpAny_execs_cons (wpAny_For ?_)
  refine call_t1 (T := "reversed") (.builtin hB I₂.base) fun tk => ?_
  have I₃ := I₂.tok tk
  refine call_t1 (T := "range") (.builtin hB I₃.base) fun tk' => ?_
  have I₄ := I₃.tok tk'
  refine PEv.use (PEv.fdiv (.localI (x := "n") (i := (z.length : Int)) I₄.ns rfl) .const (by decide) (by decide)) ?_
  rintro _ tk2 ⟨t3, rfl⟩
  have hdiv : Int.fdiv (z.length : Int) 2 = ((z.length / 2 : Nat) : Int) := by rw [Int.fdiv_eq_ediv_of_nonneg _ (by decide)]; omega
  rw [hdiv]
  refine call_range_1 ?_
  obtain ⟨I₅, hr5⟩ := (I₄.tok tk2).push { cls := .type "range", data := .fields #[.int 0 tk2, .int ((z.length / 2 : Nat) : Int) t3, .int 1 (tk2 + 1)] } (fun _ => True) rfl trivial
  have I₆ := I₅.tok (tk2 + 1 + 1)
  refine call_reversed_range (n := z.length / 2) (IsRange.new _ _ _ _ _ _ _) (by omega) ?_
  obtain ⟨I₇, hr7⟩ := (I₆.tail).push { cls := .type "range_iterator", data := .fields #[rawInt (((z.length / 2 : Nat) : Int) - 1), rawInt ((z.length / 2 : Nat) : Int), rawInt (-1)] } (aRI (((z.length / 2 : Nat) : Int) - 1) ((z.length / 2 : Nat) : Int) (-1)) rfl rfl
  refine wpAny_pyIter_rangeiter (x := ((z.length / 2 : Nat) : Int) - 1) (left := ((z.length / 2 : Nat) : Int)) (step := -1) (Heap.get?_push_size _ rfl) ?_
  refine for_rng (fun i m led => ∃ z' : Zs, led = [(l, aL (vals z'))] ∧ m "x" = some (.ref l) ∧ (∀ q ∈ z', q ∈ z) ∧ z'.length = z.length ∧ hfF ltZ (z.length / 2 - i) z' = hfF ltZ (z.length / 2) z) R'.handled I₇ hr7 ⟨z, rfl, rfl, fun _ h => h, rfl, rfl⟩ ?_ ?_
  · rintro i t m led s' E'' hi ⟨z', rfl, e1, hsub, hl', hR⟩ J
    refine wpAny_assign_Name (J.store fun s'' J₁ => ?_)
    have hidx : ((z.length / 2 : Nat) : Int) - 1 + (i : Int) * (-1) = ((z.length / 2 - 1 - i : Nat) : Int) := by omega
    rw [hidx] at J₁
    have hk : z.length / 2 - i = (z.length / 2 - 1 - i) + 1 := by omega
    have hkl : z.length / 2 - 1 - i < z'.length := by omega
    obtain ⟨x, hx⟩ : ∃ x, z'[z.length / 2 - 1 - i]? = some x := ⟨z'[z.length / 2 - 1 - i], by simp [hkl]⟩
    rw [hk, hfF, hx] at hR
    dsimp only at hR
    have J₂ := J₁.swap
    have hz₂ : AllPairs s''.heap z := hz.stay hl hLn J₂
    refine wpAny_execs_cons (wpAny_Expr ?_)
    refine call_f2 hB rfl (.global hB J₂.base) fun tk1 => ?_
    have J₃ := J₂.tok tk1
    refine (PEv.local (x := "x") (v := .ref l) J₃.ns e1).use ?_
    rintro _ tk2 rfl
    refine (PEv.localI (x := "i") (i := ((z.length / 2 - 1 - i : Nat) : Int)) J₃.ns rfl) _ _ _ ?_
    rintro _ tk3 ⟨t3, rfl⟩
    have J₄ := J₃.tok tk3
    refine ⟨J₄.base, ?_⟩
    refine wpAny_mono (siftup_ok (z := z') hB R' J₄.base hl0 J₄.head (fun q hq => hz₂ _ (hsub _ hq)) (by omega) hx) (fun v s₇ h => ?_) (fun _ _ h => h)
    obtain ⟨rfl, hE, ho⟩ := h
    dsimp only
    refine wpAny_execs_nil ⟨rfl, _, _, ⟨suF ltZ x (z.length / 2 - 1 - i) z'.length z' (z.length / 2 - 1 - i), rfl, by exact e1, fun q hq => ?_, by rw [suF_length]; exact hl', ?_⟩, (J₄.ext1 (.inl (by simp)) hE ho).swap⟩
    · rcases suF_mem _ _ _ q hq with h | h
      · exact hsub _ h
      · rw [h]; exact hsub _ (List.mem_of_getElem? hx)
    · rw [← hR]
      have : z.length / 2 - (i + 1) = z.length / 2 - 1 - i := by omega
      rw [this]
  · rintro m led s' ⟨z', rfl, e1, hsub, hl', hR⟩ J
    dsimp only
    refine wpAny_execs_nil ⟨rfl, J.exit hLn, ?_⟩
    rw [← hR]
    simpa [hfF] using J.head

theorem heapifyM_ok {w : World} {A : Around} {E : Value → Shared → Prop} {s : Shared} {b₀ : Heap} (hB : Bs w b₀) (R : Rm 3 A) (hb : Kept b₀ s) {l : Addr} {z : Zs}
    (hl0 : b₀.get? l = none) (hl : ∃ o, s.heap.get? l = some o ∧ aL (vals z) o) (hz : AllPairs s.heap z) (hlen : z.length < 1000) :
    wpAny (model PG w) A (call (.ref 42) [.ref l]) (fun v s' => v = .none ∧ Ext b₀ [l] s s' ∧ ∃ o, s'.heap.get? l = some o ∧ aL (vals (hfF gtZ (z.length / 2) z)) o) E s := by
  refine call_at hB R hb rfl rfl rfl rfl (fun E' s₁ I => ?_) rfl rfl rfl
  have R' : Rm 2 (A.deeper (callEnv (dataAt w.params 42) s.heap.objs.size 42)) := R.deeper _
  have hLn : s.heap.get? s.heap.objs.size = none := none_of_size (Nat.le_refl _)
  have hlL : l ≠ s.heap.objs.size := by rintro rfl; obtain ⟨o, ho, _⟩ := hl; rw [hLn] at ho; cases ho
  have I₁ := I.take hl (by simp) hlL hl0 (by simp)
  have hvl : (vals z).length = z.length := by simp [vals]
  refine wpAny_execs_cons (I₁.assign (P := fun v => ∃ t, v = .int ((vals z).length : Int) t) (PEv.lenL (.builtin hB I₁.base) (.local I₁.ns rfl) I₁.isList (by rw [hvl]; omega)) ?_)
  rintro _ s₂ ⟨te, rfl⟩ I₂
  dsimp only
  rw [hvl] at I₂
  refine wpAny_execs_cons (wpAny_For ?_)
  refine call_t1 (T := "reversed") (.builtin hB I₂.base) fun tk => ?_
  have I₃ := I₂.tok tk
  refine call_t1 (T := "range") (.builtin hB I₃.base) fun tk' => ?_
  have I₄ := I₃.tok tk'
  refine PEv.use (PEv.fdiv (.localI (x := "n") (i := (z.length : Int)) I₄.ns rfl) .const (by decide) (by decide)) ?_
  rintro _ tk2 ⟨t3, rfl⟩
  have hdiv : Int.fdiv (z.length : Int) 2 = ((z.length / 2 : Nat) : Int) := by rw [Int.fdiv_eq_ediv_of_nonneg _ (by decide)]; omega
  rw [hdiv]
  refine call_range_1 ?_
  obtain ⟨I₅, hr5⟩ := (I₄.tok tk2).push { cls := .type "range", data := .fields #[.int 0 tk2, .int ((z.length / 2 : Nat) : Int) t3, .int 1 (tk2 + 1)] } (fun _ => True) rfl trivial
  have I₆ := I₅.tok (tk2 + 1 + 1)
  refine call_reversed_range (n := z.length / 2) (IsRange.new _ _ _ _ _ _ _) (by omega) ?_
  obtain ⟨I₇, hr7⟩ := (I₆.tail).push { cls := .type "range_iterator", data := .fields #[rawInt (((z.length / 2 : Nat) : Int) - 1), rawInt ((z.length / 2 : Nat) : Int), rawInt (-1)] } (aRI (((z.length / 2 : Nat) : Int) - 1) ((z.length / 2 : Nat) : Int) (-1)) rfl rfl
  refine wpAny_pyIter_rangeiter (x := ((z.length / 2 : Nat) : Int) - 1) (left := ((z.length / 2 : Nat) : Int)) (step := -1) (Heap.get?_push_size _ rfl) ?_
  refine for_rng (fun i m led => ∃ z' : Zs, led = [(l, aL (vals z'))] ∧ m "x" = some (.ref l) ∧ (∀ q ∈ z', q ∈ z) ∧ z'.length = z.length ∧ hfF gtZ (z.length / 2 - i) z' = hfF gtZ (z.length / 2) z) R'.handled I₇ hr7 ⟨z, rfl, rfl, fun _ h => h, rfl, rfl⟩ ?_ ?_
  · rintro i t m led s' E'' hi ⟨z', rfl, e1, hsub, hl', hR⟩ J
    refine wpAny_assign_Name (J.store fun s'' J₁ => ?_)
    have hidx : ((z.length / 2 : Nat) : Int) - 1 + (i : Int) * (-1) = ((z.length / 2 - 1 - i : Nat) : Int) := by omega
    rw [hidx] at J₁
    have hk : z.length / 2 - i = (z.length / 2 - 1 - i) + 1 := by omega
    have hkl : z.length / 2 - 1 - i < z'.length := by omega
    obtain ⟨x, hx⟩ : ∃ x, z'[z.length / 2 - 1 - i]? = some x := ⟨z'[z.length / 2 - 1 - i], by simp [hkl]⟩
    rw [hk, hfF, hx] at hR
    dsimp only at hR
    have J₂ := J₁.swap
    have hz₂ : AllPairs s''.heap z := hz.stay hl hLn J₂
    refine wpAny_execs_cons (wpAny_Expr ?_)
    refine call_f2 hB rfl (.global hB J₂.base) fun tk1 => ?_
    have J₃ := J₂.tok tk1
    refine (PEv.local (x := "x") (v := .ref l) J₃.ns e1).use ?_
    rintro _ tk2 rfl
    refine (PEv.localI (x := "i") (i := ((z.length / 2 - 1 - i : Nat) : Int)) J₃.ns rfl) _ _ _ ?_
    rintro _ tk3 ⟨t3, rfl⟩
    have J₄ := J₃.tok tk3
    refine ⟨J₄.base, ?_⟩
    refine wpAny_mono (siftupM_ok (z := z') hB R' J₄.base hl0 J₄.head (fun q hq => hz₂ _ (hsub _ hq)) (by omega) hx) (fun v s₇ h => ?_) (fun _ _ h => h)
    obtain ⟨rfl, hE, ho⟩ := h
    dsimp only
    refine wpAny_execs_nil ⟨rfl, _, _, ⟨suF gtZ x (z.length / 2 - 1 - i) z'.length z' (z.length / 2 - 1 - i), rfl, by exact e1, fun q hq => ?_, by rw [suF_length]; exact hl', ?_⟩, (J₄.ext1 (.inl (by simp)) hE ho).swap⟩
    · rcases suF_mem _ _ _ q hq with h | h
      · exact hsub _ h
      · rw [h]; exact hsub _ (List.mem_of_getElem? hx)
    · rw [← hR]
      have : z.length / 2 - (i + 1) = z.length / 2 - 1 - i := by omega
      rw [this]
  · rintro m led s' ⟨z', rfl, e1, hsub, hl', hR⟩ J
    dsimp only
    refine wpAny_execs_nil ⟨rfl, J.exit hLn, ?_⟩
    rw [← hR]
    simpa [hfF] using J.head

theorem heappop_ok {w : World} {A : Around} {E : Value → Shared → Prop} {s : Shared} {b₀ : Heap} (hB : Bs w b₀) (R : Rm 3 A) (hb : Kept b₀ s) {l : Addr} {z r : Zs} {x : Value × (Int × Int)}
    (hl0 : b₀.get? l = none) (hl : ∃ o, s.heap.get? l = some o ∧ aL (vals z) o) (hz : AllPairs s.heap z) (hlen : z.length < 1000) (hp : popF ltZ z = some (x, r)) :
    wpAny (model PG w) A (call (.ref 21) [.ref l]) (fun v s' => v = x.1 ∧ Ext b₀ [l] s s' ∧ ∃ o, s'.heap.get? l = some o ∧ aL (vals r) o) E s := by
  refine call_at hB R hb rfl rfl rfl rfl (fun E' s₁ I => ?_) rfl rfl rfl
  have R' : Rm 2 (A.deeper (callEnv (dataAt w.params 21) s.heap.objs.size 21)) := R.deeper _
  have hLn : s.heap.get? s.heap.objs.size = none := none_of_size (Nat.le_refl _)
  have hlL : l ≠ s.heap.objs.size := by rintro rfl; obtain ⟨o, ho, _⟩ := hl; rw [hLn] at ho; cases ho
  have I₁ := I.take hl (by simp) hlL hl0 (by simp)
  unfold popF at hp
  split at hp
  · cases hp
  rename_i last hlast
  have hzl : z = z.dropLast ++ [last] := by
    have hne : z ≠ [] := by rintro rfl; cases hlast
    rw [List.getLast?_eq_some_getLast hne] at hlast
    cases hlast
    exact (List.dropLast_concat_getLast hne).symm
  have hlm : last ∈ z := by rw [hzl]; simp
  have hsub : ∀ q ∈ z.dropLast, q ∈ z := fun q hq => List.dropLast_subset _ hq
  have hvz : vals z = vals z.dropLast ++ [last.1] := by
    rw [hzl]; simp [vals]
  have hdl : z.dropLast.length = z.length - 1 := by simp
  rw [hvz] at I₁
  refine wpAny_execs_cons (wpAny_Assign_Name (I₁.pop (.local I₁.ns rfl) (.inl (by simp)) (by simp [vals]; omega) fun s₂ I₂ => I₂.store fun s₃ I₃ => ?_))
  dsimp only
  refine wpAny_execs_cons (wpAny_If ?_)
  have hlen' : (vals z.dropLast).length < 1000 := by simp [vals]; omega
  refine PyProof.Rows.isTrue_plain (PEv.use (.local (x := "heap") (v := .ref l) I₃.ns rfl) ?_)
  rintro _ tk rfl
  have I₄ := I₃.tok tk
  refine wpAny_truthy_list (s := { s₃ with toks := tk }) I₄.isList (by rw [List.size_toArray]; omega) ?_
  have I₅ := I₄.tok (tk + 1 + 1)
  split at hp
  · rename_i he
    cases hp
    rw [he] at I₅ ⊢
    simp only [vals, List.map_nil, List.isEmpty_toArray, List.isEmpty_nil, Bool.not_true, Bool.false_eq_true, if_false]
    refine wpAny_execs_nil ?_
    dsimp only
    refine wpAny_execs_cons (wpAny_Return_some (PEv.use (.local (x := "lastelt") (v := x.1) I₅.ns rfl) ?_))
    rintro _ tk' rfl
    exact ⟨rfl, (I₅.tok tk').exit hLn, (I₅.tok tk').head⟩
  · rename_i a r' he
    cases hp
    have hrl : z.length = r'.length + 2 := by
      have := congrArg List.length he
      simp at this
      omega
    have ham : x ∈ z := hsub _ (by rw [he]; simp)
    have hrm : ∀ q ∈ r', q ∈ z := fun q hq => hsub _ (by rw [he]; simp [hq])
    rw [he] at I₅ ⊢
    have hemp : (!(vals (x :: r')).toArray.isEmpty) = true := by simp [vals]
    rw [hemp]
    simp only [if_true]
    refine wpAny_execs_cons (I₅.assign (P := fun v => v = x.1) (PEv.item (D := l) (vs := vals (x :: r')) (i := 0) (.local I₅.ns rfl) .const I₅.isList (by decide) rfl (by decide)) ?_)
    rintro _ s₆ rfl I₆
    dsimp only
    refine wpAny_execs_cons (I₆.assignItem (v := last.1) (i := 0) (.local (x := "lastelt") I₆.ns rfl) (.local (x := "heap") I₆.ns rfl) .const (.inl (by simp)) (by decide) (by simp [vals]) (by decide) ?_)
    intro s₇ I₇
    dsimp only
    have e : (vals (x :: r')).set (0 : Int).toNat last.1 = vals (last :: r') := by rfl
    rw [e] at I₇
    have hz₇ : AllPairs s₇.heap z := hz.stay hl hLn I₇
    refine wpAny_execs_cons (wpAny_Expr ?_)
    refine call_f2 hB rfl (.global hB I₇.base) fun tk1 => ?_
    have J₃ := I₇.tok tk1
    refine (PEv.local (x := "heap") (v := .ref l) J₃.ns rfl).use ?_
    rintro _ tk2 rfl
    refine PEv.const _ _ _ ?_
    rintro _ tk3 ⟨t3, rfl⟩
    have J₄ := J₃.tok tk3
    refine ⟨J₄.base, ?_⟩
    refine wpAny_mono (siftup_ok (z := last :: r') (pos := 0) hB R' J₄.base hl0 J₄.head (fun q hq => ?_) (by simp; omega) rfl) (fun v s₈ h => ?_) (fun _ _ h => h)
    · rcases List.mem_cons.mp hq with h | h
      · rw [h]; exact hz₇ _ hlm
      · exact hz₇ _ (hrm _ h)
    · obtain ⟨rfl, hE, ho⟩ := h
      dsimp only
      have J₅ := J₄.ext1 (.inl (by simp)) hE ho
      refine wpAny_execs_cons (wpAny_Return_some (PEv.use (.local (x := "returnitem") (v := x.1) J₅.ns rfl) ?_))
      rintro _ tk' rfl
      exact ⟨rfl, (J₅.tok tk').exit hLn, (J₅.tok tk').head⟩

theorem heappopM_ok {w : World} {A : Around} {E : Value → Shared → Prop} {s : Shared} {b₀ : Heap} (hB : Bs w b₀) (R : Rm 3 A) (hb : Kept b₀ s) {l : Addr} {z r : Zs} {x : Value × (Int × Int)}
    (hl0 : b₀.get? l = none) (hl : ∃ o, s.heap.get? l = some o ∧ aL (vals z) o) (hz : AllPairs s.heap z) (hlen : z.length < 1000) (hp : popF gtZ z = some (x, r)) :
    wpAny (model PG w) A (call (.ref 35) [.ref l]) (fun v s' => v = x.1 ∧ Ext b₀ [l] s s' ∧ ∃ o, s'.heap.get? l = some o ∧ aL (vals r) o) E s := by
  refine call_at hB R hb rfl rfl rfl rfl (fun E' s₁ I => ?_) rfl rfl rfl
  have R' : Rm 2 (A.deeper (callEnv (dataAt w.params 35) s.heap.objs.size 35)) := R.deeper _
  have hLn : s.heap.get? s.heap.objs.size = none := none_of_size (Nat.le_refl _)
  have hlL : l ≠ s.heap.objs.size := by rintro rfl; obtain ⟨o, ho, _⟩ := hl; rw [hLn] at ho; cases ho
  have I₁ := I.take hl (by simp) hlL hl0 (by simp)
  unfold popF at hp
  split at hp
  · cases hp
  rename_i last hlast
  have hzl : z = z.dropLast ++ [last] := by
    have hne : z ≠ [] := by rintro rfl; cases hlast
    rw [List.getLast?_eq_some_getLast hne] at hlast
    cases hlast
    exact (List.dropLast_concat_getLast hne).symm
  have hlm : last ∈ z := by rw [hzl]; simp
  have hsub : ∀ q ∈ z.dropLast, q ∈ z := fun q hq => List.dropLast_subset _ hq
  have hvz : vals z = vals z.dropLast ++ [last.1] := by
    rw [hzl]; simp [vals]
  have hdl : z.dropLast.length = z.length - 1 := by simp
  rw [hvz] at I₁
  refine wpAny_execs_cons (wpAny_Assign_Name (I₁.pop (.local I₁.ns rfl) (.inl (by simp)) (by simp [vals]; omega) fun s₂ I₂ => I₂.store fun s₃ I₃ => ?_))
  dsimp only
  refine wpAny_execs_cons (wpAny_If ?_)
  have hlen' : (vals z.dropLast).length < 1000 := by simp [vals]; omega
  refine PyProof.Rows.isTrue_plain (PEv.use (.local (x := "heap") (v := .ref l) I₃.ns rfl) ?_)
  rintro _ tk rfl
  have I₄ := I₃.tok tk
  refine wpAny_truthy_list (s := { s₃ with toks := tk }) I₄.isList (by rw [List.size_toArray]; omega) ?_
  have I₅ := I₄.tok (tk + 1 + 1)
  split at hp
  · rename_i he
    cases hp
    rw [he] at I₅ ⊢
    simp only [vals, List.map_nil, List.isEmpty_toArray, List.isEmpty_nil, Bool.not_true, Bool.false_eq_true, if_false]
    refine wpAny_execs_nil ?_
    dsimp only
    refine wpAny_execs_cons (wpAny_Return_some (PEv.use (.local (x := "lastelt") (v := x.1) I₅.ns rfl) ?_))
    rintro _ tk' rfl
    exact ⟨rfl, (I₅.tok tk').exit hLn, (I₅.tok tk').head⟩
  · rename_i a r' he
    cases hp
    have hrl : z.length = r'.length + 2 := by
      have := congrArg List.length he
      simp at this
      omega
    have ham : x ∈ z := hsub _ (by rw [he]; simp)
    have hrm : ∀ q ∈ r', q ∈ z := fun q hq => hsub _ (by rw [he]; simp [hq])
    rw [he] at I₅ ⊢
    have hemp : (!(vals (x :: r')).toArray.isEmpty) = true := by simp [vals]
    rw [hemp]
    simp only [if_true]
    refine wpAny_execs_cons (I₅.assign (P := fun v => v = x.1) (PEv.item (D := l) (vs := vals (x :: r')) (i := 0) (.local I₅.ns rfl) .const I₅.isList (by decide) rfl (by decide)) ?_)
    rintro _ s₆ rfl I₆
    dsimp only
    refine wpAny_execs_cons (I₆.assignItem (v := last.1) (i := 0) (.local (x := "lastelt") I₆.ns rfl) (.local (x := "heap") I₆.ns rfl) .const (.inl (by simp)) (by decide) (by simp [vals]) (by decide) ?_)
    intro s₇ I₇
    dsimp only
    have e : (vals (x :: r')).set (0 : Int).toNat last.1 = vals (last :: r') := by rfl
    rw [e] at I₇
    have hz₇ : AllPairs s₇.heap z := hz.stay hl hLn I₇
    refine wpAny_execs_cons (wpAny_Expr ?_)
    refine call_f2 hB rfl (.global hB I₇.base) fun tk1 => ?_
    have J₃ := I₇.tok tk1
    refine (PEv.local (x := "heap") (v := .ref l) J₃.ns rfl).use ?_
    rintro _ tk2 rfl
    refine PEv.const _ _ _ ?_
    rintro _ tk3 ⟨t3, rfl⟩
    have J₄ := J₃.tok tk3
    refine ⟨J₄.base, ?_⟩
    refine wpAny_mono (siftupM_ok (z := last :: r') (pos := 0) hB R' J₄.base hl0 J₄.head (fun q hq => ?_) (by simp; omega) rfl) (fun v s₈ h => ?_) (fun _ _ h => h)
    · rcases List.mem_cons.mp hq with h | h
      · rw [h]; exact hz₇ _ hlm
      · exact hz₇ _ (hrm _ h)
    · obtain ⟨rfl, hE, ho⟩ := h
      dsimp only
      have J₅ := J₄.ext1 (.inl (by simp)) hE ho
      refine wpAny_execs_cons (wpAny_Return_some (PEv.use (.local (x := "returnitem") (v := x.1) J₅.ns rfl) ?_))
      rintro _ tk' rfl
      exact ⟨rfl, (J₅.tok tk').exit hLn, (J₅.tok tk').head⟩
end Mine
end
section
open PySem PySem.W PyProof.Rows PySem.Calls
open Sem (wp)
set_option maxRecDepth 100000
set_option maxHeartbeats 4000000
set_option linter.unusedVariables false
namespace Mine
/-! ## contexts in which nothing holds a bytearray: the built-in bytearray.__init__ looks at the whole stack of calls, so wpAny (every context) is too much for it -/
def holdIds : List String := ["bytearray.__contains__", "bytearray.__mod__", "bytearray.__rmod__", "_struct.pack_into.held", "bytearray.find.held"] ++ Builtin.Bytes.decodersThatHold
def okC : Code → Bool
  | .builtin id _ => !holdIds.contains id
  | _ => true
def Clean (Γ : Ctx) : Prop := okC Γ.code = true ∧ ∀ x ∈ Γ.below, okC x.1 = true
def wpC {α : Type} (M : Model) (A : Around) (t : Sem α) (Q : α → Shared → Prop) (E : Value → Shared → Prop) (s : Shared) : Prop :=
  ∀ Γ p, Γ.In A → Clean Γ → wp M Γ t (fun a _ s' => Q a s') (fun e _ s' => E e s') p s
def codeC (M : Model) (A : Around) (c : Code) (R : Result → Shared → Prop) (s : Shared) : Prop :=
  ∀ Γ p, Γ.code = c → Γ.Below A → Clean Γ → wpCode M Γ R p s

theorem Clean.enter {Γ : Ctx} (h : Clean Γ) {c : Code} (hc : okC c = true) (hd : Option Value) (p : Pos) : Clean (Γ.enter c hd p) := by
  refine ⟨hc, fun x hx => ?_⟩
  rcases List.mem_cons.mp (show x ∈ (Γ.code, p) :: Γ.below from hx) with rfl | hx
  · exact h.1
  · exact h.2 x hx
theorem Clean.goto {Γ : Ctx} (h : Clean Γ) {c : Code} (hc : okC c = true) : Clean (Γ.goto c) := ⟨hc, h.2⟩

section
variable {α β : Type} {M : Model} {A : Around} {E : Value → Shared → Prop} {s : Shared}
theorem wpC_any {t : Sem α} {Q : α → Shared → Prop} (h : wpAny M A t Q E s) : wpC M A t Q E s := fun Γ p hΓ _ => h Γ p hΓ
theorem wpC_mono {t : Sem α} {Q Q' : α → Shared → Prop} {E' : Value → Shared → Prop} (h : wpC M A t Q E s) (hQ : ∀ a s, Q a s → Q' a s) (hE : ∀ e s, E e s → E' e s) : wpC M A t Q' E' s :=
  fun Γ p hΓ hc => Sem.wp_mono M Γ t (fun a _ s => hQ a s) (fun e _ s => hE e s) p s (h Γ p hΓ hc)
theorem wpC_pure {a : α} {Q : α → Shared → Prop} (h : Q a s) : wpC M A (pure a) Q E s := fun _ _ _ _ => h
theorem wpC_bind {m : Sem α} {f : α → Sem β} {Q : β → Shared → Prop} (h : wpC M A m (fun a s' => wpC M A (f a) Q E s') E s) : wpC M A (m >>= f) Q E s := fun Γ p hΓ hc => by
  rw [Sem.wp_bind']
  exact Sem.wp_mono M Γ m (fun a p' s' h' => h' Γ p' hΓ hc) (fun _ _ _ h' => h') p s (h Γ p hΓ hc)
/-- a first part that holds in every context -/
theorem wpC_first {m : Sem α} {f : α → Sem β} {Q : β → Shared → Prop} (h : wpAny M A m (fun a s' => wpC M A (f a) Q E s') E s) : wpC M A (m >>= f) Q E s := wpC_bind (wpC_any h)
theorem wpC_holding {vs : List Value} {m : Sem α} {Q : α → Shared → Prop} (h : wpC M A m Q E s) : wpC M A (holding vs m) Q E s := fun Γ p hΓ hc => by rw [Sem.wp_holding]; exact h Γ p hΓ hc
theorem wpC_keep {vs : List Value} {m : Sem α} {Q : α → Shared → Prop} (h : wpC M A m Q E s) : wpC M A (m.keep vs) Q E s := fun Γ p hΓ hc => by rw [Sem.wp_keep]; exact h Γ p hΓ hc
theorem wpC_onRaise {m : Sem α} {k : Value → Sem Unit} {Q : α → Shared → Prop} (h : wpC M A m Q (fun e s' => wpC M A (k e) (fun _ s'' => E e s'') E s') s) : wpC M A (m.onRaise k) Q E s := fun Γ p hΓ hc => by
  rw [Sem.wp_onRaise]
  exact Sem.wp_mono M Γ m (fun _ _ _ h' => h') (fun e p' s' h' => h' Γ p' hΓ hc) p s (h Γ p hΓ hc)
theorem wpC_standAt {pos : Pos} {f : Unit → Sem β} {Q : β → Shared → Prop} (h : wpC M A (f ()) Q E s) : wpC M A (standAt pos >>= f) Q E s := wpC_first (wpAny_standAt h)
theorem wpC_operating {vs : List Value} {m : Sem Value} {Q : Value → Shared → Prop} (h : wpC M A m Q E s) : wpC M A (operate vs m) Q E s := fun Γ p hΓ hc => by rw [Sem.wp_operate]; exact h Γ p hΓ hc
theorem codeC_of_tree {c : Code} {R : Result → Shared → Prop}
    (h : wpC M (A.under c) (M.den c) (fun fin s' => match fin with | .done f => R (.ok f) s' | .again c' => c'.quiet = true ∧ okC c' = true ∧ codeC M A c' R s') (fun e s' => R (.error e) s') s) : codeC M A c R s := fun Γ p hc hΓ hl => by
  rw [wpCode_iff_wp, hc]
  refine Sem.wp_mono M Γ _ (fun fin p' s' h' => ?_) (fun _ _ _ h' => h') p s (h Γ p (hc ▸ hΓ.in) hl)
  cases fin with
  | done f => exact h'
  | again c' => exact ⟨h'.1, h'.2.2 (Γ.goto c') p' rfl (hΓ.goto c') (hl.goto h'.2.1)⟩
theorem wpC_run {c : Code} {h : Option Value} {Q : Flow → Shared → Prop} (hok : okC c = true) (hc : codeC M (A.mark h) c (fun r s' => match r with | .ok f => Q f s' | .error e => E e s') s) (hnb : h ≠ some byPass := by intro x; cases x) :
    wpC M A (run c h) Q E s := fun Γ p hΓ hl => by rw [Sem.wp_run]; exact hc _ p rfl (hΓ.enter c h p hnb) (hl.enter hok h p)
theorem wpC_call {f : Value} {pos : List Value} {kw : List (Str × Value)} {Q : Value → Shared → Prop}
    (hc : codeC M A (.call f ⟨pos, kw⟩) (fun r s' => match r with | .ok (.ret v) => Q v s' | .ok _ => False | .error e => E e s') s) : wpC M A (call f pos kw) Q E s := fun Γ p hΓ hl => by
  show wp M Γ (runValue (.call f ⟨pos, kw⟩)) _ _ p s
  rw [Sem.wp_runValue]
  exact hc _ p rfl (hΓ.enter (.call f ⟨pos, kw⟩) none p (by intro x; cases x)) (hl.enter rfl none p)
theorem codeC_loop {c : Code} {R : Result → Shared → Prop} (hq : c.quiet = true) (hok : okC c = true) (I : Nat → Shared → Prop)
    (turn : ∀ n s, I n s → wpC M (A.under c) (M.den c) (fun fin s' => match fin with | .done f => R (.ok f) s' | .again c' => c' = c ∧ ∃ m, m < n ∧ I m s') (fun e s' => R (.error e) s') s)
    (n : Nat) (h : I n s) : codeC M A c R s := by
  induction n using Nat.strongRecOn generalizing s with
  | ind n ih =>
    refine codeC_of_tree (wpC_mono (turn n s h) (fun fin s' hf => ?_) fun _ _ h' => h')
    cases fin with
    | done f => exact hf
    | again c' => obtain ⟨rfl, m, hm, hI⟩ := hf; exact ⟨hq, hok, ih m hm hI⟩
end

/-! ## the nodes on the way to the bytearray -/
section
variable {M : Model} {A : Around} {E : Value → Shared → Prop} {s : Shared} {env : Env}
theorem execsC_cons {st rest} {Q : Flow → Shared → Prop} (h : wpC M A (exec st env) (fun f s' => match f with | .next => wpC M A (execs rest env) Q E s' | f => Q f s') E s) : wpC M A (execs (st :: rest) env) Q E s := by
  rw [execs_cons]
  refine wpC_bind (wpC_mono h (fun f s' h' => ?_) fun _ _ h' => h')
  cases f <;> first | exact h' | exact wpC_pure h'
theorem execsC_any {st rest} {Q : Flow → Shared → Prop} (h : wpAny M A (exec st env) (fun f s' => match f with | .next => wpC M A (execs rest env) Q E s' | f => Q f s') E s) : wpC M A (execs (st :: rest) env) Q E s := execsC_cons (wpC_any h)
theorem execsC_nil {Q : Flow → Shared → Prop} (h : Q .next s) : wpC M A (execs [] env) Q E s := wpC_any (wpAny_execs_nil h)
theorem AssignC_Name {x pos' value pos} {Q : Flow → Shared → Prop} (h : wpC M A (eval value env) (fun v s₁ => wpAny M A (storeName env x v) (fun _ => Q .next) E s₁) E s)
    (hs : swapsWith value (some (.Name x pos')) pos.line env = pure false := by rfl) : wpC M A (exec (.Assign [.Name x pos'] value pos) env) Q E s := by
  rw [exec_Assign_Name env x pos' value pos hs]
  refine wpC_standAt (wpC_bind (wpC_mono h (fun v s₁ h₁ => wpC_standAt (wpC_first (wpAny_bindName (wpAny_mono h₁ (fun _ _ q => wpC_pure q) fun _ _ q => q)))) fun _ _ q => q))
theorem IfC {test body orelse pos} {Q : Flow → Shared → Prop} (h : wpC M A (isTrue test env (eval test env)) (fun b s₂ => if b then wpC M A (execs body env) Q E s₂ else wpC M A (execs orelse env) Q E s₂) E s) : wpC M A (exec (.If test body orelse pos) env) Q E s := by
  rw [exec_If]
  refine wpC_standAt (wpC_bind (wpC_mono h (fun b s₂ h₂ => ?_) fun _ _ q => q))
  cases b <;> exact h₂
theorem ReturnC {e pos} {Q : Flow → Shared → Prop} (h : wpC M A (eval e env) (fun v => Q (.ret v)) E s) : wpC M A (exec (.Return (some e) pos) env) Q E s := by
  rw [exec_Return_some]
  exact wpC_standAt (wpC_bind (wpC_mono h (fun v s₁ h₁ => wpC_pure h₁) fun _ _ q => q))
theorem isTrueC_Compare1 {l op r pos whole} {Q : Bool → Shared → Prop} (h : wpC M A (eval l env) (fun a s₁ => wpAny M A (eval r env) (fun b s₂ => wpAny M A (compareOp op a b) (fun c s₃ => wpAny M A (truthy c) Q E s₃) E s₂) E s₁) E s)
    (hm : behindInMarks op r = false := by with_unfolding_all rfl) : wpC M A (isTrue (.Compare l [op] [r] pos) env whole) Q E s := by
  rw [isTrue_Compare1]
  refine wpC_bind (wpC_mono h (fun a s₁ h₁ => wpC_any ?_) fun _ _ q => q)
  rw [markedBehindIn_of_false hm]
  exact wpAny_bind (wpAny_holding (wpAny_mono h₁ (fun b s₂ h₂ => wpAny_bind (wpAny_standAt (wpAny_bind (wpAny_operating (wpAny_mono h₂ (fun c s₃ h₃ => wpAny_holding h₃) fun _ _ q => q))))) fun _ _ q => q))
theorem CompareC1 {l op r pos} {Q : Value → Shared → Prop} (h : wpC M A (eval l env) (fun a s₁ => wpAny M A (eval r env) (fun b s₂ => wpAny M A (compareOp op a b) Q E s₂) E s₁) E s)
    (hm : behindInMarks op r = false := by with_unfolding_all rfl) : wpC M A (eval (.Compare l [op] [r] pos) env) Q E s := by
  rw [eval_Compare1]
  refine wpC_bind (wpC_mono h (fun a s₁ h₁ => wpC_any ?_) fun _ _ q => q)
  rw [markedBehindIn_of_false hm]
  exact wpAny_bind (wpAny_holding (wpAny_mono h₁ (fun b s₂ h₂ => wpAny_bind (wpAny_standAt (wpAny_operating h₂))) fun _ _ q => q))
theorem BinOpC {l op r pos} {Q : Value → Shared → Prop} (h : wpC M A (eval l env) (fun a s₁ => wpC M A (eval r env) (fun b s₂ => wpAny M A (binaryOp op a b) Q E s₂) E s₁) E s) : wpC M A (eval (.BinOp l op r pos) env) Q E s := by
  rw [eval_BinOp]
  exact wpC_bind (wpC_mono h (fun a s₁ h₁ => wpC_bind (wpC_holding (wpC_mono h₁ (fun b s₂ h₂ => wpC_standAt (wpC_operating (wpC_any h₂))) fun _ _ q => q))) fun _ _ q => q)
theorem callWithC_function {pos : Pos} {a : Addr} {o : Obj} {fd : FuncData} {first : List Value} {args : List (Bool × Sem Value)} {Q : Value → Shared → Prop} (hplain : args.any (·.1) = false)
    (h : wpAny M A (evalArgs (.ref a) true args []) (fun x s₁ => (s₁.heap.get? a = some o ∧ o.data = .func fd) ∧ wpC M A (call (.ref a) (first ++ x.pos) x.kw) Q E s₁) E s) : wpC M A (callWith pos (.ref a) first args []) Q E s := by
  unfold callWith
  refine wpC_first (wpAny_holding (wpAny_mono h (fun x s₁ h₁ => wpC_standAt ?_) fun _ _ x => x))
  have tail : ∀ {t : Sem Value}, wpC M A t Q E s₁ → wpC M A (t >>= fun r => holding [r] point >>= fun _ => pure r) Q E s₁ :=
    fun ht => wpC_bind (wpC_mono ht (fun r s₂ hr => wpC_first (wpAny_holding (wpAny_point (wpC_pure hr)))) fun _ _ x => x)
  simp only [hplain, List.any_nil, Bool.or_false]
  refine wpC_first (m := keeperOf (.ref a)) ?_
  unfold keeperOf
  refine wpAny_bind (wpAny_load h₁.1.1 ?_)
  rw [h₁.1.2]
  refine wpAny_pure ?_
  dsimp only
  split
  · exact tail h₁.2
  · exact tail (by unfold callMarked; exact wpC_keep h₁.2)
theorem callWithC_type {pos : Pos} {T : String} {first : List Value} {args : List (Bool × Sem Value)} {Q : Value → Shared → Prop} (hplain : args.any (·.1) = false)
    (h : wpAny M A (evalArgs (.type T) true args []) (fun a s₁ => wpC M A (call (.type T) (first ++ a.pos) a.kw) Q E s₁) E s) : wpC M A (callWith pos (.type T) first args []) Q E s := by
  unfold callWith
  refine wpC_first (wpAny_holding (wpAny_mono h (fun x s₁ h₁ => wpC_standAt ?_) fun _ _ x => x))
  simp only [hplain, List.any_nil, Bool.or_false]
  refine wpC_first (m := keeperOf (.type T)) (wpAny_pure ?_)
  exact wpC_bind (wpC_mono h₁ (fun r s₂ hr => wpC_first (wpAny_holding (wpAny_point (wpC_pure hr)))) fun _ _ x => x)
theorem CallC_Name {id : Str} {p pos : Pos} {args : List PySem.Expr} {Q : Value → Shared → Prop}
    (h : wpAny M A (eval (.Name id p) env) (fun f s₁ => wpC M A (callWith pos f [] (backTo pos (starEach args env)) []) Q E s₁) E s) : wpC M A (eval (.Call (.Name id p) args [] pos) env) Q E s := by
  show wpC M A (do callWith pos (← eval (.Name id p) env) [] (backTo pos (starEach args env)) (backToKw pos (keywordEach [] env))) Q E s
  exact wpC_first h
end
end Mine
end
section
open PySem PySem.W PyProof.Rows PySem.Calls
open Sem (wp)
set_option maxRecDepth 100000
set_option maxHeartbeats 4000000
set_option linter.unusedVariables false
namespace Mine
section
variable {prog : Program} {w : World} {A : Around} {E : Value → Shared → Prop} {R : Result → Shared → Prop} {s : Shared}
theorem codeC_func {body env} (h : ∀ E', wpC (model prog w) (A.deeper env) (execs body env) (fun f s' => R (.ok (.ret (match f with | .ret v => v | _ => .none))) s') E' s) : codeC (model prog w) A (.func body env) R s := by
  refine codeC_of_tree ?_
  show wpC _ (A.deeper env) (do point; match ← (execs body env).onRaise (leaving env) with | .ret v => ret v | _ => ret .none) _ _ s
  refine wpC_first (wpAny_point (wpC_bind (wpC_onRaise (wpC_mono (h _) (fun f s' h' => ?_) fun _ _ h' => h'))))
  cases f <;> exact wpC_pure h'
theorem codeC_call_function {a : Addr} {args : Args} {o : Obj} {fd : FuncData} {body : List Stmt} (hroom : A.depth < recursionLimit) (ho : s.heap.get? a = some o)
    (hd' : o.data = .func fd) (hco : fd.scope.isCoroutine = false) (hgen : fd.scope.isGenerator = false) (hbody : fd.body = .stmts body) (hcd : s.heap.CodeRec fd.code fd.qualname)
    (h : wpAny (model prog w) A.in1 (bindArgs fd args) (fun binds s₁ =>
      wpAny (model prog w) A.in1 (newFunctionEnv fd.scope fd.globals fd.closure binds (fd.qualname ++ ".<locals>.") (some a) fd.code none fd.builtins)
        (fun env s₂ => s₂.heap.NoLimit ∧ codeC (model prog w) A (.func body env) R s₂) (fun e s' => R (.error e) s') s₁) (fun e s' => R (.error e) s') s) :
    codeC (model prog w) A (.call (.ref a) args) R s := by
  refine codeC_of_tree ?_
  show wpC _ A.in1 (callAny (.ref a) args) _ _ s
  refine wpC_any ?_
  simp only [callAny]
  refine wpAny_bind (wpAny_load ho ?_)
  obtain ⟨c, oc, vs, tq, hc, hoc, hdc, hq⟩ := hcd
  simp only [hd', callFunction, hco, hgen, hbody, hc]
  rw [hc] at h
  refine wpAny_bind (m := field (.ref c) 1) (wpAny_field hoc hdc hq (wpAny_bind (wpAny_pure ?_)))
  exact wpAny_bind (wpAny_mono h (fun binds s₁ h₁ => wpAny_bind (wpAny_mono h₁ (fun env s₂ h₂ => wpAny_bind (wpAny_enterFrame h₂.1 hroom
    (wpAny_pure (And.intro rfl (And.intro rfl h₂.2))))) fun _ _ h' => h')) fun _ _ h' => h')
end

theorem callC_at {w : World} {A : Around} {E : Value → Shared → Prop} {s : Shared} {b₀ : Heap} {f : Addr} {args : List Value} {binds : List (Str × Value)} {Q : Value → Shared → Prop} (hB : Bs w b₀) {k : Nat} (R : Rm k A)
    (hb : Kept b₀ s) (hf : isFnAt (hd.heap_39 w.params) f = true) (hbind : bindArgs (dataAt w.params f) ⟨args, []⟩ = pure binds)
    (hcell : ((dataAt w.params f).scope.names.all fun x => x.2 != .cell) = true) (hloc : (binds.all fun x => (dataAt w.params f).scope.names.lookup x.1 == some .local) = true)
    (h : ∀ E' s₁, In b₀ s [] s.heap.objs.size (fun x => binds.reverse.lookup x) [] s₁ → wpC (model PG w) (A.deeper (callEnv (dataAt w.params f) s.heap.objs.size f)) (execs (bodyAt w.params f) (callEnv (dataAt w.params f) s.heap.objs.size f)) (fun fl s' => Q (match fl with | .ret v => v | _ => .none) s') E' s₁)
    (hco : (dataAt w.params f).scope.isCoroutine = false) (hgen : (dataAt w.params f).scope.isGenerator = false) (hk : (dataAt w.params f).scope.kind = .function) :
    wpC (model PG w) A (call (.ref f) args) Q E s := by
  obtain ⟨o, ho, hd', hbody, hcd⟩ := isFnAt_out hB.X hf
  obtain ⟨_, _, _, _, T⟩ := hB.T
  refine wpC_call (codeC_call_function R.room (hb _ _ ho) hd' hco hgen hbody (hcd.keeps hb) (BindsTo.of_eq hbind _ _ _ _ ?_))
  refine wpAny_newFunctionEnv (fun x hx => ?_) (fun x hx => ?_) (fun h₁ hns hsb => ⟨(T.nolimit.keeps hb).fresh _ hsb, codeC_func fun E' => ?_⟩) hk
  · simpa using List.all_eq_true.mp hcell x hx
  · simpa using List.all_eq_true.mp hloc x hx
  · have hk₁ : ∀ b o, s.heap.get? b = some o → h₁.get? b = some o := fun b o e => hsb.extBut b o (Nat.ne_of_lt (Heap.lt_size e)) (Heap.get?_push_of_some _ e)
    refine h _ _ ⟨⟨_, _, rfl⟩, fun b o _ _ e => hk₁ b o e, fun b o e => hk₁ b o (hb b o e), fun b o e => ⟨o, hk₁ b o e⟩, hns, (fun _ h => nomatch h), (fun _ h => nomatch h), List.nodup_nil, ?_⟩
    cases q : b₀.get? s.heap.objs.size with
    | none => rfl
    | some o' => exact absurd (Heap.lt_size (hb _ _ q)) (Nat.lt_irrefl _)

/-! ## the frame with cells -/
abbrev aC (v : Option Value) : Obj → Prop := fun o => o.data = .cell v
/-- the ledger of a frame's cells -/
def cellLed (cm : Str → Option Value) : List (Str × Addr) → Ledger
  | [] => []
  | (n, c) :: r => (c, aC (cm n)) :: cellLed cm r
theorem cellLed_mem {cm : Str → Option Value} : ∀ {cs : List (Str × Addr)} {p : Addr × (Obj → Prop)}, p ∈ cellLed cm cs → ∃ n c, (n, c) ∈ cs ∧ p = (c, aC (cm n))
  | [], p, h => nomatch h
  | (n, c) :: r, p, h => by
    rcases List.mem_cons.mp h with rfl | h
    · exact ⟨n, c, .head _, rfl⟩
    · obtain ⟨n', c', hm, e⟩ := cellLed_mem h
      exact ⟨n', c', .tail _ hm, e⟩
theorem cellLed_keys {cm : Str → Option Value} : ∀ {cs : List (Str × Addr)}, (cellLed cm cs).map (·.1) = cs.map (·.2)
  | [] => rfl
  | (n, c) :: r => by show c :: _ = c :: _; rw [cellLed_keys]

theorem In.cells {b₀ : Heap} {s s₁ : Shared} {L : Addr} {m cm : Str → Option Value} {cs : List (Str × Addr)} (hb : Kept b₀ s) (hL : L = s.heap.objs.size) (hnd : (cs.map (·.1)).Nodup) (x : InCallC s L m cs cm s₁) : In b₀ s [] L m (cellLed cm cs) s₁ := by
  have hk₁ := x.toInCall.keep
  have hfr : ∀ a, s.heap.objs.size ≤ a → b₀.get? a = none := fun a ha => by
    cases q : b₀.get? a with
    | none => rfl
    | some o' => exact absurd (Heap.lt_size (hb _ _ q)) (Nat.not_lt.mpr ha)
  refine ⟨x.toInCall.same, fun b o _ _ e => hk₁ b o e, fun b o e => hk₁ b o (hb b o e), fun b o e => ⟨o, hk₁ b o e⟩, x.toInCall.ns, fun p hp => ?_, fun p hp => ?_, ?_, hfr _ (by rw [hL]; exact Nat.le_refl _)⟩
  · obtain ⟨n, c, hm, rfl⟩ := cellLed_mem hp
    obtain ⟨o, ho, hd⟩ := x.cell n c (lookup_of_mem_nodup hnd hm)
    exact ⟨o, ho, hd⟩
  · obtain ⟨n, c, hm, rfl⟩ := cellLed_mem hp
    have := x.above n c hm
    exact ⟨hfr c (by rw [← hL]; exact Nat.le_of_lt this), Nat.ne_of_gt this⟩
  · rw [cellLed_keys]
    exact List.pairwise_map.mpr x.apart

theorem callC_cells {w : World} {A : Around} {E : Value → Shared → Prop} {s : Shared} {b₀ : Heap} {f : Addr} {args : List Value} {binds : List (Str × Value)} {Q : Value → Shared → Prop} (hB : Bs w b₀) {k : Nat} (R : Rm k A)
    (hb : Kept b₀ s) (hf : isFnAt (hd.heap_39 w.params) f = true) (hbind : bindArgs (dataAt w.params f) ⟨args, []⟩ = pure binds) (hclo : (dataAt w.params f).closure = [])
    (hkind : (binds.all fun y => (dataAt w.params f).scope.names.lookup y.1 == some .local || (dataAt w.params f).scope.names.lookup y.1 == some .cell) = true) (hnd : ((cellsFrom 0 (dataAt w.params f).scope.names []).map (·.1)).Nodup)
    (h : ∀ E' s₁, In b₀ s [] s.heap.objs.size (bindL (callEnvC (dataAt w.params f) s.heap.objs.size f).kindOf binds fun _ => none) (cellLed (bindC (callEnvC (dataAt w.params f) s.heap.objs.size f).kindOf binds fun _ => none) (callEnvC (dataAt w.params f) s.heap.objs.size f).cells) s₁ →
      wpC (model PG w) (A.deeper (callEnvC (dataAt w.params f) s.heap.objs.size f)) (execs (bodyAt w.params f) (callEnvC (dataAt w.params f) s.heap.objs.size f)) (fun fl s' => Q (match fl with | .ret v => v | _ => .none) s') E' s₁)
    (hco : (dataAt w.params f).scope.isCoroutine = false) (hgen : (dataAt w.params f).scope.isGenerator = false) (hk : (dataAt w.params f).scope.kind = .function) :
    wpC (model PG w) A (call (.ref f) args) Q E s := by
  obtain ⟨o, ho, hd', hbody, hcd⟩ := isFnAt_out hB.X hf
  obtain ⟨_, _, _, _, T⟩ := hB.T
  refine wpC_call (codeC_call_function R.room (hb _ _ ho) hd' hco hgen hbody (hcd.keeps hb) (BindsTo.of_eq hbind _ _ _ _ ?_))
  rw [hclo]
  refine wpAny_newFunctionEnv_cells hk (kindsX hkind _) fun env he s' x => ?_
  subst he
  refine ⟨(T.nolimit.keeps hb).keeps x.toInCall.keep, codeC_func fun E' => h _ _ (In.cells hb rfl ?_ x)⟩
  exact cellsFrom_names (dataAt w.params f).scope.names 0 (s.heap.objs.size + 1) [] [] rfl ▸ hnd

/-- a call of a def with cells, in every context -/
theorem call_cellsAt {w : World} {A : Around} {E : Value → Shared → Prop} {s : Shared} {b₀ : Heap} {f : Addr} {args : List Value} {binds : List (Str × Value)} {Q : Value → Shared → Prop} (hB : Bs w b₀) {k : Nat} (R : Rm k A)
    (hb : Kept b₀ s) (hf : isFnAt (hd.heap_39 w.params) f = true) (hbind : bindArgs (dataAt w.params f) ⟨args, []⟩ = pure binds) (hclo : (dataAt w.params f).closure = [])
    (hkind : (binds.all fun y => (dataAt w.params f).scope.names.lookup y.1 == some .local || (dataAt w.params f).scope.names.lookup y.1 == some .cell) = true) (hnd : ((cellsFrom 0 (dataAt w.params f).scope.names []).map (·.1)).Nodup)
    (h : ∀ E' s₁, In b₀ s [] s.heap.objs.size (bindL (callEnvC (dataAt w.params f) s.heap.objs.size f).kindOf binds fun _ => none) (cellLed (bindC (callEnvC (dataAt w.params f) s.heap.objs.size f).kindOf binds fun _ => none) (callEnvC (dataAt w.params f) s.heap.objs.size f).cells) s₁ →
      wpAny (model PG w) (A.deeper (callEnvC (dataAt w.params f) s.heap.objs.size f)) (execs (bodyAt w.params f) (callEnvC (dataAt w.params f) s.heap.objs.size f)) (fun fl s' => Q (match fl with | .ret v => v | _ => .none) s') E' s₁)
    (hco : (dataAt w.params f).scope.isCoroutine = false) (hgen : (dataAt w.params f).scope.isGenerator = false) (hk : (dataAt w.params f).scope.kind = .function) :
    wpAny (model PG w) A (call (.ref f) args) Q E s := by
  obtain ⟨o, ho, hd', hbody, hcd⟩ := isFnAt_out hB.X hf
  obtain ⟨_, _, _, _, T⟩ := hB.T
  refine wpAny_call (codeAny_call_cells R.room (hb _ _ ho) hd' (T.nolimit.keeps hb) (hcd.keeps hb) hbody hbind hclo (kindsX hkind _) (fun s₁ x => h _ _ (In.cells hb rfl ?_ x)) hco hgen hk)
  exact cellsFrom_names (dataAt w.params f).scope.names 0 (s.heap.objs.size + 1) [] [] rfl ▸ hnd
end Mine
end
section
open PySem PySem.W PyProof.Rows PySem.Calls
open Sem (wp)
set_option maxRecDepth 100000
set_option maxHeartbeats 4000000
set_option linter.unusedVariables false
namespace Mine
namespace BA
theorem mro : mroOf (.type "bytearray") = pure [.type "bytearray", .type "object"] := by rw [mroOf_type]; kernel_rfl
theorem lookup_new : typeLookup (.type "bytearray") "__new__" = pure (some (.builtin "bytearray.__new__")) := by rw [typeLookup_type, builtinLookup_eq_fast]; kernel_rfl
theorem made : Bind.madeBy (.type "bytearray") = pure (some "bytearray.__new__") := madeBy_type mro lookup_new (by decide +kernel)
theorem slot_init : Slot "bytearray" "__init__" "bytearray.__init__" :=
  .of (owner := "bytearray") (n := "__init__") (by rw [typeLookup_type, builtinLookup_eq_fast]; kernel_rfl) (by decide +kernel) (by decide +kernel) (by decide +kernel)
    (by first | exact .inl (by decide +kernel) | exact .inr (by decide +kernel)) (by rw [isSubtype_type]; kernel_rfl)
theorem slot_setitem : Slot "bytearray" "__setitem__" "bytearray.__setitem__" :=
  .of (owner := "bytearray") (n := "__setitem__") (by rw [typeLookup_type, builtinLookup_eq_fast]; kernel_rfl) (by decide +kernel) (by decide +kernel) (by decide +kernel)
    (by first | exact .inl (by decide +kernel) | exact .inr (by decide +kernel)) (by rw [isSubtype_type]; kernel_rfl)
theorem sub : isSubtype (.type "bytearray") (.type "bytearray") = pure true := by rw [isSubtype_type]; kernel_rfl
theorem typeCall (a : Value) : checkTypeCall "bytearray" ⟨[a], []⟩ = pure () := by kernel_rfl
theorem newCall (a : Value) : checkBuiltinCall "bytearray.__new__" ⟨[.type "bytearray", a], []⟩ = pure () := by kernel_rfl
theorem entry_new : entryFor table "bytearray.__new__" = some Builtin.«list.__new__» :=
  entryFor_alias (id' := "list.__new__") (by kernel_rfl) (by first | rfl | decide +kernel | (unfold String.splitOn; simp +decide [String.splitOnAux])) (by decide +kernel) (by kernel_rfl)
theorem entry_init : entryFor table "bytearray.__init__" = some Builtin.«bytearray.__init__» := entryFor_of_tree (by kernel_rfl)
theorem entry_setitem : entryFor table "bytearray.__setitem__" = some Builtin.«bytearray.__setitem__» := entryFor_of_tree (by kernel_rfl)
theorem plain_new : plainId "bytearray.__new__" = true := by decide +kernel
theorem args_init (a b : Value) : argsOk "bytearray.__init__" ⟨[a, b], []⟩ := by unfold argsOk; kernel_rfl
theorem args_setitem (a b c : Value) : argsOk "bytearray.__setitem__" ⟨[a, b, c], []⟩ := by unfold argsOk; kernel_rfl
theorem canCreate : ((Manifest.find? "bytearray").bind (·.mro.findSome? fun t => (Manifest.find? t).bind fun b => if b.noNew then some true else if b.attrs.any (·.1 == "__new__") then some false else none)).getD false = false := by decide +kernel
end BA
set_option maxRecDepth 1000000 in
theorem owner_ba : ("bytearray.__new__".splitOn ".__new__").headD "" = "bytearray" := by simp +decide [String.splitOn, String.splitOnAux]

abbrev aBA (b : List UInt8) : Obj → Prop := fun o => o = { cls := .type "bytearray", data := .bytearray b.toArray }
section
variable {prog : Program} {w : World} {A : Around} {E : Value → Shared → Prop} {s : Shared}
theorem code_ba_new (a : Value) {Q₁ : Value → Shared → Prop} (h : Q₁ (.ref s.heap.objs.size) { s with heap := s.heap.push { cls := .type "bytearray", data := .bytearray #[] } }) :
    codeAny (model prog w) A (.call (.builtin "bytearray.__new__") ⟨[.type "bytearray", a], []⟩) (wants Q₁ E) s := by
  refine codeAny_of_tree ?_
  show wpAny _ A.in1 (do checkBuiltinCall "bytearray.__new__" ⟨[.type "bytearray", a], []⟩; again (.builtin "bytearray.__new__" ⟨[.type "bytearray", a], []⟩)) _ _ s
  refine wpAny_bind (wpAny_of_eq (BA.newCall a) (wpAny_pure ⟨plainId_quiet BA.plain_new _, codeAny_builtin_stack BA.entry_new rfl fun p st => ?_⟩))
  rw [Around.under_plainId BA.plain_new _]
  have hsub := BA.sub
  have hown := owner_ba
  obtain ⟨hp, g, d, tk, os⟩ := s
  simp only [hown]
  wp_walk
  exact h

theorem codeC_builtin {id : String} {args : Args} {b : Builtin} {R : Result → Shared → Prop} (hb : entryFor table id = some b)
    (h : wpC (model prog w) (A.under (.builtin id args)) (b args) (fun fin s' => match fin with | .done f => R (.ok f) s' | .again c' => c'.quiet = true ∧ okC c' = true ∧ codeC (model prog w) A c' R s') (fun e s' => R (.error e) s') s) :
    codeC (model prog w) A (.builtin id args) R s := by
  refine codeC_of_tree ?_
  show wpC _ _ (match entryFor table id with | some b => b args | none => unsupported ((withoutEnding? id "#data").getD id)) _ _ s
  rw [hb]; exact h

theorem okC_no {id : String} {as : Args} (h : holdIds.contains id = true) : ¬ okC (.builtin id as) = true := by
  show ¬ (!holdIds.contains id) = true
  rw [h]; exact Bool.false_ne_true
theorem okC_dec {id : String} {as : Args} (h : okC (.builtin id as) = true) : Builtin.Bytes.decodersThatHold.contains id = false := by
  have h' : holdIds.contains id = false := by simpa [okC] using h
  cases q : Builtin.Bytes.decodersThatHold.contains id with
  | false => rfl
  | true =>
    exfalso
    have : holdIds.contains id = true := by
      unfold holdIds
      rw [List.contains_iff_mem] at q ⊢
      exact List.mem_append_right _ q
    rw [h'] at this; cases this
theorem exported_no {v : Value} {Q : Bool → Shared → Prop} (h : Q false s) : wpC (model prog w) A (Builtin.Bytes.exported v) Q E s := fun Γ p hΓ hl => by
  have any_no : ∀ (f : Code × Pos → Bool), (∀ x, okC x.1 = true → f x = false) → List.any ((Γ.code, p) :: Γ.below) f = false := by
    intro f hf
    rw [List.any_eq_false]
    intro x hx
    rw [hf x ?_]
    · exact Bool.false_ne_true
    · rcases List.mem_cons.mp hx with rfl | hx
      · exact hl.1
      · exact hl.2 x hx
  unfold Builtin.Bytes.exported
  show Q (List.any ((Γ.code, p) :: Γ.below) _) s
  rw [any_no _ ?_]
  · exact h
  · rintro ⟨c, q⟩ hc
    cases c with
    | builtin id as =>
      have n1 : ¬ id = "bytearray.__contains__" := fun e => okC_no (by rw [e]; decide +kernel) hc
      have n2 : ¬ id = "bytearray.__mod__" := fun e => okC_no (by rw [e]; decide +kernel) hc
      have n3 : ¬ id = "bytearray.__rmod__" := fun e => okC_no (by rw [e]; decide +kernel) hc
      have n4 : ¬ id = "_struct.pack_into.held" := fun e => okC_no (by rw [e]; decide +kernel) hc
      have n5 : ¬ id = "bytearray.find.held" := fun e => okC_no (by rw [e]; decide +kernel) hc
      have n6 := okC_dec hc
      obtain ⟨ps, kw⟩ := as
      delta Builtin.Bytes.exported.match_1
      with_unfolding_all show dite (id = "bytearray.__contains__") _ _ = false
      rw [dif_neg n1, dif_neg n2, dif_neg n3, dif_neg n4, dif_neg n5]
      cases ps with
      | nil => rfl
      | cons v vs =>
        show (_ && Builtin.Bytes.decodersThatHold.contains id) = false
        rw [n6, Bool.and_false]
    | _ => rfl
theorem idx_int {n : Int} {t : Tok} {Q : Option Value → Shared → Prop} (h : Q (some (.builtin "int.__index__")) s) : wpAny (model prog w) A (specialOf (.int n t) "__index__") Q E s := wpAny_specialOf (T := "int") (typeIs_int s n t) int_index h
theorem ifC_false {α : Type} {M : Model} {c : Bool} {a b : Sem α} {Q : α → Shared → Prop} (hc : c = false) (h : wpC M A b Q E s) : wpC M A (if c = true then a else b) Q E s := by subst hc; exact h
theorem ba_lookup_release : typeLookup (.type "bytearray") "__release_buffer__" = pure (some (.builtin "bytearray.__release_buffer__")) := by rw [typeLookup_type, builtinLookup_eq_fast]; kernel_rfl
theorem ba_ends : ("bytearray.__release_buffer__").endsWith ("." ++ "__release_buffer__") = true := by decide +kernel
set_option linter.deprecated false in
theorem ba_drop : ("bytearray.__release_buffer__").dropRight (("__release_buffer__").length + 1) = "bytearray" := by decide +kernel
theorem ba_release {a : Addr} {Q : Bool → Shared → Prop} (hT : s.TypeIs (.ref a) "bytearray") (h : Q false s) : wpAny (model prog w) A (Builtin.Bytes.ownRelease (.ref a)) Q E s := by
  unfold Builtin.Bytes.ownRelease Builtin.Bytes.slotIsOwn
  refine wpAny_bind (wpAny_bind (wpAny_specialOf hT ba_lookup_release ?_))
  dsimp only
  refine bm_if_false (by rw [ba_ends]; rfl) ?_
  rw [ba_drop]
  exact wpAny_isInstance hT BA.sub (wpAny_pure h)
theorem ba_bind (v : Value) : Builtin.Bytes.bindOptional "bytearray.__init__" "bytearray" ["source", "encoding", "errors"] [v] [] = pure [some v, none, none] := by kernel_rfl
theorem ba_write {a : Addr} {b : Array UInt8} {f : Array UInt8 → Array UInt8} {Q : Unit → Shared → Prop} (ha : s.heap.get? a = some { cls := .type "bytearray", data := .bytearray b }) (hz : (f b).size ≤ sizeLine)
    (h : ∀ h', h'.get? a = some { cls := .type "bytearray", data := .bytearray (f b) } → Heap.SameBut a s.heap h' → Q () { s with heap := h' }) : wpAny (model prog w) A (Builtin.Bytes.write (.ref a) f) Q E s := by
  unfold Builtin.Bytes.write
  show wpAny _ _ (updateBytearray a f) _ _ _
  unfold updateBytearray
  refine wpAny_bind (wpAny_load ha ?_)
  show wpAny _ _ (update a (Obj.mapBytearray f) >>= fun _ => lookBehind a) _ _ _
  refine wpAny_bind (wpAny_update ha ?_)
  have h2 : (s.heap.update a (Obj.mapBytearray f)).get? a = some { cls := .type "bytearray", data := .bytearray (f b) } := Heap.get?_update_self (Obj.mapBytearray f) ha rfl
  refine wpAny_lookBehind h2 ?_ (h _ h2 (Heap.SameBut.update ..))
  show (if (f b).size > sizeLine then some "bytearray:memory" else none) = none
  rw [if_neg (Nat.not_lt.mpr hz)]

theorem asStr_int (n : Int) (t : Tok) : asStr? (.int n t) = pure none := by rfl
theorem asIndex_int (n : Int) (t : Tok) : (asIndex (.int n t)).attempt = pure (.ok n) := by rfl
theorem ba_init {a : Addr} {n : Nat} {t : Tok} {P : Fin → Shared → Prop} (ha : s.heap.get? a = some { cls := .type "bytearray", data := .bytearray #[] }) (hn : n < 1000)
    (h : ∀ h', h'.get? a = some { cls := .type "bytearray", data := .bytearray (Array.replicate n 0) } → Heap.SameBut a s.heap h' → P (.done (.ret .none)) { s with heap := h' }) :
    wpC (model prog w) A (Builtin.«bytearray.__init__» ⟨[.ref a, .int n t], []⟩) P E s := by
  have hT : s.TypeIs (.ref a) "bytearray" := ⟨_, ha, rfl⟩
  unfold Builtin.«bytearray.__init__»
  dsimp only
  refine wpC_first (ba_release hT ?_)
  refine ifC_false rfl ?_
  refine wpC_first (wpAny_of_eq (ba_bind _) ?_)
  refine wpC_first (wpAny_of_eq (a := ()) rfl ?_)
  refine wpC_first (wpAny_of_eq (a := ()) rfl ?_)
  refine wpC_bind ?_
  refine wpC_bind (exported_no ?_)
  show wpC _ _ (Builtin.Bytes.exportsOf (.ref a) >>= fun x => pure (decide (x > 0))) _ _ _
  unfold Builtin.Bytes.exportsOf
  refine wpC_first (wpAny_bind (wpAny_load ha (wpAny_pure ?_)))
  refine wpC_pure ?_
  refine ifC_false rfl (wpC_any ?_)
  refine wpAny_bind (ba_write ha (Nat.zero_le _) fun h₁ ha₁ hs₁ => ?_)
  dsimp only
  refine wpAny_bind ?_
  rw [asStr_int]
  refine wpAny_pure ?_
  rw [if_neg (show ¬ ((none : Option PySem.Str).isSome = true) from Bool.false_ne_true)]
  have noStr : (if (none : Option Value).isSome = true then (do rule "bytearray.__init__.encoding-without-str"; raiseErrorWords "TypeError" "encoding without a string argument"; if (none : Option Value).isSome = true then (do rule "bytearray.__init__.errors-without-str"; raiseErrorWords "TypeError" "errors without a string argument") else pure ()) else if (none : Option Value).isSome = true then (do rule "bytearray.__init__.errors-without-str"; raiseErrorWords "TypeError" "errors without a string argument") else pure () : Sem Unit) = pure () := rfl
  refine wpAny_bind ?_
  rw [noStr]
  refine wpAny_pure ?_

  refine wpAny_bind ?_
  refine idx_int ?_
  rw [if_pos (show ((some (Value.builtin "int.__index__") : Option Value).isSome = true) from rfl)]
  refine wpAny_bind ?_
  rw [asIndex_int]
  refine wpAny_pure ?_
  dsimp only
  refine bm_if_false ?_ ?_
  · show (!Builtin.Bytes.fitsIndex (n : Int)) = false
    unfold Builtin.Bytes.fitsIndex
    simp only [Bool.not_eq_false', Bool.and_eq_true, decide_eq_true_eq]
    omega
  rw [if_neg (show ¬ ((n : Int) < 0) by omega)]
  refine bm_if_false ?_ ?_
  · simp only [beq_eq_false_iff_ne]; omega
  refine bm_if_false ?_ ?_
  · show Builtin.Bytes.tooLong (n : Int).toNat = false
    unfold Builtin.Bytes.tooLong
    have : (1000 : Nat) ≤ sizeLine := by decide
    simp only [Int.toNat_natCast, decide_eq_false_iff_not]
    omega
  refine wpAny_bind (wpAny_rule ?_)
  by_cases h0 : (n : Int) > 0
  · rw [if_pos h0]
    refine wpAny_bind (ba_write ha₁ ?_ fun h₂ ha₂ hs₂ => ?_)
    · have : (1000 : Nat) ≤ sizeLine := by decide
      simp only [Int.toNat_natCast, Array.size_replicate]
      omega
    · rw [Int.toNat_natCast] at ha₂
      exact wpAny_pure (h _ ha₂ (hs₁.trans hs₂))
  · rw [if_neg h0]
    have : n = 0 := by omega
    subst this
    exact wpAny_pure (h _ ha₁ hs₁)
end
end Mine
end
section
open PySem PySem.W PyProof.Rows PySem.Calls
open Sem (wp)
set_option maxRecDepth 100000
set_option maxHeartbeats 4000000
set_option linter.unusedVariables false
namespace Mine
section
variable {prog : Program} {w : World} {A : Around} {E : Value → Shared → Prop} {s : Shared}
theorem call_ba {n : Nat} {t : Tok} {Q : Value → Shared → Prop} (hn : n < 1000)
    (h : ∀ h', h'.get? s.heap.objs.size = some { cls := .type "bytearray", data := .bytearray (Array.replicate n 0) } → Heap.SameBut s.heap.objs.size (s.heap.push { cls := .type "bytearray", data := .bytearray #[] }) h' → Q (.ref s.heap.objs.size) { s with heap := h' }) :
    wpC (model prog w) A (call (.type "bytearray") [.int n t]) Q E s := by
  refine wpC_call (codeC_of_tree ?_)
  show wpC _ _ (callAny (.type "bytearray") _) _ _ _
  refine wpC_pure ⟨Code.quiet_builtin _ (by decide +kernel), rfl, codeC_builtin F.entry_type_call ?_⟩
  rw [Around.under_plain (weight_type_call_type "bytearray" [.int n t] []) rfl]
  unfold Builtin.«type.__call__»
  dsimp only
  rw [if_neg (show ¬ ((Value.type "bytearray" == Value.type "type") = true) from by decide)]
  refine ifC_false BA.canCreate ?_
  refine wpC_bind ?_
  rw [BA.typeCall]
  refine wpC_pure ?_
  refine wpC_bind ?_
  rw [BA.mro]
  refine wpC_pure ?_
  rw [if_neg (show ¬ (([Value.type "bytearray", Value.type "object"] : List Value).isEmpty = true) from Bool.false_ne_true)]
  refine wpC_bind ?_
  rw [BA.made]
  refine wpC_pure ?_
  dsimp only
  refine wpC_bind (wpC_pure ?_)
  refine wpC_bind (wpC_holding (wpC_any (wpAny_call (codeAny_mono (code_ba_new (E := E) (Q₁ := fun v s' => v = .ref s.heap.objs.size ∧ s' = { s with heap := s.heap.push { cls := .type "bytearray", data := .bytearray #[] } }) _ ⟨rfl, rfl⟩) fun r s₁ hr => ?_))))
  cases r with
  | error e => exact hr
  | ok fl =>
    cases fl with
    | ret v =>
      obtain ⟨rfl, rfl⟩ := hr
      have ha : (s.heap.push { cls := .type "bytearray", data := .bytearray #[] }).get? s.heap.objs.size = some { cls := .type "bytearray", data := .bytearray #[] } := Heap.get?_push_size _ rfl
      have hT : ({ s with heap := s.heap.push { cls := .type "bytearray", data := .bytearray #[] } } : Shared).TypeIs (.ref s.heap.objs.size) "bytearray" := ⟨_, ha, rfl⟩
      refine wpC_bind (wpC_any (wpAny_isInstance hT BA.sub ?_))
      refine ifC_false rfl ?_
      refine wpC_bind (wpC_holding ?_)
      simp only [callSpecial?]
      refine wpC_bind (wpC_any (wpAny_specialOf hT BA.slot_init.lookup ?_))
      simp only [BA.slot_init.bind]
      refine wpC_holding (wpC_bind (wpC_pure ?_))
      refine wpC_bind (wpC_call (codeC_of_tree ?_))
      show wpC _ _ (do checkBuiltinCall "bytearray.__init__" ⟨[.ref s.heap.objs.size, .int n t], []⟩; again (.builtin "bytearray.__init__" ⟨[.ref s.heap.objs.size, .int n t], []⟩)) _ _ _
      refine wpC_first (BA.slot_init.check _ _ _ _ _ _ _ _ hT (BA.args_init _ _) ?_)
      refine wpC_pure ⟨plainId_quiet BA.slot_init.plain _, rfl, codeC_builtin BA.entry_init ?_⟩
      refine ba_init ha hn fun h' ha' hs' => ?_
      exact wpC_pure (wpC_pure (h h' ha' hs'))
    | _ => exact hr.elim
end
end Mine
end
section
open PySem PySem.W PyProof.Rows PySem.Calls
open Sem (wp)
set_option maxRecDepth 100000
set_option maxHeartbeats 4000000
set_option linter.unusedVariables false
namespace Mine
section
variable {prog : Program} {w : World} {A : Around} {E : Value → Shared → Prop} {s : Shared}
theorem asIndex_is (n : Int) (t : Tok) : asIndex (.int n t) = pure n := by rfl
theorem special_index (n : Int) (t : Tok) : specialOf (.int n t) "__index__" = pure (some (.builtin "int.__index__")) := by
  unfold specialOf
  have : typeOf (.int n t) = pure (.type "int") := rfl
  rw [this, pure_bind]
  exact int_index
theorem subscript_eq {k : Nat} {t : Tok} (hk : k < 1000) : Builtin.Bytes.subscript? (.int (k : Int) t) = pure (some (k : Int)) := by
  unfold Builtin.Bytes.subscript?
  rw [special_index, pure_bind]
  rw [if_neg (show ¬ ((some (Value.builtin "int.__index__") : Option Value).isNone = true) from Bool.false_ne_true)]
  rw [asIndex_is, pure_bind]
  have hf : Builtin.Bytes.fitsIndex (k : Int) = true := by
    unfold Builtin.Bytes.fitsIndex
    simp only [Bool.and_eq_true, decide_eq_true_eq]
    omega
  rw [hf]
  rfl
theorem byteValue_eq {x : Nat} {t : Tok} (hx : x < 256) : Builtin.Bytes.byteValue (.int (x : Int) t) = pure x.toUInt8 := by
  unfold Builtin.Bytes.byteValue
  rw [asIndex_is, pure_bind]
  have hx' : (decide ((x : Int) < 0) || decide ((x : Int) ≥ 256)) = false := by
    simp only [Bool.or_eq_false_iff, decide_eq_false_iff_not]; omega
  rw [hx']
  rfl
theorem payload_ba {a : Addr} {b : Array UInt8} {Q : Array UInt8 → Shared → Prop} (ha : s.heap.get? a = some { cls := .type "bytearray", data := .bytearray b }) (h : Q b s) : wpAny (model prog w) A (Builtin.Bytes.payload (.ref a)) Q E s := by
  unfold Builtin.Bytes.payload Builtin.Bytes.payload?
  refine wpAny_bind ?_
  refine wpAny_bind ?_
  refine wpAny_load ha ?_
  exact wpAny_pure (wpAny_pure h)
theorem ba_set_is {a : Addr} {k x : Nat} {t u : Tok} (hk : k < 1000) (hx : x < 256) : ∃ X : Array UInt8 → Sem Fin, Builtin.«bytearray.__setitem__» ⟨[.ref a, .int (k : Int) t, .int (x : Int) u], []⟩ =
    (Builtin.Bytes.payload (.ref a) >>= fun b => match seqIndex? (k : Int) b.size with
      | some j => (Builtin.Bytes.write (.ref a) (fun y => y.setIfInBounds j x.toUInt8) >>= fun _ => ret .none)
      | none => X b) := by
  apply Exists.intro
  unfold Builtin.«bytearray.__setitem__»
  dsimp only
  rw [if_neg (show ¬ ((!([] : List (Str × Value)).isEmpty) = true) from Bool.false_ne_true)]
  rw [subscript_eq hk, pure_bind]
  dsimp only
  rw [byteValue_eq hx, pure_bind]
  rfl
theorem ba_set_tree {tr : Sem Fin} {a : Addr} {b : Array UInt8} {k x : Nat} {t u : Tok} {P : Fin → Shared → Prop} (htr : tr = Builtin.«bytearray.__setitem__» ⟨[.ref a, .int k t, .int x u], []⟩) (ha : s.heap.get? a = some { cls := .type "bytearray", data := .bytearray b }) (hk : k < b.size) (hx : x < 256) (hz : b.size < 1000)
    (h : ∀ h', h'.get? a = some { cls := .type "bytearray", data := .bytearray (b.setIfInBounds k x.toUInt8) } → Heap.SameBut a s.heap h' → P (.done (.ret .none)) { s with heap := h' }) :
    wpAny (model prog w) A tr P E s := by
  obtain ⟨X, e⟩ := ba_set_is (a := a) (k := k) (x := x) (t := t) (u := u) (by omega) hx
  rw [htr, e]
  refine wpAny_bind (payload_ba ha ?_)
  have hs : seqIndex? (k : Int) b.size = some k := by
    unfold seqIndex?
    simp only [show ¬ ((k : Int) < 0) by omega, if_false]
    rw [if_pos]
    · simp
    · simp only [Bool.and_eq_true, decide_eq_true_eq]; omega
  rw [hs]
  dsimp only
  refine wpAny_bind (ba_write ha ?_ fun h' ha' hs' => wpAny_pure (h h' ha' hs'))
  have : (1000 : Nat) ≤ sizeLine := by decide
  rw [Array.size_setIfInBounds]; omega

theorem ba_setItem {a : Addr} {b : Array UInt8} {k x : Nat} {t u : Tok} {Q : Unit → Shared → Prop} (ha : s.heap.get? a = some { cls := .type "bytearray", data := .bytearray b }) (hk : k < b.size) (hx : x < 256) (hz : b.size < 1000)
    (h : ∀ h', h'.get? a = some { cls := .type "bytearray", data := .bytearray (b.setIfInBounds k x.toUInt8) } → Heap.SameBut a s.heap h' → Q () { s with heap := h' }) :
    wpAny (model prog w) A (setItem (.ref a) (.int k t) (.int x u)) Q E s := by
  have hT : s.TypeIs (.ref a) "bytearray" := ⟨_, ha, rfl⟩
  unfold setItem
  try with_reducible refine wpAny_holding ?_
  first | refine wpAny_bind (wpAny_pure ?_) | skip
  refine wpAny_bind (wpAny_sequenceKey hT (by decide) ?_)
  refine wpAny_bind (wpAny_callSpecial?_slot (name := Str.ofString "__setitem__") hT BA.slot_setitem
    (wpAny_call_entry BA.slot_setitem hT BA.entry_setitem ?_ (BA.args_setitem _ _ _)))
  generalize e : Builtin.«bytearray.__setitem__» _ = tr
  refine ba_set_tree e.symm ha hk hx hz ?_
  intro h' ha' hs'
  exact ⟨.none, rfl, wpAny_pure (h h' ha' hs')⟩
end
end Mine
end
section
open PySem PySem.W PyProof.Rows PySem.Calls
open Sem (wp)
set_option maxRecDepth 100000
set_option maxHeartbeats 4000000
set_option linter.unusedVariables false
namespace Mine
/-! ## expressions that may make new objects -/
def EEv (prog : Program) (w : World) (A : Around) (env : Env) (b₀ : Heap) (s : Shared) (e : PySem.Expr) (P : Value → Shared → Prop) : Prop :=
  ∀ (Q : Value → Shared → Prop) (E : Value → Shared → Prop), (∀ v s', Ext b₀ [] s s' → P v s' → Q v s') → wpAny (model prog w) A (eval e env) Q E s
theorem Ext.tok {b₀ : Heap} {W : List Addr} {s s' : Shared} (x : Ext b₀ W s s') (tk : Nat) : Ext b₀ W s { s' with toks := tk } := by
  obtain ⟨h, t, rfl⟩ := x.same
  exact ⟨⟨h, tk, rfl⟩, x.keep, x.base, x.live⟩
section
variable {b₀ : Heap} {s₀ s : Shared} {W : List Addr} {L a C : Addr} {m : Str → Option Value} {led : Ledger} {P : Obj → Prop}
theorem In.adopt (x : In b₀ s₀ W L m led s) (ha : ∃ o, s.heap.get? a = some o ∧ P o) (h0 : b₀.get? a = none) (hL : a ≠ L) (hf : a ∉ led.map (·.1)) : In b₀ s₀ W L m ((a, P) :: led) s := by
  refine ⟨x.same, x.keep, x.base, x.live, x.ns, ?_, ?_, List.nodup_cons.mpr ⟨hf, x.apart⟩, x.newL⟩
  · intro p hp
    rcases List.mem_cons.mp hp with rfl | hp
    · exact ha
    · exact x.own p hp
  · intro p hp
    rcases List.mem_cons.mp hp with rfl | hp
    · exact ⟨h0, hL⟩
    · exact x.new p hp
theorem In.adopts {its : Ledger} (x : In b₀ s₀ W L m led s) (h : ∀ p ∈ its, (∃ o, s.heap.get? p.1 = some o ∧ p.2 o) ∧ b₀.get? p.1 = none ∧ p.1 ≠ L ∧ p.1 ∉ led.map (·.1)) (hnd : (its.map (·.1)).Nodup) : In b₀ s₀ W L m (its ++ led) s := by
  refine ⟨x.same, x.keep, x.base, x.live, x.ns, ?_, ?_, ?_, x.newL⟩
  · intro p hp
    rcases List.mem_append.mp hp with hp | hp
    · exact (h p hp).1
    · exact x.own p hp
  · intro p hp
    rcases List.mem_append.mp hp with hp | hp
    · exact ⟨(h p hp).2.1, (h p hp).2.2.1⟩
    · exact x.new p hp
  · rw [List.map_append, List.nodup_append]
    refine ⟨hnd, x.apart, ?_⟩
    intro a ha b hb e
    obtain ⟨p, hp, rfl⟩ := List.mem_map.mp ha
    exact (h p hp).2.2.2 (e ▸ hb)
theorem Kept.none (hb : Kept b₀ s) (ha : s.heap.get? a = none) : b₀.get? a = none := by
  cases q : b₀.get? a with
  | none => rfl
  | some o => rw [hb _ _ q] at ha; cases ha
/-- what is new in a callee's or a comprehension's work is taken over -/
theorem In.gain {s' : Shared} (x : In b₀ s₀ W L m led s) (y : Ext b₀ [] s s') (hn : s.heap.get? a = none) (ha : ∃ o, s'.heap.get? a = some o ∧ P o) : In b₀ s₀ W L m ((a, P) :: led) s' ∧ s₀.heap.get? a = none := by
  refine ⟨(x.ext y).adopt ha (Kept.none x.base hn) ?_ ?_, ?_⟩
  · rintro rfl; obtain ⟨o, _, _, ho, _⟩ := x.ns; rw [hn] at ho; cases ho
  · intro hm
    obtain ⟨p, hp, rfl⟩ := List.mem_map.mp hm
    obtain ⟨o, ho, _⟩ := x.own p hp
    rw [hn] at ho; cases ho
  · cases q : s₀.heap.get? a with
    | none => rfl
    | some o => obtain ⟨o', e⟩ := x.live _ _ q; rw [hn] at e; cases e
/-- an object that nobody knows changes -/
theorem In.dead {h' : Heap} {tk : Nat} (x : In b₀ s₀ W L m led s) (hs : Heap.SameBut C s.heap h') (h0 : s₀.heap.get? C = none) (hb : b₀.get? C = none) (hL : C ≠ L) (hf : C ∉ led.map (·.1)) : In b₀ s₀ W L m led { s with heap := h', toks := tk } := by
  refine ⟨?_, fun b o hb hL e => (hs.2 b ?_).trans (x.keep b o hb hL e), fun b o e => (hs.2 b (by rintro rfl; rw [hb] at e; cases e)).trans (x.base b o e), ?_, x.ns.sameBut hs (Ne.symm hL), fun p hp => ?_, x.new, x.apart, x.newL⟩
  · obtain ⟨h, tk', rfl⟩ := x.same; exact ⟨h', tk, rfl⟩
  · rintro rfl; rw [h0] at e; cases e
  · intro b o e
    obtain ⟨o', e'⟩ := x.live b o e
    exact ⟨o', (hs.2 b (by rintro rfl; rw [h0] at e; cases e)).trans e'⟩
  · obtain ⟨o, ho, hp'⟩ := x.own p hp
    exact ⟨o, (hs.2 p.1 (by rintro rfl; exact hf (List.mem_map_of_mem (f := (·.1)) hp))).trans ho, hp'⟩
end

section
variable {prog : Program} {w : World} {A : Around} {E : Value → Shared → Prop} {s : Shared} {env : Env} {b₀ : Heap} {s₀ : Shared} {W : List Addr} {m : Str → Option Value} {led : Ledger} {v : Value} {L D : Addr} {vs : List Value}
theorem In.append {Q : Value → Shared → Prop} (I : In b₀ s₀ W L m ((D, aL vs) :: led) s) (hW : D ∈ W ∨ s₀.heap.get? D = none) (hlen : vs.length < 100000)
    (h : ∀ s', In b₀ s₀ W L m ((D, aL (vs ++ [v])) :: led) s' → Heap.SameBut D s.heap s'.heap → Q .none s') : wpAny (model prog w) A (call (.builtin "list.append") [.ref D, v]) Q E s := by
  obtain ⟨o, ho, n, rfl⟩ := I.head
  refine wpAny_list_append_plain (items := vs.toArray) ⟨n, ho⟩ (fun h' hl hs => h _ (I.change hW hs ?_) hs) ?_
  · obtain ⟨n', e⟩ := hl
    exact ⟨_, e, n', by simp [PySem.W.listOf]⟩
  · have : (100000 : Nat) ≤ sizeLine := by decide
    rw [List.size_toArray]; omega
end

/-! ## comprehensions -/
def Adv (prog : Program) (w : World) (A : Around) (target : PySem.Expr) (it : Value) (env : Env) (E : Value → Shared → Prop) (X Y : Shared → Prop) (s : Shared) : Prop :=
  wpAny (model prog w) A (pyNext it) (fun r s₁ => match r with
    | none => X s₁
    | some v => wpAny (model prog w) A (letOwnedTupleGo target it v) (fun _ s₂ => wpAny (model prog w) A (assign target env v) (fun _ s₃ => Y s₃) E s₂) E s₁) E s

def testsT (ifs : List PySem.Expr) (env : Env) : Sem Bool := forIn ifs true fun c r => if r = true then do let ok ← isTrue c env (eval c env); pure (ForInStep.yield ok) else pure (ForInStep.yield r)

theorem comp_turns {prog : Program} {w : World} {A : Around} {R : Result → Shared → Prop} {s : Shared} {elt target iter : PySem.Expr} {ifs : List PySem.Expr} {scope : Scope} {pos : Pos} {it acc : Value} {env : Env} (I : Nat → Shared → Prop)
    (turn : ∀ n s, I n s → Adv prog w A target it env (notedBy (model prog w) A env fun e s' => R (.error e) s') (R (.ok .next)) (fun s₂ =>
          wpAny (model prog w) A (testsT ifs env) (fun ok s₃ =>
            if ok = true then wpAny (model prog w) A (eval elt env) (fun x s₄ =>
              wpAny (model prog w) A (call (.builtin "list.append") [acc, x]) (fun _ s₅ => ∃ m, m < n ∧ I m s₅) (notedBy (model prog w) A env fun e s' => R (.error e) s') s₄) (notedBy (model prog w) A env fun e s' => R (.error e) s') s₃
            else ∃ m, m < n ∧ I m s₃) (notedBy (model prog w) A env fun e s' => R (.error e) s') s₂) s)
    (n : Nat) (h : I n s) :
    codeAny (model prog w) A (.compLoop (.ListComp elt [⟨target, iter, ifs, 0⟩] scope pos) 0 it acc env) R s := by
  refine codeAny_loop rfl I (fun n s hI => ?_) n h
  show wpAny _ A ((compTurn (.ListComp elt [⟨target, iter, ifs, 0⟩] scope pos) 0 it acc env).onRaise (fun x => do noteFrame x env; theTreesLotGoes x)) _ _ s
  refine wpAny_noted ?_
  rw [compTurn_list]
  refine wpAny_bind (wpAny_standAt (wpAny_bind (wpAny_mono (turn n s hI) (fun r s₁ h₁ => ?_) fun _ _ h' => h')))
  cases r with
  | none => exact wpAny_pure h₁
  | some v =>
    refine wpAny_bind (wpAny_mono h₁ (fun _ s₁' h₁' => ?_) fun _ _ h' => h')
    refine wpAny_bind (wpAny_mono h₁' (fun _ s₂ h₂ => wpAny_bind (wpAny_mono h₂ (fun ok s₃ h₃ => ?_) fun _ _ h' => h')) fun _ _ h' => h')
    cases ok with
    | false => exact wpAny_pure ⟨rfl, h₃⟩
    | true =>
      exact wpAny_bind (wpAny_bind (wpAny_mono h₃ (fun x s₄ h₄ => wpAny_bind (wpAny_mono h₄ (fun _ s₅ h₅ => wpAny_pure (wpAny_pure ⟨rfl, h₅⟩)) fun _ _ h' => h')) fun _ _ h' => h'))

/-- a comprehension's own frame, with cells of its own -/
def compEnvX (scope : Scope) (cl : List (Str × Addr)) (C : Addr) (env : Env) : Env :=
  { scope := relabel scope env, locals := C, globals := env.globals, cells := cellsFrom (C + 1) scope.names cl, qual := env.qual, func := none, code := env.code, frame := env.frame, builtins := env.builtins }
/-- the cells that a comprehension at C makes -/
def newCells (scope : Scope) (C : Addr) : List (Str × Addr) := cellsFrom (C + 1) scope.names []

theorem comp_env {M : Model} {A : Around} {E : Value → Shared → Prop} {s : Shared} {b₀ : Heap} {scope : Scope} {globals : Addr} {cl : List (Str × Addr)} {qual : Str} {env : Env} {Q : Env → Shared → Prop} (hb : Kept b₀ s)
    (h : ∀ cenv s₁, cenv.locals = s.heap.objs.size → { cenv with scope := relabel scope env } = { compEnvX scope cl s.heap.objs.size env with globals := globals, qual := qual } →
      In b₀ s [] s.heap.objs.size (fun _ => none) (cellLed (fun _ => none) (newCells scope s.heap.objs.size)) s₁ → Q cenv s₁) :
    wpAny M A (newFunctionEnv scope globals cl [] qual none .none (some env)) Q E s := by
  simp only [newFunctionEnv, Option.isSome_some, if_true]
  refine wpAny_bind (wpAny_alloc ?_)
  refine wpAny_bind (wpAny_layCells _ (fun name kind cells => by cases hkc : kind == NameKind.cell <;> simp) _ _ _ _ ?_)
  have ok := cellsFrom_ok scope.names (s.heap.push { cls := .type "dict", data := .dict #[] }) (s.heap.objs.size + 1) [] ⟨fun _ _ hm => (nomatch hm), List.Pairwise.nil⟩ (by rw [Heap.size_push]; exact Nat.le_refl _)
  rw [Heap.size_push] at ok
  rw [show ({ s with heap := s.heap.push { cls := .type "dict", data := .dict #[] } } : Shared).heap.objs.size = s.heap.objs.size + 1 from Heap.size_push ..]
  simp only [List.forIn_nil]
  refine wpAny_bind (wpAny_pure (wpAny_pure (h _ _ rfl rfl ?_)))
  have hk : ∀ b o, s.heap.get? b = some o → (pushCells (s.heap.push { cls := .type "dict", data := .dict #[] }) scope.names).get? b = some o := fun b o e => pushCells_keeps _ _ b o (Heap.get?_push_of_some _ e)
  have hfr : ∀ a, s.heap.objs.size ≤ a → b₀.get? a = none := fun a ha => Kept.none hb (none_of_size ha)
  refine ⟨⟨_, _, rfl⟩, fun b o _ _ e => hk b o e, fun b o e => hk b o (hb b o e), fun b o e => ⟨o, hk b o e⟩, (Heap.Ns.new s.heap (.type "dict")).keeps (pushCells_keeps _ _), fun p hp => ?_, fun p hp => ?_, ?_, hfr _ (Nat.le_refl _)⟩
  · obtain ⟨n, c, hm, rfl⟩ := cellLed_mem hp
    exact (ok.empty n c hm).1
  · obtain ⟨n, c, hm, rfl⟩ := cellLed_mem hp
    have := (ok.empty n c hm).2
    exact ⟨hfr c (by show s.heap.objs.size ≤ c; omega), fun e => absurd this (by have e' : @Eq Nat c s.heap.objs.size := e; omega)⟩
  · rw [cellLed_keys]
    exact List.pairwise_map.mpr ok.apart

/-- the comprehension's loop, from the iterator on -/
theorem comp_block {prog : Program} {w : World} {A : Around} {E : Value → Shared → Prop} {env : Env} {b₀ : Heap} {s s₂ : Shared} {elt target iter : PySem.Expr} {ifs : List PySem.Expr} {scope : Scope} {cl : List (Str × Addr)} {pos : Pos} {I : Addr} {its : Ledger} {RR : Value → Addr → Result → Shared → Prop}
    (hb : Kept b₀ s) (x₂ : Ext b₀ [] s s₂) (hits : ∀ p ∈ its, s.heap.get? p.1 = none ∧ ∃ o, s₂.heap.get? p.1 = some o ∧ p.2 o) (hnd : (its.map (·.1)).Nodup)
    (n : Nat) (hn : n < 100000) (p : Nat → Bool) (J : Addr → Nat → List Value → Heap → Prop) (Tv Bd : Addr → Nat → (Str → Option Value) → Ledger → Prop)
    (start : ∀ C, Tv C 0 (fun _ => none) (its ++ cellLed (fun _ => none) (newCells scope C)))
    (self : ∀ C m led s₁ (Q : Value → Shared → Prop) E, Tv C 0 m led → In b₀ s [] C m led s₁ → Q (.ref I) s₁ → wpAny (model prog w) A (pyIter (.ref I)) Q E s₁)
    (adv : ∀ C i m led D P s₁ E X Y, (∀ b o, s.heap.get? b = some o → b < C) → (∀ p ∈ its, p.1 < C) → i ≤ n → Tv C i m led → In b₀ s [] C m ((D, P) :: led) s₁ → s.heap.get? D = none →
      (i < n → ∀ m' led' s', Bd C i m' led' → In b₀ s [] C m' ((D, P) :: led') s' → (∀ a o, C < a → a ∉ (newCells scope C).map (·.2) → s₁.heap.get? a = some o → s'.heap.get? a = some o) → Y s') →
      (i = n → ∀ m' s', In b₀ s [] C m' [(D, P)] s' → (∀ a o, C < a → a ∉ (newCells scope C).map (·.2) → s₁.heap.get? a = some o → s'.heap.get? a = some o) → X s') →
      Adv prog w A target (.ref I) (compEnvX scope cl C env) E X Y s₁)
    (nxt : ∀ C i m led, Bd C i m led → Tv C (i + 1) m led)
    (J0 : ∀ C h, J C 0 [] h)
    (Jst : ∀ C i ys h h', J C i ys h → (∀ a o, C < a → a ∉ (newCells scope C).map (·.2) → h.get? a = some o → h'.get? a = some o) → J C i ys h')
    (tests : ∀ C i ys m led s₁ E', s.heap.get? C = none → i < n → Bd C i m led → In b₀ s [] C m led s₁ → J C i ys s₁.heap →
      wpAny (model prog w) A (testsT ifs (compEnvX scope cl C env)) (fun ok s₂ => ok = p i ∧ Ext b₀ [] s₁ s₂ ∧ (p i = false → J C (i + 1) ys s₂.heap)) E' s₁)
    (helt : ∀ C i ys m led s₁ E', s.heap.get? C = none → i < n → p i = true → Bd C i m led → In b₀ s [] C m led s₁ → J C i ys s₁.heap →
      wpAny (model prog w) A (eval elt (compEnvX scope cl C env)) (fun y s₂ => Ext b₀ [] s₁ s₂ ∧ J C (i + 1) (ys ++ [y]) s₂.heap) E' s₁)
    (hR : ∀ D C ys m s', s.heap.get? D = none → s.heap.get? C = none → D < C → (∀ b o, s.heap.get? b = some o → b < D) → In b₀ s [] C m [(D, aL ys)] s' → J C n ys s'.heap → RR (.ref D) C (.ok .next) s') :
    wpAny (model prog w) A (newList []) (fun acc s₃ => wpAny (model prog w) A (newFunctionEnv scope env.globals cl [] env.qual none .none (some env)) (fun cenv s₄ =>
      codeAny (model prog w) A (.compStart (.ListComp elt [⟨target, iter, ifs, 0⟩] scope pos) 0 (.ref I) acc { cenv with scope := relabel scope env }) (RR acc cenv.locals) s₄) E s₃) E s₂ := by
  refine wpAny_newObj_type ?_
  generalize hs₃ : ({ s₂ with heap := s₂.heap.push { cls := .type "list", dict := none, data := .seq ([] : List Value).toArray } } : Shared) = s₃
  have hk₃ : ∀ b o, s₂.heap.get? b = some o → s₃.heap.get? b = some o := fun b o e => by rw [← hs₃]; exact Heap.get?_push_of_some _ e
  have hD₃ : s₃.heap.get? s₂.heap.objs.size = some { cls := .type "list", dict := none, data := .seq ([] : List Value).toArray } := by rw [← hs₃]; exact Heap.get?_push_size _ rfl
  have hz₃ : s₃.heap.objs.size = s₂.heap.objs.size + 1 := by rw [← hs₃]; exact Heap.size_push ..
  have hkept₃ : Kept b₀ s₃ := fun b o e => hk₃ b o (x₂.base b o e)
  refine comp_env (env := env) hkept₃ fun cenv s₄ hcl hce I₄ => ?_
  have hce' : ({ cenv with scope := relabel scope env } : Env) = compEnvX scope cl s₃.heap.objs.size env := hce
  rw [hce', hcl]
  generalize hC : s₃.heap.objs.size = C at *
  generalize hDd : s₂.heap.objs.size = D at *
  have hsD : s.heap.get? D = none := by
    cases q : s.heap.get? D with
    | none => rfl
    | some o => have := Heap.lt_size (x₂.keep _ _ (by simp) q); rw [hDd] at this; exact absurd this (Nat.lt_irrefl _)
  have hsC : s.heap.get? C = none := by
    cases q : s.heap.get? C with
    | none => rfl
    | some o => have this : (C : Nat) < D := hDd ▸ Heap.lt_size (x₂.keep _ _ (by simp) q); omega
  have hDC : D < C := by omega
  have hIlt : ∀ p ∈ its, p.1 < D := fun p hp => by obtain ⟨_, o, ho, _⟩ := hits p hp; have := Heap.lt_size ho; rw [hDd] at this; exact this
  have hk₄ : ∀ b o, s₃.heap.get? b = some o → s₄.heap.get? b = some o := fun b o e => I₄.keep b o (by simp) (by rintro rfl; have := Heap.lt_size e; rw [hC] at this; exact Nat.lt_irrefl _ this) e
  have hcab : ∀ p ∈ cellLed (fun _ => none) (newCells scope C), C < p.1 := by
    intro p hp
    obtain ⟨h1, h2⟩ := I₄.new p hp
    have hcm := (cellsFrom_ok scope.names (s₃.heap.push { cls := .type "dict", data := .dict #[] }) (C + 1) [] ⟨fun _ _ hm => (nomatch hm), List.Pairwise.nil⟩ (by rw [Heap.size_push, hC]; exact Nat.le_refl _))
    rw [Heap.size_push, hC] at hcm
    obtain ⟨n', c, hm, rfl⟩ := cellLed_mem hp
    have := (hcm.empty n' c hm).2
    show C < c
    omega
  have I₅ : In b₀ s [] C (fun _ => none) ((D, aL []) :: (its ++ cellLed (fun _ => none) (newCells scope C))) s₄ := by
    have base : In b₀ s [] C (fun _ => none) (cellLed (fun _ => none) (newCells scope C)) s₄ := by
      refine ⟨?_, fun b o _ _ e => hk₄ b o (hk₃ b o (x₂.keep b o (by simp) e)), I₄.base, fun b o e => ⟨o, hk₄ b o (hk₃ b o (x₂.keep b o (by simp) e))⟩, I₄.ns, I₄.own, I₄.new, I₄.apart, I₄.newL⟩
      obtain ⟨h, tk, rfl⟩ := x₂.same
      obtain ⟨h', tk', e'⟩ := I₄.same
      subst hs₃
      exact ⟨h', tk', e'⟩
    have i1 : In b₀ s [] C (fun _ => none) (its ++ cellLed (fun _ => none) (newCells scope C)) s₄ := by
      refine base.adopts (fun p hp => ?_) hnd
      obtain ⟨h1, o, ho, hp'⟩ := hits p hp
      refine ⟨⟨o, hk₄ _ _ (hk₃ _ _ ho), hp'⟩, Kept.none hb h1, Nat.ne_of_lt (Nat.lt_trans (hIlt p hp) hDC), ?_⟩
      intro hm; obtain ⟨q, hq, e⟩ := List.mem_map.mp hm; exact Nat.ne_of_gt (Nat.lt_trans (hIlt p hp) (Nat.lt_trans hDC (hcab q hq))) e
    refine i1.adopt ⟨_, hk₄ _ _ hD₃, 0, rfl⟩ (Kept.none hb hsD) (Nat.ne_of_lt hDC) ?_
    intro hm
    rw [List.map_append] at hm
    rcases List.mem_append.mp hm with hm | hm
    · obtain ⟨q, hq, e⟩ := List.mem_map.mp hm; exact Nat.ne_of_lt (hIlt q hq) e
    · obtain ⟨p, hp, e⟩ := List.mem_map.mp hm; exact Nat.ne_of_gt (Nat.lt_trans hDC (hcab p hp)) e
  have loop : codeAny (model prog w) A (.compLoop (.ListComp elt [⟨target, iter, ifs, 0⟩] scope pos) 0 (.ref I) (.ref D) (compEnvX scope cl C env)) (RR (.ref D) C) s₄ := by
    refine comp_turns (fun k s' => ∃ i m led ys, i ≤ n ∧ k = n + 1 - i ∧ ys.length ≤ i ∧ Tv C i m led ∧ In b₀ s [] C m ((D, aL ys) :: led) s' ∧ J C i ys s'.heap) ?_ (n + 1)
      ⟨0, _, _, [], Nat.zero_le _, rfl, Nat.le_refl _, start C, I₅, J0 _ _⟩
    rintro k s' ⟨i, m, led, ys, hi, rfl, hys, hT, Ii, hJ⟩
    refine adv C i m led D (aL ys) s' _ _ _ (fun b o e => Nat.lt_trans (hDd ▸ Heap.lt_size (x₂.keep b o (by simp) e)) hDC) (fun p hp => Nat.lt_trans (hIlt p hp) hDC) hi hT Ii hsD (fun hlt m' led' s₁ hBd I₁ hkeep => ?_) (fun he m' s₁ I₁ hkeep => ?_)
    · have hJ₁ := Jst _ _ _ _ _ hJ hkeep
      refine wpAny_mono (tests C i ys m' led' s₁ _ hsC hlt hBd I₁.tail hJ₁) (fun ok s₂ h₂ => ?_) fun _ _ e => e
      obtain ⟨rfl, y₂, hJf⟩ := h₂
      have I₂ := I₁.ext y₂
      cases hp : p i with
      | false =>
        simp only [Bool.false_eq_true, if_false]
        exact ⟨n + 1 - (i + 1), by omega, i + 1, m', led', ys, hlt, rfl, by omega, nxt _ _ _ _ hBd, I₂, hJf hp⟩
      | true =>
        simp only [if_true]
        have hJ₂ : J C i ys s₂.heap := Jst _ _ _ _ _ hJ₁ fun a o _ _ e => y₂.keep a o (by simp) e
        refine wpAny_mono (helt C i ys m' led' s₂ _ hsC hlt hp hBd I₂.tail hJ₂) (fun y s₃ h₃ => ?_) fun _ _ e => e
        obtain ⟨y₃, hJ₃⟩ := h₃
        refine (I₂.ext y₃).append (.inr hsD) (by omega) fun s₅ I₅ hsb => ?_
        refine ⟨n + 1 - (i + 1), by omega, i + 1, m', led', ys ++ [y], hlt, rfl, by simp; omega, nxt _ _ _ _ hBd, I₅, Jst _ _ _ _ _ hJ₃ fun a o ha _ e => (hsb.2 a (Nat.ne_of_gt (Nat.lt_trans hDC ha))).trans e⟩
    · subst he
      exact hR D C ys m' s₁ hsD hsC hDC (fun b o e => hDd ▸ Heap.lt_size (x₂.keep b o (by simp) e)) I₁ (Jst _ _ _ _ _ hJ hkeep)
  exact codeAny_compStart_list loop (self C _ _ s₄ _ _ (start C) I₅.tail loop)
end Mine
end
section
open PySem PySem.W PyProof.Rows PySem.Calls
open Sem (wp)
set_option maxRecDepth 100000
set_option maxHeartbeats 4000000
set_option linter.unusedVariables false
namespace Mine
/-! ## what a comprehension walks -/
abbrev Bound := Addr → Nat → Heap → Prop
abbrev Stg := Addr → Nat → (Str → Option Value) → Ledger → Prop
structure It (prog : Program) (w : World) (A : Around) (env : Env) (scope : Scope) (cl : List (Str × Addr)) (target : PySem.Expr) (b₀ : Heap) (s : Shared) (n : Nat) (Bu : Bound) (I : Addr) (its : Ledger) (Tv Bd : Stg) : Prop where
  start : ∀ C, Tv C 0 (fun _ => none) (its ++ cellLed (fun _ => none) (newCells scope C))
  self : ∀ C m led s₁ (Q : Value → Shared → Prop) E, Tv C 0 m led → In b₀ s [] C m led s₁ → Q (.ref I) s₁ → wpAny (model prog w) A (pyIter (.ref I)) Q E s₁
  adv : ∀ C i m led D P s₁ E X Y, (∀ b o, s.heap.get? b = some o → b < C) → (∀ p ∈ its, p.1 < C) → i ≤ n → Tv C i m led → In b₀ s [] C m ((D, P) :: led) s₁ → s.heap.get? D = none →
      (i < n → ∀ m' led' s', Bd C i m' led' → In b₀ s [] C m' ((D, P) :: led') s' → (∀ a o, C < a → a ∉ (newCells scope C).map (·.2) → s₁.heap.get? a = some o → s'.heap.get? a = some o) → Y s') →
      (i = n → ∀ m' s', In b₀ s [] C m' [(D, P)] s' → (∀ a o, C < a → a ∉ (newCells scope C).map (·.2) → s₁.heap.get? a = some o → s'.heap.get? a = some o) → X s') →
      Adv prog w A target (.ref I) (compEnvX scope cl C env) E X Y s₁
  nxt : ∀ C i m led, Bd C i m led → Tv C (i + 1) m led
  see : ∀ C i m led s₁, Bd C i m led → In b₀ s [] C m led s₁ → Bu C i s₁.heap
/-- the expression is a source of n turns -/
def Itr (prog : Program) (w : World) (A : Around) (env : Env) (scope : Scope) (cl : List (Str × Addr)) (target : PySem.Expr) (b₀ : Heap) (n : Nat) (Bu : Bound) (iter : PySem.Expr) (s₀ : Shared) : Prop :=
  ∀ (Q : Value → Shared → Prop) (E : Value → Shared → Prop), (∀ I sb s₂ its Tv Bd, Ext b₀ [] s₀ sb → Ext b₀ [] sb s₂ → (∀ p ∈ its, sb.heap.get? p.1 = none ∧ ∃ o, s₂.heap.get? p.1 = some o ∧ p.2 o) → (its.map (·.1)).Nodup → It prog w A env scope cl target b₀ sb n Bu I its Tv Bd → Q (.ref I) s₂) →
    wpAny (model prog w) A (eval iter env) (fun x s₁ => wpAny (model prog w) A (pyIter x) Q E s₁) E s₀
/-- the value x is a source of n turns -/
def Src (prog : Program) (w : World) (A : Around) (env : Env) (scope : Scope) (cl : List (Str × Addr)) (target : PySem.Expr) (b₀ : Heap) (n : Nat) (Bu : Bound) (x : Value) (s : Shared) : Prop :=
  ∀ (Q : Value → Shared → Prop) (E : Value → Shared → Prop), (∀ I s₂ its Tv Bd, Ext b₀ [] s s₂ → (∀ p ∈ its, s.heap.get? p.1 = none ∧ ∃ o, s₂.heap.get? p.1 = some o ∧ p.2 o) → (its.map (·.1)).Nodup → It prog w A env scope cl target b₀ s n Bu I its Tv Bd → Q (.ref I) s₂) →
    wpAny (model prog w) A (pyIter x) Q E s
theorem Itr.of {prog : Program} {w : World} {A : Around} {env : Env} {scope : Scope} {cl : List (Str × Addr)} {target : PySem.Expr} {b₀ : Heap} {n : Nat} {Bu : Bound} {iter : PySem.Expr} {s₀ : Shared}
    (h : EEv prog w A env b₀ s₀ iter (fun x s => Src prog w A env scope cl target b₀ n Bu x s)) : Itr prog w A env scope cl target b₀ n Bu iter s₀ := fun Q E hQ =>
  h _ _ fun x s y hs => hs _ _ fun I s₂ its Tv Bd x₂ h1 h2 T => hQ I s s₂ its Tv Bd y x₂ h1 h2 T

section
variable {prog : Program} {w : World} {A : Around} {E : Value → Shared → Prop} {env : Env} {b₀ : Heap} {s₀ : Shared} {elt target iter : PySem.Expr} {ifs : List PySem.Expr} {scope : Scope} {cl : List (Str × Addr)} {pos : Pos}

theorem comp_walk {use : Option (Value → Sem Unit)} {Q : Value → Shared → Prop} {ps : Pos} (hb : Kept b₀ s₀) (n : Nat) (p : Nat → Bool) (J : Addr → Nat → List Value → Heap → Prop) (Bu : Bound)
    (hiter : Itr prog w A env scope cl target b₀ n Bu iter s₀)
    (hn : n < 100000) (hclos : closureFor scope env = pure cl) (hkind : scope.kind = .function) (hnames : ∀ y ∈ scope.names, y.2 = .local → scope.names.lookup y.1 = some .local)
    (J0 : ∀ C h, J C 0 [] h)
    (Jst : ∀ C i ys h h', J C i ys h → (∀ a o, C < a → a ∉ (newCells scope C).map (·.2) → h.get? a = some o → h'.get? a = some o) → J C i ys h')
    (tests : ∀ C i ys s₁ E', i < n → Ext b₀ [] s₀ s₁ → s₀.heap.get? C = none → Bu C i s₁.heap → J C i ys s₁.heap →
      wpAny (model prog w) A (testsT ifs (compEnvX scope cl C env)) (fun ok s₂ => ok = p i ∧ Ext b₀ [] s₁ s₂ ∧ (p i = false → J C (i + 1) ys s₂.heap)) E' s₁)
    (helt : ∀ C i ys s₁ E', i < n → p i = true → Ext b₀ [] s₀ s₁ → s₀.heap.get? C = none → (C < s₁.heap.objs.size) → Bu C i s₁.heap → J C i ys s₁.heap →
      wpAny (model prog w) A (eval elt (compEnvX scope cl C env)) (fun y s₂ => Ext b₀ [] s₁ s₂ ∧ J C (i + 1) (ys ++ [y]) s₂.heap) E' s₁)
    (hQ : ∀ D C ys m s', s₀.heap.get? D = none → s₀.heap.get? C = none → D < C → (∀ b o, s₀.heap.get? b = some o → b < D) → s'.heap.Ns C m → Ext b₀ [] s₀ s' → (∃ o, s'.heap.get? D = some o ∧ aL ys o) → J C n ys s'.heap →
      compPost (model prog w) A E use Q (.ref D) C (.ok .next) s')
    (hs : ∀ x, foldedSetIterable iter env x = pure x := by intro _; rfl) :
    wpAny (model prog w) A (comprehension (.ListComp elt [⟨target, iter, ifs, 0⟩] scope pos) scope env ps (newList []) false (eval iter env) use) Q E s₀ := by
  refine wpAny_comprehension_free (use := use) (g := ⟨target, iter, ifs, 0⟩) (gs := []) rfl hs hclos hkind hnames (hiter _ _ fun I s s₂ its Tv Bd y₁ x₂ hits hnd T => ?_)
  have back : ∀ {a : Addr}, s.heap.get? a = none → s₀.heap.get? a = none := fun {a} h => by
    cases q : s₀.heap.get? a with
    | none => rfl
    | some o => rw [y₁.keep _ _ (by simp) q] at h; cases h
  refine comp_block (RR := fun acc C => compPost (model prog w) A E use Q acc C) y₁.base x₂ hits hnd n hn p J Tv Bd T.start T.self T.adv T.nxt J0 Jst ?_ ?_ ?_
  · intro C i ys m led s₁ E' hC hi hBd I₁ hJ
    exact tests C i ys s₁ E' hi (y₁.trans (I₁.exit hC)) (back hC) (T.see _ _ _ _ _ hBd I₁) hJ
  · intro C i ys m led s₁ E' hC hi hp hBd I₁ hJ
    exact helt C i ys s₁ E' hi hp (y₁.trans (I₁.exit hC)) (back hC) I₁.ns.lt (T.see _ _ _ _ _ hBd I₁) hJ
  · intro D C ys m s' hD hC hDC hab I' hJ
    exact hQ D C ys m s' (back hD) (back hC) hDC (fun b o e => hab b o (y₁.keep b o (by simp) e)) I'.ns (y₁.trans (I'.exit hC)) I'.head hJ

/-- a comprehension as an expression -/
theorem comp_eval {Q : Value → Shared → Prop} (hb : Kept b₀ s₀) (n : Nat) (p : Nat → Bool) (J : Addr → Nat → List Value → Heap → Prop) (Bu : Bound)
    (hiter : Itr prog w A env scope cl target b₀ n Bu iter s₀)
    (hn : n < 100000) (hclos : closureFor scope env = pure cl) (hkind : scope.kind = .function) (hnames : ∀ y ∈ scope.names, y.2 = .local → scope.names.lookup y.1 = some .local)
    (J0 : ∀ C h, J C 0 [] h)
    (Jst : ∀ C i ys h h', J C i ys h → (∀ a o, C < a → a ∉ (newCells scope C).map (·.2) → h.get? a = some o → h'.get? a = some o) → J C i ys h')
    (tests : ∀ C i ys s₁ E', i < n → Ext b₀ [] s₀ s₁ → s₀.heap.get? C = none → Bu C i s₁.heap → J C i ys s₁.heap →
      wpAny (model prog w) A (testsT ifs (compEnvX scope cl C env)) (fun ok s₂ => ok = p i ∧ Ext b₀ [] s₁ s₂ ∧ (p i = false → J C (i + 1) ys s₂.heap)) E' s₁)
    (helt : ∀ C i ys s₁ E', i < n → p i = true → Ext b₀ [] s₀ s₁ → s₀.heap.get? C = none → (C < s₁.heap.objs.size) → Bu C i s₁.heap → J C i ys s₁.heap →
      wpAny (model prog w) A (eval elt (compEnvX scope cl C env)) (fun y s₂ => Ext b₀ [] s₁ s₂ ∧ J C (i + 1) (ys ++ [y]) s₂.heap) E' s₁)
    (hQ : ∀ D C ys s', s₀.heap.get? D = none → D < C → Ext b₀ [] s₀ s' → (∃ o, s'.heap.get? D = some o ∧ aL ys o) → J C n ys s'.heap → Q (.ref D) s')
    (hs : ∀ x, foldedSetIterable iter env x = pure x := by intro _; rfl) :
    wpAny (model prog w) A (eval (.ListComp elt [⟨target, iter, ifs, 0⟩] scope pos) env) Q E s₀ := by
  rw [eval_ListComp]
  refine comp_walk (use := none) hb n p J Bu hiter hn hclos hkind hnames J0 Jst tests helt ?_ hs
  intro D C ys m s' hD hC hDC hab hns x' hDo hJ
  refine ⟨m, hns, fun h' hs' => hQ D C ys _ hD hDC ?_ ?_ ?_⟩
  · obtain ⟨h, tk, rfl⟩ := x'.same
    have ne : ∀ b o, s₀.heap.get? b = some o → b ≠ C := fun b o e => by rintro rfl; rw [hC] at e; cases e
    exact ⟨⟨h', tk, rfl⟩, fun b o hb' e => (hs'.2 b (ne b o e)).trans (x'.keep b o hb' e), fun b o e => (hs'.2 b (ne b o (hb b o e))).trans (x'.base b o e), fun b o e => let ⟨o', e'⟩ := x'.live b o e; ⟨o', (hs'.2 b (ne b o e)).trans e'⟩⟩
  · obtain ⟨o, ho, hp⟩ := hDo
    exact ⟨o, (hs'.2 D (Nat.ne_of_lt hDC)).trans ho, hp⟩
  · exact Jst _ _ _ _ _ hJ fun a o ha _ e => (hs'.2 a (Nat.ne_of_gt ha)).trans e

/-- a comprehension whose list a local name takes -/
theorem comp_assign {Q : Flow → Shared → Prop} {W : List Addr} {m : Str → Option Value} {led : Ledger} {s : Shared} {y : Str} {py spos : Pos} (I₀ : In b₀ s W env.locals m led s₀) (n : Nat) (p : Nat → Bool) (J : Addr → Nat → List Value → Heap → Prop) (Bu : Bound)
    (hiter : Itr prog w A env scope cl target b₀ n Bu iter s₀)
    (hn : n < 100000) (hclos : closureFor scope env = pure cl) (hkind : scope.kind = .function) (hnames : ∀ y ∈ scope.names, y.2 = .local → scope.names.lookup y.1 = some .local)
    (J0 : ∀ C h, J C 0 [] h)
    (Jst : ∀ C i ys h h', J C i ys h → (∀ a o, C < a → a ∉ (newCells scope C).map (·.2) → h.get? a = some o → h'.get? a = some o) → J C i ys h')
    (tests : ∀ C i ys s₁ E', i < n → Ext b₀ [] s₀ s₁ → s₀.heap.get? C = none → Bu C i s₁.heap → J C i ys s₁.heap →
      wpAny (model prog w) A (testsT ifs (compEnvX scope cl C env)) (fun ok s₂ => ok = p i ∧ Ext b₀ [] s₁ s₂ ∧ (p i = false → J C (i + 1) ys s₂.heap)) E' s₁)
    (helt : ∀ C i ys s₁ E', i < n → p i = true → Ext b₀ [] s₀ s₁ → s₀.heap.get? C = none → (C < s₁.heap.objs.size) → Bu C i s₁.heap → J C i ys s₁.heap →
      wpAny (model prog w) A (eval elt (compEnvX scope cl C env)) (fun y s₂ => Ext b₀ [] s₁ s₂ ∧ J C (i + 1) (ys ++ [y]) s₂.heap) E' s₁)
    (hQ : ∀ D C ys s', s.heap.get? D = none → s₀.heap.get? D = none → D < C → (∀ b o, s₀.heap.get? b = some o → b < D) → In b₀ s W env.locals (fun z => if z = y then some (.ref D) else m z) ((D, aL ys) :: led) s' → J C n ys s'.heap → Q .next s')
    (hk : env.scope.kind = .function := by rfl) (hl : env.kindOf y = some .local := by rfl)
    (hsw : swapsWith (.ListComp elt [⟨target, iter, ifs, 0⟩] scope pos) (some (.Name y py)) spos.line env = pure true := by rfl)
    (hs : ∀ x, foldedSetIterable iter env x = pure x := by intro _; rfl) :
    wpAny (model prog w) A (exec (.Assign [.Name y py] (.ListComp elt [⟨target, iter, ifs, 0⟩] scope pos) spos) env) Q E s₀ := by
  rw [exec_Assign_Name_used _ _ _ _ hsw]
  refine wpAny_bind (wpAny_standAt (wpAny_bind ?_))
  show wpAny _ A (do let _ ← comprehension (.ListComp elt [⟨target, iter, ifs, 0⟩] scope pos) scope env _ (newList []) false (eval iter env) (some (assign (.Name y py) env))) _ _ s₀
  refine wpAny_bind (wpAny_mono (comp_walk (use := some (assign (.Name y py) env)) (Q := fun _ s' => Q .next s') I₀.base n p J Bu hiter hn hclos hkind hnames J0 Jst tests helt ?_ hs) (fun _ s' hq => wpAny_pure (wpAny_pure hq)) fun _ _ e => e)
  intro D C ys m' s' hD hC hDC hab hns x' hDo hJ
  obtain ⟨I₁, hsD⟩ := I₀.gain x' hD hDo
  have hLlt : env.locals < D := by obtain ⟨o, _, _, ho, _⟩ := I₀.ns; exact hab _ _ ho
  have hLC : env.locals ≠ C := Nat.ne_of_lt (Nat.lt_trans hLlt hDC)
  show wpAny (model prog w) A (assign (.Name y py) env (.ref D)) (fun _ s'' => ∃ m, s''.heap.Ns C m ∧ ∀ h', Heap.SameBut C s''.heap h' → Q .next { s'' with heap := h' }) E s'
  refine wpAny_assign_Name (wpAny_storeName_local hl I₁.ns (fun h₂ hn₂ hs₂ => ?_) (by rw [hk]; rfl))
  refine ⟨m', hns.sameBut hs₂ (Ne.symm hLC), fun h₃ hs₃ => ?_⟩
  have I₂ := I₁.set (tk := s'.toks + 1) hn₂ hs₂
  have hsC : s.heap.get? C = none := by
    cases q : s.heap.get? C with
    | none => rfl
    | some o => obtain ⟨o', e⟩ := I₀.live _ _ q; rw [hC] at e; cases e
  refine hQ D C ys _ hsD hD hDC hab (I₂.dead (tk := _) hs₃ hsC (Kept.none I₀.base hC) (Ne.symm hLC) ?_) (Jst _ _ _ _ _ hJ fun a o ha _ e => (hs₃.2 a (Nat.ne_of_gt ha)).trans ((hs₂.2 a (Nat.ne_of_gt (Nat.lt_trans hLlt (Nat.lt_trans hDC ha)))).trans e))
  intro hm
  rcases List.mem_cons.mp hm with e | hm
  · exact Nat.ne_of_gt hDC e
  · obtain ⟨q, hq, rfl⟩ := List.mem_map.mp hm
    obtain ⟨o, ho, _⟩ := I₀.own q hq
    rw [hC] at ho; cases ho
end
end Mine
end
section
open PySem PySem.W PyProof.Rows PySem.Calls
open Sem (wp)
set_option maxRecDepth 100000
set_option maxHeartbeats 4000000
set_option linter.unusedVariables false
namespace Mine
section
variable {b₀ : Heap} {s₀ s : Shared} {W : List Addr} {L I : Addr} {m : Str → Option Value} {led led' : Ledger} {h' : Heap} {tk : Nat}
theorem In.perm (x : In b₀ s₀ W L m led s) (hp : List.Perm led led') : In b₀ s₀ W L m led' s := x.less (fun p h => hp.mem_iff.mpr h) ((hp.map _).nodup_iff.mp x.apart)
/-- an object outside the ledger may go -/
theorem In.outBut (x : In b₀ s₀ W L m led s) (he : Heap.ExtBut I s.heap h') (hI : s₀.heap.get? I = none) (hb : b₀.get? I = none) (hL : I ≠ L) (hf : I ∉ led.map (·.1)) : In b₀ s₀ W L m led { s with heap := h', toks := tk } := by
  refine ⟨?_, fun b o hb hL e => he b o (by rintro rfl; rw [hI] at e; cases e) (x.keep b o hb hL e), fun b o e => he b o (by rintro rfl; rw [hb] at e; cases e) (x.base b o e), (fun b o e => let ⟨o', e'⟩ := x.live b o e; ⟨o', he b o' (by rintro rfl; rw [hI] at e; cases e) e'⟩), x.ns.at' fun o e => he _ o (Ne.symm hL) e, fun p hp => ?_, x.new, x.apart, x.newL⟩
  · obtain ⟨h, t, rfl⟩ := x.same; exact ⟨h', tk, rfl⟩
  · obtain ⟨o, ho, hp'⟩ := x.own p hp
    exact ⟨o, he _ o (fun e => hf (e ▸ (List.mem_map_of_mem (f := (·.1)) hp))) ho, hp'⟩
end

/-! ## targets -/
abbrev Frsh := Addr → (Str → Option Value) → Ledger → Prop
structure Tgt (prog : Program) (w : World) (A : Around) (env : Env) (scope : Scope) (cl : List (Str × Addr)) (target : PySem.Expr) (b₀ : Heap) (s : Shared) (Vu : Addr → Value → Heap → Prop) (fresh : Frsh) (Bt : Addr → Value → (Str → Option Value) → Ledger → Prop) : Prop where
  init : ∀ C, fresh C (fun _ => none) (cellLed (fun _ => none) (newCells scope C))
  put : ∀ C m led v D P I PI s₁ E (Y : Shared → Prop), fresh C m led → (∀ b o, s.heap.get? b = some o → b < C) → I < C → s.heap.get? D = none → In b₀ s [] C m ((D, P) :: (I, PI) :: led) s₁ →
    (∀ m' led' s', Bt C v m' led' → fresh C m' led' → In b₀ s [] C m' ((D, P) :: (I, PI) :: led') s' → (∀ a o, C < a → a ∉ (newCells scope C).map (·.2) → s₁.heap.get? a = some o → s'.heap.get? a = some o) → Y s') →
    wpAny (model prog w) A (assign target (compEnvX scope cl C env) v) (fun _ s₂ => Y s₂) E s₁
  see : ∀ C v m led p s₁, Bt C v m led → In b₀ s [] C m (p :: led) s₁ → Vu C v s₁.heap
  tup : ∀ it v, letOwnedTupleGo target it v = pure ()

abbrev Tgts (prog : Program) (w : World) (A : Around) (env : Env) (scope : Scope) (cl : List (Str × Addr)) (target : PySem.Expr) (b₀ : Heap) (s : Shared) (Vu : Addr → Value → Heap → Prop) : Prop := ∃ fresh Bt, Tgt prog w A env scope cl target b₀ s Vu fresh Bt

section
variable {prog : Program} {w : World} {A : Around} {env : Env} {scope : Scope} {cl : List (Str × Addr)} {b₀ : Heap} {s : Shared} {x : Str} {px : Pos}
/-- a local name -/
abbrev vLoc (x : Str) : Addr → Value → Heap → Prop := fun C v h => ∃ m, h.Ns C m ∧ m x = some v
/-- a cell of the comprehension's own -/
abbrev vCell : Addr → Value → Heap → Prop := fun C v h => h.IsCell (C + 1) (some v)

theorem tgt_local (hl : ∀ C, (compEnvX scope cl C env).kindOf x = some .local) (hk : scope.kind = .function) (hnc : ∀ C, newCells scope C = []) : Tgts prog w A env scope cl (.Name x px) b₀ s (vLoc x) := by
  refine ⟨fun C m led => led = [], fun C v m led => m x = some v, ?_, ?_, ?_, fun _ _ => rfl⟩
  · intro C; show cellLed _ (newCells scope C) = []; rw [hnc]; rfl
  · rintro C m _ v D P I PI s₁ E Y rfl hab hIC hD J hY
    refine wpAny_assign_Name (wpAny_storeName_local (hl C) J.ns (fun h₂ hn₂ hs₂ => ?_) ?_)
    · exact hY _ _ _ (by simp) rfl (J.set (tk := s₁.toks + 1) hn₂ hs₂) fun a o ha _ e => (hs₂.2 a (Nat.ne_of_gt ha)).trans e
    · show (scope.kind == _ || (scope.kind == _ && _)) = false
      rw [hk]; rfl
  · intro C v m led p s₁ hm J
    exact ⟨m, J.ns, hm⟩
theorem tgt_cell (hl : ∀ C, (compEnvX scope cl C env).kindOf x = some .cell) (hk : scope.kind = .function) (hnc : ∀ C, newCells scope C = [(x, C + 1)]) (hcc : ∀ C, (compEnvX scope cl C env).cells.lookup x = some (C + 1)) :
    Tgts prog w A env scope cl (.Name x px) b₀ s vCell := by
  refine ⟨fun C m led => ∃ v, led = [(C + 1, aC v)], fun C v m led => led = [(C + 1, aC (some v))], ?_, ?_, ?_, fun _ _ => rfl⟩
  · intro C; refine ⟨none, ?_⟩; rw [hnc]; rfl
  · rintro C m _ v D P I PI s₁ E Y ⟨v₀, rfl⟩ hab hIC hD J hY
    have J' : In b₀ s [] C m ((C + 1, aC v₀) :: (D, P) :: [(I, PI)]) s₁ := J.perm (by
      refine List.Perm.trans (List.Perm.cons _ (List.Perm.swap ..)) (List.Perm.swap ..))
    have hfr : s.heap.get? (C + 1) = none := by
      cases q : s.heap.get? (C + 1) with
      | none => rfl
      | some o => exact absurd (hab _ _ q) (Nat.not_lt.mpr (Nat.le_succ _))
    have hcell : s₁.heap.IsCell (C + 1) v₀ := J'.head
    refine wpAny_assign_Name (wpAny_storeName_cell (c := C + 1) (show (relabel scope env).kind = _ from hk) (hl C) (hcc C) hcell fun h₂ hn₂ hs₂ => ?_)
    refine hY _ _ _ rfl ⟨_, rfl⟩ ((J'.change (tk := s₁.toks) (P' := aC (some v)) (.inr hfr) hs₂ hn₂).perm (List.Perm.trans (List.Perm.swap ..) (List.Perm.cons _ (List.Perm.swap ..)))) fun a o ha hna e => (hs₂.2 a ?_).trans e
    rintro rfl
    exact hna (by rw [hnc]; exact List.Mem.head _)
  · intro C v m led p s₁ hm J
    subst hm
    exact J.tail.head

/-! ## sources -/
variable {n : Nat} {Vu : Addr → Value → Heap → Prop} {target : PySem.Expr}
theorem src_range {r : Addr} {a b c : Int} {t u v : Tok} (T : Tgts prog w A env scope cl target b₀ s Vu) (hh : A.handled = none) (hb : Kept b₀ s) (hr : IsRange s.heap r a b c t u v) (hsmall : Builtin.Range.small a b c = true) (hsize : Builtin.Range.rangeSize a b c = (n : Int)) :
    Src prog w A env scope cl target b₀ n (fun C i h => ∃ t, Vu C (.int (a + (i : Int) * c) t) h) (.ref r) s := by
  obtain ⟨fresh, Bt, T⟩ := T
  intro Q E hQ
  refine wpAny_pyIter_range hr hsmall ?_
  rw [hsize]
  have hIn : s.heap.get? s.heap.objs.size = none := none_of_size (Nat.le_refl _)
  generalize hI : s.heap.objs.size = I at *
  refine hQ I _ [(I, aRI a n c)] (fun C i m led => ∃ ct, led = (I, aRI (a + (i : Int) * c) ((n : Int) - (i : Int)) c) :: ct ∧ fresh C m ct)
    (fun C i m led => ∃ ct t, led = (I, aRI (a + ((i + 1 : Nat) : Int) * c) ((n : Int) - ((i + 1 : Nat) : Int)) c) :: ct ∧ fresh C m ct ∧ Bt C (.int (a + (i : Int) * c) t) m ct) ?_ (fun p hp => by cases List.mem_singleton.mp hp; exact ⟨hIn, _, hI ▸ Heap.get?_push_size _ rfl, rfl⟩) (by simp) ⟨?_, ?_, ?_, ?_, ?_⟩
  · exact ⟨⟨_, _, rfl⟩, fun b o _ e => Heap.get?_push_of_some _ e, fun b o e => Heap.get?_push_of_some _ (hb b o e), fun b o e => ⟨o, Heap.get?_push_of_some _ e⟩⟩
  · intro C
    exact ⟨_, by simp, T.init C⟩
  · rintro C m led s₁ Q E ⟨ct, rfl, hf⟩ J hq
    obtain ⟨o, ho, hP⟩ := J.head
    subst hP
    exact wpAny_pyIter_rangeiter ho hq
  · rintro C i m led D P s₁ E X Y hab hICs hi ⟨ct, rfl, hf⟩ J hD hY hX
    have hIC : I < C := hICs _ (List.Mem.head _)
    have J' := J.swap
    obtain ⟨o, ho, hP⟩ := J'.head
    subst hP
    have hit : IsRangeIter s₁.heap I (a + (i : Int) * c) ((n : Int) - (i : Int)) c := ho
    by_cases hlt : i < n
    · refine wpAny_pyNext_range_item hit (by omega) fun h₁ hit₁ hs₁ => ?_
      dsimp only
      refine wpAny_of_eq (T.tup _ _) ?_
      have e1 : a + ((i + 1 : Nat) : Int) * c = a + (i : Int) * c + c := by push_cast; rw [Int.add_mul, Int.one_mul, Int.add_assoc]
      have e2 : (n : Int) - ((i + 1 : Nat) : Int) = (n : Int) - (i : Int) - 1 := by push_cast; omega
      have J₁ : In b₀ s [] C m ((D, P) :: (I, aRI (a + ((i + 1 : Nat) : Int) * c) ((n : Int) - ((i + 1 : Nat) : Int)) c) :: ct) { s₁ with heap := h₁, toks := s₁.toks + 1 } := by
        rw [e1, e2]
        exact (J'.change (P' := aRI (a + (i : Int) * c + c) ((n : Int) - (i : Int) - 1) c) (.inr hIn) hs₁ ⟨_, hit₁, rfl⟩).swap
      refine T.put C m ct _ D P I _ _ E Y hf hab hIC hD J₁ fun m' ct' s' hBt hf' J₂ hkeep => hY hlt m' _ s' ⟨ct', _, rfl, hf', hBt⟩ J₂ fun a' o' ha hna e => hkeep a' o' ha hna ((hs₁.2 a' (Nat.ne_of_gt (Nat.lt_trans hIC ha))).trans e)
    · have hin : i = n := by omega
      refine wpAny_pyNext_range_end hh hit (by omega) fun h₁ he₁ => ?_
      dsimp only
      have J₂ : In b₀ s [] C m [(D, P)] s₁ := J.less (by intro p hp; cases List.mem_singleton.mp hp; exact .head _) (by simp)
      refine hX hin m _ (J₂.outBut (tk := s₁.toks) he₁ hIn (Kept.none hb hIn) (Nat.ne_of_lt hIC) ?_) fun a' o' ha _ e => he₁ a' o' (Nat.ne_of_gt (Nat.lt_trans hIC ha)) e
      intro hm
      exact (List.nodup_cons.mp J'.apart).1 (by rw [List.mem_singleton.mp hm]; exact List.Mem.head _)
  · rintro C i m led ⟨ct, t, rfl, hf, hB⟩
    exact ⟨ct, rfl, hf⟩
  · rintro C i m led s₁ ⟨ct, t, rfl, hf, hB⟩ J
    exact ⟨t, T.see _ _ _ _ _ _ hB J⟩

theorem src_list {l : Addr} {vs : List Value} (T : Tgts prog w A env scope cl target b₀ s Vu) (hh : A.handled = none) (hb : Kept b₀ s) (hl : s.heap.IsList l vs.toArray) :
    Src prog w A env scope cl target b₀ vs.length (fun C i h => ∃ v, vs[i]? = some v ∧ Vu C v h) (.ref l) s := by
  obtain ⟨fresh, Bt, T⟩ := T
  intro Q E hQ
  refine wpAny_pyIter_list hl ?_
  have hIn : s.heap.get? s.heap.objs.size = none := none_of_size (Nat.le_refl _)
  have hlI : l ≠ s.heap.objs.size := by obtain ⟨o, ho, _⟩ := hl; exact Nat.ne_of_lt (Heap.lt_size ho)
  generalize hI : s.heap.objs.size = I at *
  let aLI : Nat → Obj → Prop := fun i o => o.cls = .type "list_iterator" ∧ o.data = .fields #[.ref l, .int i 0]
  refine hQ I _ [(I, aLI 0)] (fun C i m led => ∃ ct, led = (I, aLI i) :: ct ∧ fresh C m ct)
    (fun C i m led => ∃ ct v, led = (I, aLI (i + 1)) :: ct ∧ fresh C m ct ∧ vs[i]? = some v ∧ Bt C v m ct) ?_ (fun p hp => by cases List.mem_singleton.mp hp; exact ⟨hIn, _, hI ▸ Heap.get?_push_size _ rfl, rfl, rfl⟩) (by simp) ⟨?_, ?_, ?_, ?_, ?_⟩
  · exact ⟨⟨_, _, rfl⟩, fun b o _ e => Heap.get?_push_of_some _ e, fun b o e => Heap.get?_push_of_some _ (hb b o e), fun b o e => ⟨o, Heap.get?_push_of_some _ e⟩⟩
  · intro C
    exact ⟨_, rfl, T.init C⟩
  · rintro C m led s₁ Q E ⟨ct, rfl, hf⟩ J hq
    obtain ⟨o, ho, hP⟩ := J.head
    exact wpAny_pyIter_listiter (i := 0) ⟨o, ho, hP⟩ hq
  · rintro C i m led D P s₁ E X Y hab hICs hi ⟨ct, rfl, hf⟩ J hD hY hX
    have hIC : I < C := hICs _ (List.Mem.head _)
    have J' := J.swap
    obtain ⟨o, ho, hP⟩ := J'.head
    have hit : s₁.heap.IsListIter I l i := ⟨o, ho, hP⟩
    have hl₁ : s₁.heap.IsList l vs.toArray := hl.at fun o e => J.keep l o (by simp) (Nat.ne_of_lt (hab l o e)) e
    by_cases hlt : i < vs.length
    · refine wpAny_pyNext_list_item hit hl₁ (x := vs[i]) (by simp [hlt]) fun h₁ hit₁ hs₁ => ?_
      dsimp only
      refine wpAny_of_eq (T.tup _ _) ?_
      have J₁ : In b₀ s [] C m ((D, P) :: (I, aLI (i + 1)) :: ct) { s₁ with heap := h₁ } := (J'.change (tk := s₁.toks) (.inr hIn) hs₁ hit₁).swap
      refine T.put C m ct _ D P I _ _ E Y hf hab hIC hD J₁ fun m' ct' s' hBt hf' J₂ hkeep => hY hlt m' _ s' ⟨ct', _, rfl, hf', by simp [hlt], hBt⟩ J₂ fun a' o' ha hna e => hkeep a' o' ha hna ((hs₁.2 a' (Nat.ne_of_gt (Nat.lt_trans hIC ha))).trans e)
    · have hin : i = vs.length := by omega
      refine wpAny_pyNext_list_end hh hit hl₁ (by simp; omega) fun h₁ he₁ => ?_
      dsimp only
      have J₂ : In b₀ s [] C m [(D, P)] s₁ := J.less (by intro p hp; cases List.mem_singleton.mp hp; exact .head _) (by simp)
      refine hX hin m _ (J₂.outBut (tk := s₁.toks) he₁ hIn (Kept.none hb hIn) (Nat.ne_of_lt hIC) ?_) fun a' o' ha _ e => he₁ a' o' (Nat.ne_of_gt (Nat.lt_trans hIC ha)) e
      intro hm
      exact (List.nodup_cons.mp J'.apart).1 (by rw [List.mem_singleton.mp hm]; exact List.Mem.head _)
  · rintro C i m led ⟨ct, t, rfl, hf, hB⟩
    exact ⟨ct, rfl, hf⟩
  · rintro C i m led s₁ ⟨ct, t, rfl, hf, hv, hB⟩ J
    exact ⟨t, hv, T.see _ _ _ _ _ _ hB J⟩
end
end Mine
end
section
open PySem PySem.W PyProof.Rows PySem.Calls
open Sem (wp)
set_option maxRecDepth 100000
set_option maxHeartbeats 4000000
set_option linter.unusedVariables false
namespace Mine
section
variable {w : World} {A : Around} {E : Value → Shared → Prop} {s : Shared} {b₀ : Heap} {env : Env} {x : Str} {p pos : Pos} {v : Value} {e e1 e2 e3 : PySem.Expr} {scope : Scope} {cl : List (Str × Addr)} {target : PySem.Expr} {Vu : Addr → Value → Heap → Prop}

theorem small_up {a b c : Int} (h0 : 0 ≤ a) (h1 : a ≤ b) (h2 : b < 100000) (h3 : 0 < c) (h4 : c < 1000) : Builtin.Range.small a b c = true := by
  unfold Builtin.Range.small
  have hq : 0 ≤ (b - a - 1) / c + 1 ∧ (b - a - 1) / c + 1 ≤ 100001 := by
    have e1 : (b - a - 1) / c ≤ 100000 := Int.le_trans (Int.ediv_le_ediv h3 (show b - a - 1 ≤ 100000 * c by omega)) (by rw [Int.mul_ediv_cancel _ (by omega)]; exact Int.le_refl _)
    have e2 : -1 ≤ (b - a - 1) / c := Int.le_ediv_of_mul_le h3 (by omega)
    omega
  have hr : 0 ≤ Builtin.Range.rangeSize a b c ∧ Builtin.Range.rangeSize a b c ≤ 100001 := by
    unfold Builtin.Range.rangeSize
    rw [if_pos h3]
    split <;> omega
  have fit : ∀ z : Int, -200000 ≤ z → z ≤ 200000 → Builtin.Range.rangeFitsLong z = true := by
    intro z h1 h2
    unfold Builtin.Range.rangeFitsLong
    simp only [Bool.and_eq_true, decide_eq_true_eq]
    omega
  rw [fit a (by omega) (by omega), fit b (by omega) (by omega), fit c (by omega) (by omega), fit _ (by omega) (by omega), if_pos h3, fit _ (by omega) (by omega)]
  simp

theorem Ext.push {o : Obj} {tk : Nat} (hb : Kept b₀ s) : Ext b₀ [] s { s with heap := s.heap.push o, toks := tk } :=
  ⟨⟨_, _, rfl⟩, fun b o _ e => Heap.get?_push_of_some _ e, fun b o e => Heap.get?_push_of_some _ (hb b o e), fun b o e => ⟨o, Heap.get?_push_of_some _ e⟩⟩

theorem iter_range1 {n : Nat} (hB : Bs w b₀) (hb : Kept b₀ s) (hf : PVal PG w A env s (.Name x p) (.type "range")) (he : PInt PG w A env s e (n : Int)) (T : ∀ s, Tgts PG w A env scope cl target b₀ s Vu) (hh : A.handled = none) (hn : n < 1000)
    (hs : backTo pos (starEach [e] env) = [(false, eval e env)] := by rfl) :
    Itr PG w A env scope cl target b₀ n (fun C i h => ∃ t, Vu C (.int (i : Int) t) h) (.Call (.Name x p) [e] [] pos) s := by
  refine Itr.of ?_
  intro Q E hQ
  refine call_t1 hf (fun tk => ?_) hs
  refine he _ _ _ ?_
  rintro _ tk1 ⟨t, rfl⟩
  refine call_range_1 (hQ _ _ (Ext.push hb) ?_)
  have := src_range (n := n) (s := { s with heap := s.heap.push { cls := .type "range", data := .fields #[Value.int 0 tk1, Value.int (n : Int) t, Value.int 1 (tk1 + 1)] }, toks := tk1 + 1 + 1 }) (T _) hh (fun b o e => Heap.get?_push_of_some _ (hb b o e)) (IsRange.new s.heap 0 n 1 tk1 t (tk1 + 1)) (small_one (by omega) (by omega) (by omega) (by omega)) rangeSize_up
  simpa using this

theorem sum_ints {D : Addr} {ys : List Value} {val : Nat → Int} {Q : Value → Shared → Prop} (hb : Kept b₀ s) (hl : s.heap.IsList D ys.toArray) (hv : ∀ (i : Nat) (v : Value), ys[i]? = some v → ∃ t, v = Value.int (val i) t) (hh : A.in1.handled = none)
    (h : ∀ s' t, Ext b₀ [] s s' → Q (.int (preSum val ys.length) t) s') : wpAny (model PG w) A (call (.builtin "sum") [.ref D]) Q E s := by
  refine call_sum_walkG (wpAny_pyIter_list hl ?_)
  have hlt : D < s.heap.objs.size := by obtain ⟨o, ho, _⟩ := hl; exact Heap.lt_size ho
  refine ⟨s.heap.objs.size, [s.heap.objs.size, D], [s.heap.objs.size], ys.toArray.size, _, _, val, rfl, Walks.list hh _ D (Nat.ne_of_lt hlt) ys.toArray, ⟨⟨_, Heap.get?_push_size _ rfl, rfl, rfl⟩, hl.at fun o e => Heap.get?_push_of_some _ e⟩, ?_, ?_, ?_⟩
  · intro b hb
    show b < (s.heap.push _).objs.size
    rw [Heap.size_push]
    rcases List.mem_cons.mp hb with rfl | hb
    · exact Nat.lt_succ_self _
    · rw [List.mem_singleton.mp hb]; exact Nat.lt_succ_of_lt hlt
  · intro i v hi
    exact hv i v (by simpa using hi)
  · intro h' tk t' hk
    have ne : ∀ b o, s.heap.get? b = some o → b ∉ [s.heap.objs.size] := fun b o e hm => Nat.ne_of_lt (Heap.lt_size e) (List.mem_singleton.mp hm)
    have := h { s with heap := h', toks := tk } t' ⟨⟨_, _, rfl⟩, fun b o _ e => hk b o (ne b o e) (Heap.get?_push_of_some _ e), fun b o e => hk b o (ne b o (hb b o e)) (Heap.get?_push_of_some _ (hb b o e)), fun b o e => ⟨o, hk b o (ne b o e) (Heap.get?_push_of_some _ e)⟩⟩
    simpa using this
end
end Mine
end
section
open PySem PySem.W PyProof.Rows PySem.Calls
open Sem (wp)
set_option maxRecDepth 100000
set_option maxHeartbeats 4000000
set_option linter.unusedVariables false
namespace Mine
theorem tests_nil {w : World} {A : Around} {E : Value → Shared → Prop} {s : Shared} {b₀ : Heap} {env : Env} {X : Shared → Prop} (hb : Kept b₀ s) : wpAny (model PG w) A (testsT [] env) (fun ok s₂ => ok = true ∧ Ext b₀ [] s s₂ ∧ (true = false → X s₂)) E s :=
  wpAny_tests_nil ⟨rfl, Ext.refl hb, fun e => nomatch e⟩
/-- a value that the element's expression gives, for a list of ints -/
def intsJ (val : Nat → Int) : Addr → Nat → List Value → Heap → Prop := fun C i ys h => ys.length = i ∧ ∀ j v, ys[j]? = some v → ∃ t, v = Value.int (val j) t
theorem intsJ_snoc {val : Nat → Int} {C : Addr} {i : Nat} {ys : List Value} {h h' : Heap} {v : Value} (hj : intsJ val C i ys h) (hv : ∃ t, v = Value.int (val i) t) : intsJ val C (i + 1) (ys ++ [v]) h' := by
  obtain ⟨hl, hys⟩ := hj
  refine ⟨by simp [hl], fun j u hu => ?_⟩
  rcases Nat.lt_trichotomy j ys.length with h | h | h
  · exact hys j u (by rwa [List.getElem?_append_left h] at hu)
  · subst h
    simp at hu
    subst hu
    rw [hl]; exact hv
  · have : (ys ++ [v])[j]? = none := List.getElem?_eq_none (by rw [List.length_append, List.length_singleton]; omega)
    rw [this] at hu; cases hu
theorem pow256 {i wd : Nat} (hi : i < wd) (hw : wd ≤ 4) : ((256 : Int) ^ i ≠ 0) ∧ ((256 : Int) ^ i).natAbs < 1073741824 := by
  have : i = 0 ∨ i = 1 ∨ i = 2 ∨ i = 3 := by omega
  rcases this with rfl | rfl | rfl | rfl <;> decide
theorem fmod256 (a : Int) : 0 ≤ a.fmod 256 ∧ a.fmod 256 < 256 := by
  rw [Int.fmod_eq_emod_of_nonneg _ (by decide)]; omega
def otherV (x : Int) (wd : Nat) (p : Nat) : Int := (x.fdiv (256 ^ p)).fmod 256 * 256 ^ (wd - 1 - p)
theorem other_ok {w : World} {A : Around} {E : Value → Shared → Prop} {s : Shared} {b₀ : Heap} (hB : Bs w b₀) (R : Rm 3 A) (hb : Kept b₀ s) {x : Int} {wd : Nat} {t1 t2 : Tok} (hw : wd ≤ 4) :
    wpAny (model PG w) A (call (.ref 92) [.int x t1, .int wd t2]) (fun v s' => (∃ t, v = .int (preSum (otherV x wd) wd) t) ∧ Ext b₀ [] s s') E s := by
  refine call_cellsAt hB R hb rfl rfl rfl rfl (show List.Nodup [("width" : Str), "number"] by decide) (fun E' s₁ I => ?_) rfl rfl rfl
  have R' : Rm 2 (A.deeper (callEnvC (dataAt w.params 92) s.heap.objs.size 92)) := R.deeper _
  have hLn : s.heap.get? s.heap.objs.size = none := none_of_size (Nat.le_refl _)
  have I' : In b₀ s [] s.heap.objs.size (fun _ => none) [(s.heap.objs.size + 2, aC (some (.int wd t2))), (s.heap.objs.size + 1, aC (some (.int x t1)))] s₁ := by
    exact I
  generalize hL : s.heap.objs.size = L at *
  refine wpAny_execs_cons (wpAny_Return_some ?_)
  refine call_b1 (id := "sum") (.builtin hB I'.base) fun tk => ?_
  have I₂ := I'.tok tk
  have c2 : s.heap.get? L = none := hLn
  refine comp_eval I₂.base wd (fun _ => true) (intsJ (otherV x wd)) (fun C i h => ∃ t, vLoc "place" C (.int (i : Int) t) h) (iter_range1 hB I₂.base (.builtin hB I₂.base) (.cellI (c := L + 2) rfl I₂.head) (fun s => tgt_local (fun _ => rfl) rfl (fun _ => rfl)) R'.handled (by omega)) (by omega) rfl rfl (by decide)
    (fun C h => ⟨rfl, fun j v e => by simp at e⟩) (fun C i ys h h' hj _ => hj) (fun C i ys s₁ E' hi hx hC hbd hj => tests_nil hx.base) ?_ ?_
  · rintro C i ys s₃ E'' hi _ hx hC hlt ⟨t, m, hns, hm⟩ hj
    have cw : s₃.heap.IsCell (L + 2) (some (.int wd t2)) := let ⟨o, ho, hp⟩ := I₂.head; ⟨o, hx.keep _ _ (by simp) ho, hp⟩
    have cn : s₃.heap.IsCell (L + 1) (some (.int x t1)) := let ⟨o, ho, hp⟩ := I₂.tail.head; ⟨o, hx.keep _ _ (by simp) ho, hp⟩
    have hp := pow256 hi hw
    have hpi : (256 : Int) ^ ((i : Int)).toNat = 256 ^ i := by rw [Int.toNat_natCast]
    refine (PEv.mul (.fmod (.fdiv (.cellI (c := L + 1) rfl cn) (.pow .const (.localI hns hm) (by decide) (by omega) (by omega)) (by rw [hpi]; exact hp.1) (by rw [hpi]; exact hp.2)) .const (by decide))
      (.pow .const (.sub (.sub (.cellI (c := L + 2) rfl cw) .const) (.localI hns hm)) (by decide) (by omega) (by omega)) ?_ ?_).use ?_
    · have := fmod256 (x.fdiv (256 ^ ((i : Int)).toNat)); omega
    · have := fmod256 (x.fdiv (256 ^ ((i : Int)).toNat)); omega
    · rintro _ tk' ⟨t', rfl⟩
      refine ⟨(Ext.refl hx.base).tok tk', intsJ_snoc hj ⟨t', ?_⟩⟩
      unfold otherV
      rw [hpi, show ((wd : Int) - 1 - (i : Int)).toNat = wd - 1 - i by omega]
  · rintro D C ys s₃ hD hDC hx ⟨o, ho, n, rfl⟩ ⟨hl, hys⟩
    refine sum_ints hx.base ⟨_, ho, rfl, n, rfl⟩ hys R'.handled ?_
    intro s₄ t hx₄
    refine ⟨⟨t, by rw [hl]⟩, ?_⟩
    exact (I₂.ext (hx.trans hx₄)).exit hLn
end Mine
end
section
open PySem PySem.W PyProof.Rows PySem.Calls
open Sem (wp)
set_option maxRecDepth 100000
set_option maxHeartbeats 4000000
set_option linter.unusedVariables false
namespace Mine
section
variable {w : World} {A : Around} {E : Value → Shared → Prop} {s : Shared} {b₀ : Heap} {env : Env} {x : Str} {p pos : Pos} {v : Value} {e e1 e2 e3 value slice : PySem.Expr} {scope : Scope} {cl : List (Str × Addr)} {target : PySem.Expr} {Vu : Addr → Value → Heap → Prop}
theorem PEv.lenB {b : List UInt8} {t : Tok} (hf : PVal PG w A env s (.Name x p) (.builtin "len")) (he : PVal PG w A env s e (.bytes b.toArray t)) (hfit : b.length < 100000)
    (hs : backTo pos (starEach [e] env) = [(false, eval e env)] := by rfl) : PInt PG w A env s (.Call (.Name x p) [e] [] pos) (b.length : Int) := by
  intro Q E tk hQ
  refine call_b1 (fun Q E tk hq => hf Q E tk hq) (fun tk => ?_) hs
  refine he _ _ _ ?_
  rintro _ tk1 rfl
  refine len_bytes (by simp; omega) ?_
  have := hQ (.int (b.length : Int) (tk1 + 1)) (tk1 + 1 + 1) ⟨_, rfl⟩
  simpa using this
theorem PEv.itemB {b : List UInt8} {t : Tok} {i : Int} (hv : PVal PG w A env s value (.bytes b.toArray t)) (hi : PInt PG w A env s slice i) (h0 : 0 ≤ i) (h1 : i < b.length) (hfit : b.length < 100000)
    (hs : ∀ ui, subscripted slice false (.bytes b.toArray t) (.int i ui) = operate [.bytes b.toArray t, .int i ui] (getItem (.bytes b.toArray t) (.int i ui)) := by intro _; with_unfolding_all rfl)
    (ht : ∀ r, letTemporaryGo value (.bytes b.toArray t) r = pure () := by intro _; with_unfolding_all rfl) :
    PInt PG w A env s (.Subscript value slice pos) ((b.getD i.toNat 0).toNat : Int) := by
  intro Q E tk hQ
  refine PyProof.Rows.Subscript_ (hv _ _ _ ?_)
  rintro _ tk1 rfl
  refine hi _ _ _ ?_
  rintro _ tk2 ⟨t, rfl⟩
  exact KBy.item_N (by omega) h0 h1 (hQ _ _ ⟨_, rfl⟩) (hs _) ht

theorem range_size_mul {k wd : Nat} (hw : 0 < wd) : Builtin.Range.rangeSize 0 ((k * wd : Nat) : Int) (wd : Int) = (k : Int) := by
  rw [rangeSize_pos (by omega) (by omega)]
  rw [show ((k * wd : Nat) : Int) + (wd : Int) - 1 = ((wd : Int) - 1) + (k : Int) * (wd : Int) by push_cast; omega]
  rw [Int.add_mul_ediv_right _ _ (by omega), Int.ediv_eq_zero_of_lt (by omega) (by omega)]
  omega
theorem iter_range3 {k wd : Nat} (hB : Bs w b₀) (hb : Kept b₀ s) (hf : PVal PG w A env s (.Name x p) (.type "range")) (h1 : PInt PG w A env s e1 0) (h2 : PInt PG w A env s e2 ((k * wd : Nat) : Int)) (h3 : PInt PG w A env s e3 (wd : Int)) (T : ∀ s, Tgts PG w A env scope cl target b₀ s Vu) (hh : A.handled = none) (hn : k * wd < 1000) (hw : 0 < wd) (hw2 : wd < 1000)
    (hs : backTo pos (starEach [e1, e2, e3] env) = [(false, eval e1 env), (false, eval e2 env), (false, eval e3 env)] := by rfl) :
    Itr PG w A env scope cl target b₀ k (fun C i h => ∃ t, Vu C (.int ((i * wd : Nat) : Int) t) h) (.Call (.Name x p) [e1, e2, e3] [] pos) s := by
  refine Itr.of ?_
  intro Q E hQ
  refine call_t3 hf (fun tk => ?_) hs
  refine h1 _ _ _ ?_
  rintro _ tk1 ⟨t1, rfl⟩
  refine h2 _ _ _ ?_
  rintro _ tk2 ⟨t2, rfl⟩
  refine h3 _ _ _ ?_
  rintro _ tk3 ⟨t3, rfl⟩
  refine call_range_3 (by omega) (hQ _ _ (Ext.push hb) ?_) (Or.inl (PyProof.noPylong_small (by omega)))
  have := src_range (n := k) (s := { s with heap := s.heap.push { cls := .type "range", data := .fields #[Value.int 0 t1, Value.int ((k * wd : Nat) : Int) t2, Value.int (wd : Int) t3] }, toks := tk3 }) (T _) hh (fun b o e => Heap.get?_push_of_some _ (hb b o e)) (IsRange.new _ _ _ _ _ _ _) (small_up (by omega) (by omega) (by omega) (by omega) (by omega)) (range_size_mul hw)
  simpa using this
end

/-- the number of the i-th word of a text -/
def wordV (x : List UInt8) (wd i : Nat) : Int := preSum (fun p => ((x.getD (i * wd + p) 0).toNat : Int) * 256 ^ p) wd
/-- a fresh list -/
def FreshL (s : Shared) (ys : List Value) (v : Value) (s' : Shared) : Prop := ∃ D, v = .ref D ∧ s.heap.get? D = none ∧ ∃ o, s'.heap.get? D = some o ∧ aL ys o

theorem In.cellAt {b₀ : Heap} {s₀ s : Shared} {W : List Addr} {L c : Addr} {m : Str → Option Value} {led : Ledger} {v : Option Value} (I : In b₀ s₀ W L m led s) (h : (c, aC v) ∈ led) : s.heap.IsCell c v := I.own _ h
theorem Ext.cell {b₀ : Heap} {s s' : Shared} {c : Addr} {v : Option Value} (x : Ext b₀ [] s s') (h : s.heap.IsCell c v) : s'.heap.IsCell c v := let ⟨o, ho, hp⟩ := h; ⟨o, x.keep _ _ (by simp) ho, hp⟩

theorem read_ok {w : World} {A : Around} {E : Value → Shared → Prop} {s : Shared} {b₀ : Heap} (hB : Bs w b₀) (R : Rm 3 A) (hb : Kept b₀ s) {x : List UInt8} {k wd : Nat} {t1 t2 : Tok} (hw0 : 0 < wd) (hw : wd ≤ 4) (hk : k ≤ 5) (hx : x.length = k * wd) :
    wpAny (model PG w) A (call (.ref 87) [.bytes x.toArray t1, .int wd t2]) (fun v s' => Ext b₀ [] s s' ∧ ∃ ys, FreshL s ys v s' ∧ ys.length = k ∧ ∀ (j : Nat) (v : Value), ys[j]? = some v → ∃ t, v = Value.int (wordV x wd j) t) E s := by
  have hkw : k * wd ≤ 20 := Nat.le_trans (Nat.mul_le_mul hk hw) (by decide)
  refine call_cellsAt hB R hb rfl rfl rfl rfl (show List.Nodup [("width" : Str), "text"] by decide) (fun E' s₁ I => ?_) rfl rfl rfl
  have R' : Rm 2 (A.deeper (callEnvC (dataAt w.params 87) s.heap.objs.size 87)) := R.deeper _
  have hLn : s.heap.get? s.heap.objs.size = none := none_of_size (Nat.le_refl _)
  have I' : In b₀ s [] s.heap.objs.size (fun _ => none) [(s.heap.objs.size + 2, aC (some (.int wd t2))), (s.heap.objs.size + 1, aC (some (.bytes x.toArray t1)))] s₁ := by
    exact I
  generalize hL : s.heap.objs.size = L at *
  have cw : s₁.heap.IsCell (L + 2) (some (.int wd t2)) := I'.cellAt (by simp)
  have ct : s₁.heap.IsCell (L + 1) (some (.bytes x.toArray t1)) := I'.cellAt (by simp)
  refine wpAny_execs_cons (wpAny_Return_some ?_)
  refine comp_eval I'.base k (fun _ => true) (intsJ (wordV x wd)) (fun C i h => ∃ t, vCell C (.int ((i * wd : Nat) : Int) t) h)
    (iter_range3 hB I'.base (.builtin hB I'.base) .const (hx ▸ PEv.lenB (.builtin hB I'.base) (.cell (c := L + 1) rfl ct) (by omega)) (.cellI (c := L + 2) rfl cw) (fun s => tgt_cell (fun _ => rfl) rfl (fun _ => rfl) (fun _ => rfl)) R'.handled (by omega) hw0 (by omega)) (by omega) rfl rfl (by decide)
    (fun C h => ⟨rfl, fun j v e => by simp at e⟩) (fun C i ys h h' hj _ => hj) (fun C i ys s₁ E' hi hx hC hbd hj => tests_nil hx.base) ?_ ?_
  · rintro C i ys s₃ E'' hi _ hx₃ hC hlt ⟨t, cs⟩ hj
    have cw₃ := hx₃.cell cw
    have ct₃ := hx₃.cell ct
    refine call_b1 (id := "sum") (.builtin hB hx₃.base) fun tk => ?_
    refine comp_eval (s₀ := { s₃ with toks := tk }) hx₃.base wd (fun _ => true) (intsJ fun p => ((x.getD (i * wd + p) 0).toNat : Int) * 256 ^ p) (fun C i h => ∃ t, vLoc "place" C (.int (i : Int) t) h)
      (iter_range1 hB hx₃.base (.builtin hB hx₃.base) (.cellI (c := L + 2) rfl cw₃) (fun s => tgt_local (fun _ => rfl) rfl (fun _ => rfl)) R'.handled (by omega)) (by omega) rfl rfl (by decide)
      (fun C h => ⟨rfl, fun j v e => by simp at e⟩) (fun C i ys h h' hj _ => hj) (fun C i ys s₁ E' hi hx hC hbd hj => tests_nil hx.base) ?_ ?_
    · rintro C₂ p ys₂ s₄ E₄ hp _ hx₄ hC₂ hlt₂ ⟨t', m, hns, hm⟩ hj₂
      have cw₄ := hx₄.cell cw₃
      have ct₄ := hx₄.cell ct₃
      have cs₄ := hx₄.cell cs
      have hidx : i * wd + p < k * wd := by
        have : (i + 1) * wd ≤ k * wd := Nat.mul_le_mul_right _ hi
        rw [Nat.succ_mul] at this; omega
      refine (PEv.mul (.itemB (.cell (c := L + 1) rfl ct₄) (.add (.cellI (c := C + 1) rfl cs₄) (.localI hns hm)) (by omega) (by rw [hx]; omega) (by omega)) (.pow .const (.localI hns hm) (by decide) (by omega) (by omega)) ?_ ?_).use ?_
      · have := (x.getD (((i * wd : Nat) : Int) + (p : Int)).toNat 0).toNat_lt; omega
      · have := (x.getD (((i * wd : Nat) : Int) + (p : Int)).toNat 0).toNat_lt; omega
      · rintro _ tk' ⟨t'', rfl⟩
        refine ⟨(Ext.refl hx₄.base).tok tk', intsJ_snoc hj₂ ⟨t'', ?_⟩⟩
        rw [Int.toNat_natCast, show (((i * wd : Nat) : Int) + (p : Int)).toNat = i * wd + p by omega]
    · rintro D C₂ ys₂ s₄ hD hDC hx₄ ⟨o, ho, n, rfl⟩ ⟨hl, hys⟩
      refine sum_ints hx₄.base ⟨_, ho, rfl, n, rfl⟩ hys R'.handled ?_
      intro s₅ t₅ hx₅
      refine ⟨Ext.trans (Ext.trans ((Ext.refl hx₃.base).tok tk) hx₄) hx₅, intsJ_snoc hj ⟨t₅, by rw [hl]; rfl⟩⟩
  · rintro D C ys s₃ hD hDC hx₃ ho ⟨hl, hys⟩
    obtain ⟨I₃, hD0⟩ := I'.gain hx₃ hD ho
    exact ⟨I₃.exit hLn, ys, ⟨D, rfl, hD0, ho⟩, hl, hys⟩
end Mine
end
section
open PySem PySem.W PyProof.Rows PySem.Calls
open Sem (wp)
set_option maxRecDepth 100000
set_option maxHeartbeats 4000000
set_option linter.unusedVariables false
namespace Mine
/-! ## bytes.join -/
theorem takeQ {id : String} {b : Array UInt8} {t : Tok} : Builtin.Bytes.takeBufferQuiet? id (.bytes b t) 0 = pure (some (b, none)) := by
  unfold Builtin.Bytes.takeBufferQuiet? Builtin.Bytes.takeBuffer?
  rw [KBy.special_eq KBy.look_buffer, KBy.own_buffer]
  simp only [pure_bind]
  have h0 : (0 == Builtin.Bytes.fullReadOnly) = false := by decide
  rw [h0, KBy.buffer_eq (b := b) (t := t) (id := id)]
  rfl
theorem forIn_inv {M : Model} {A : Around} {E : Value → Shared → Prop} {s : Shared} {β : Type} {n : Nat} {f : Nat → β → Sem (ForInStep β)} {b0 : β} {Q : β → Shared → Prop} (Iv : Nat → β → Prop)
    (step : ∀ i b (K : ForInStep β → Shared → Prop), i < n → Iv i b → (∀ b', Iv (i + 1) b' → K (.yield b') s) → wpAny M A (f i b) K E s) (h0 : Iv 0 b0) (hQ : ∀ b, Iv n b → Q b s) : wpAny M A (forIn [:n] b0 f) Q E s := by
  rw [Std.Legacy.Range.forIn_eq_forIn_range']
  have key : ∀ k i b, i + k = n → Iv i b → wpAny M A (forIn (List.range' i k 1) b f) Q E s := by
    intro k
    induction k with
    | zero => intro i b hi hb; rw [List.range'_zero, List.forIn_nil]; have : i = n := by omega
              subst this; exact wpAny_pure (hQ b hb)
    | succ k ih =>
      intro i b hi hb
      rw [List.range'_succ, List.forIn_cons]
      refine wpAny_bind (step i b _ (by omega) hb fun b' hb' => ?_)
      exact ih (i + 1) b' (by omega) hb'
  have hsz : Std.Legacy.Range.size [:n] = n := by simp [Std.Legacy.Range.size]
  rw [hsz]
  exact key n 0 b0 (by omega) h0
theorem joinGo {M : Model} {A : Around} {E : Value → Shared → Prop} {s : Shared} : ∀ {taken : List (Value × Option Value)} {keep : List Value} {Q : Unit → Shared → Prop}, (∀ p ∈ taken, p.2 = none) → Q () s → wpAny M A (Builtin.Bytes.joinLetGo taken keep) Q E s
  | [], keep, Q, _, hQ => wpAny_pure hQ
  | (x, w) :: rest, keep, Q, h, hQ => by
    have : w = none := h _ (.head _)
    subst this
    unfold Builtin.Bytes.joinLetGo
    simp only [Option.toList_none, letGo]
    refine wpAny_bind (wpAny_bind (wpAny_holding (wpAny_point (wpAny_pure ?_))))
    exact joinGo (fun p hp => h p (.tail _ hp)) hQ
theorem fold_sizes : ∀ (xs : List (List UInt8)) (a : Nat), (xs.map List.toArray).foldl (fun x1 (x2 : Array UInt8) => x1 + x2.size) a = a + xs.flatten.length
  | [], a => rfl
  | x :: r, a => by rw [List.map_cons, List.foldl_cons, fold_sizes r]; simp; omega
theorem fold_joined : ∀ (xs : List (List UInt8)) (k : Nat) (out : Array UInt8), ((xs.map List.toArray).zipIdx k).foldl (fun out (p : Array UInt8 × Nat) => (if p.2 > 0 then out ++ #[] else out) ++ p.1) out = out ++ xs.flatten.toArray
  | [], k, out => by simp
  | x :: r, k, out => by
    rw [List.map_cons, List.zipIdx_cons, List.foldl_cons, fold_joined r]
    simp [Array.append_assoc]
theorem join_tree {prog : Program} {w : World} {A : Around} {E : Value → Shared → Prop} {s : Shared} {D : Addr} {vs : List Value} {xs : List (List UInt8)} {t : Tok} {P : Fin → Shared → Prop} (hl : s.heap.IsList D vs.toArray) (h2 : 2 ≤ vs.length)
    (hv : vs.length = xs.length ∧ ∀ (j : Nat) (v : Value), vs[j]? = some v → ∃ t, v = .bytes ((xs.getD j []).toArray) t) (hsz : xs.flatten.length < 1000) (h : ∀ t k, P (.done (.ret (.bytes xs.flatten.toArray t))) { s with toks := k }) :
    wpAny (model prog w) A (Builtin.«bytes.join» ⟨[.bytes #[] t, .ref D], []⟩) P E s := by
  obtain ⟨o, ho, hc, no, hd⟩ := hl
  have hseq : ∀ (K : Option (Array Value) → Shared → Prop), K (some vs.toArray) s → wpAny (model prog w) A (seqItems? (.ref D)) K E s := by
    intro K hK
    unfold seqItems?
    refine wpAny_bind (wpAny_load ho ?_)
    rw [hd]
    exact wpAny_pure hK
  unfold Builtin.«bytes.join» Builtin.Bytes.joinM
  refine wpAny_bind (m := selfAndOne _ _) (wpAny_pure ?_)
  dsimp only
  rw [if_pos (show (Builtin.Bytes.Kind.bytes == Builtin.Bytes.Kind.bytes) = true from rfl)]
  refine wpAny_bind (m := Builtin.Bytes.joinItems (.ref D)) ?_
  unfold Builtin.Bytes.joinItems
  refine wpAny_bind (wpAny_typeOf (T := "list") ⟨o, ho, hc⟩ ?_)
  rw [if_pos (show ((Value.type "list" == Value.type "list") || (Value.type "list" == Value.type "tuple")) = true by decide)]
  refine wpAny_pure ?_
  refine wpAny_bind (m := seqItems? (.ref D)) (hseq _ ?_)
  dsimp only
  rw [if_pos (show (Builtin.Bytes.Kind.bytes == Builtin.Bytes.Kind.bytes) = true from rfl)]
  have hm : ∀ {α : Type} (f : Value → α) (g : α), (match vs.toArray with | #[x] => f x | _ => g) = g := by
    intro α f g
    rcases vs with _ | ⟨a, _ | ⟨b, r⟩⟩
    · exact absurd h2 (Nat.not_succ_le_zero _)
    · exact absurd h2 (by show ¬ (2 ≤ 1); decide)
    · rfl
  refine Eq.mpr (congrArg (fun tr => wpAny (model prog w) A tr P E s) (hm _ _)) ?_
  skip
  · refine wpAny_bind (forIn_inv (n := vs.toArray.size) (fun i b => b.1 = ((xs.take i).map List.toArray).toArray ∧ (∀ p ∈ b.2, p.2 = none ∧ p.1.onHeap = false)) ?_ ?_ ?_)
    · rintro i ⟨parts, taken⟩ K hi ⟨e1, e2⟩ hK
      dsimp only at e1 e2 ⊢
      refine wpAny_bind (m := seqItems? (.ref D)) (hseq _ ?_)
      dsimp only
      have hi' : i < vs.length := by simpa using hi
      obtain ⟨ti, hti⟩ := hv.2 i vs[i] (by simp [hi'])
      have hx : vs.toArray.getD i Value.none = .bytes ((xs.getD i []).toArray) ti := by
        rw [← hti]; simp [Array.getD, hi']
      rw [hx]
      have hany : (taken.any fun x => x.1.onHeap) = false := by
        rw [List.any_eq_false]
        intro p hp
        rw [(e2 p hp).2]; exact Bool.false_ne_true
      rw [if_neg (show ¬ ((Builtin.Bytes.Kind.bytes == Builtin.Bytes.Kind.bytearray || taken.any fun x => x.1.onHeap) = true) by rw [hany]; decide)]
      refine wpAny_bind (wpAny_holding (wpAny_of_eq takeQ ?_))
      dsimp only
      refine wpAny_bind (m := seqItems? (.ref D)) (hseq _ ?_)
      dsimp only
      rw [if_neg (show ¬ ((vs.toArray.size != vs.toArray.size) = true) by simp)]
      refine wpAny_pure (hK _ ⟨?_, ?_⟩)
      · have hxi : i < xs.length := by rw [← hv.1]; exact hi'
        rw [e1, List.take_succ_eq_append_getElem hxi, List.map_append]
        simp [hxi, ← List.map_take]
      · intro p hp
        rcases List.mem_append.mp hp with hp | hp
        · exact e2 p hp
        · rw [List.mem_singleton.mp hp]; exact ⟨rfl, rfl⟩
    · exact ⟨by simp, fun _ h => nomatch h⟩
    · rintro ⟨parts, taken⟩ ⟨e1, e2⟩
      dsimp only at e1 e2 ⊢
      have e1' : parts = (xs.map List.toArray).toArray := by rw [e1, List.take_of_length_le (by rw [List.size_toArray, hv.1]; exact Nat.le_refl _)]
      refine wpAny_bind (m := Builtin.Bytes.payload (.bytes #[] t)) (wpAny_pure ?_)
      have hlen : Array.foldl (fun x1 (x2 : Array UInt8) => x1 + x2.size) ((#[] : Array UInt8).size * (parts.size - 1)) parts = xs.flatten.length := by
        rw [e1', List.foldl_toArray, fold_sizes]; simp
      have hj : Builtin.Bytes.joined #[] parts.toList = xs.flatten.toArray := by
        rw [e1']
        show List.foldl _ _ _ = _
        have := fold_joined xs 0 #[]
        simpa using this
      rw [hlen, if_neg (by rw [KBy.tooLong_not (by omega)]; exact Bool.false_ne_true), hj]
      refine wpAny_bind (m := Builtin.Bytes.Kind.bytes.new _) (wpAny_mkBytes ?_ (Nat.le_trans (by rw [List.size_toArray]; omega) (show (1000 : Nat) ≤ sizeLine by decide)))
      refine wpAny_bind (wpAny_holding (wpAny_point ?_))
      refine wpAny_bind (joinGo (fun p hp => (e2 p hp).1) ?_)
      exact wpAny_pure (h _ _)
end Mine
end
section
open PySem PySem.W PyProof.Rows PySem.Calls
open Sem (wp)
set_option maxRecDepth 100000
set_option maxHeartbeats 4000000
set_option linter.unusedVariables false
namespace Mine
theorem intsAre_of : ∀ {vs : List Value} {ns : List Int}, vs.length = ns.length → (∀ (j : Nat) (v : Value) (n : Int), vs[j]? = some v → ns[j]? = some n → ∃ t, v = .int n t) → IntsAre vs ns
  | [], [], _, _ => .nil
  | v :: vs, n :: ns, hl, h => by
    obtain ⟨t, rfl⟩ := h 0 v n rfl rfl
    exact .cons n t (intsAre_of (by simpa using hl) fun j u k hu hk => h (j + 1) u k (by simpa using hu) (by simpa using hk))
theorem intsAre_range {ys : List Value} {i : Nat} {val : Nat → Int} (hl : ys.length = i) (h : ∀ (j : Nat) (v : Value), ys[j]? = some v → ∃ t, v = .int (val j) t) : IntsAre ys ((List.range i).map val) := by
  refine intsAre_of (by simp [hl]) fun j v n hv hn => ?_
  obtain ⟨t, rfl⟩ := h j v hv
  have hj : j < i := by rw [← hl]; exact (List.getElem?_eq_some_iff.mp hv).1
  simp [hj] at hn
  exact ⟨t, by rw [hn]⟩
namespace BJ
theorem slot : Slot "bytes" "join" "bytes.join" :=
  .of (owner := "bytes") (n := "join") (by rw [typeLookup_type, builtinLookup_eq_fast]; kernel_rfl) (by decide +kernel) (by decide +kernel) (by decide +kernel)
    (by first | exact .inl (by decide +kernel) | exact .inr (by decide +kernel)) (by rw [isSubtype_type]; kernel_rfl)
theorem entry : entryFor table "bytes.join" = some Builtin.«bytes.join» := entryFor_of_tree (by kernel_rfl)
theorem args (a b : Value) : argsOk "bytes.join" ⟨[a, b], []⟩ := by unfold argsOk; kernel_rfl
theorem typ : typeOf (.builtin "bytes.join") = pure (.type "method_descriptor") := by show builtinType _ = _; rw [builtinType_eq_fast]; kernel_rfl
end BJ
section
variable {w : World} {A : Around} {E : Value → Shared → Prop} {s : Shared} {b₀ : Heap} {env : Env} {x : Str} {p pos apos cpos : Pos} {v : Value} {e e1 e2 e3 value slice : PySem.Expr} {scope : Scope} {cl : List (Str × Addr)} {target : PySem.Expr} {Vu : Addr → Value → Heap → Prop}
theorem call_join {D : Addr} {vs : List Value} {xs : List (List UInt8)} {t : Tok} {Q : Value → Shared → Prop} (hl : s.heap.IsList D vs.toArray) (h2 : 2 ≤ vs.length)
    (hv : vs.length = xs.length ∧ ∀ (j : Nat) (v : Value), vs[j]? = some v → ∃ t, v = .bytes ((xs.getD j []).toArray) t) (hsz : xs.flatten.length < 1000) (h : ∀ t k, Q (.bytes xs.flatten.toArray t) { s with toks := k }) :
    wpAny (model PG w) A (call (.builtin "bytes.join") [.bytes #[] t, .ref D]) Q E s := by
  refine wpAny_call_entry BJ.slot (PySem.W.typeIs_bytes _ _ _) BJ.entry ?_ (BJ.args _ _)
  generalize e : Builtin.«bytes.join» _ = tr
  subst e
  refine join_tree hl h2 hv hsz fun t k => ⟨_, rfl, h t k⟩
theorem eval_join {Q : Value → Shared → Prop} (h : ∀ tk t, wpAny (model PG w) A (eval e env) (fun v s₁ => wpAny (model PG w) A (call (.builtin "bytes.join") [.bytes #[] t, v]) Q E s₁) E { s with toks := tk })
    (hs : backTo pos (starEach [e] env) = [(false, eval e env)] := by rfl) (hbase : attributeBase (.Constant (.bytes []) 0 cpos) "join" env (eval (.Constant (.bytes []) 0 cpos) env) = eval (.Constant (.bytes []) 0 cpos) env := by rfl) (hline : (apos.endLine == pos.line) = true := by rfl) :
    wpAny (model PG w) A (eval (.Call (.Attribute (.Constant (.bytes []) 0 cpos) "join" apos) [e] [] pos) env) Q E s := by
  refine wpAny_Call_method (T := "bytes") (id := "bytes.join") hbase (by rw [hs]; rfl) hline FB.plainAttrs_bytes BJ.slot BJ.typ ?_
  refine PySem.W.Constant_bytes ?_
  refine ⟨PySem.W.typeIs_bytes _ _ _, (fun a e => by cases e), ?_⟩
  rw [hs]
  exact callWith_builtin rfl (evalArgs_plain (spliced_cons (wpAny_mono (h _ _) (fun v s₁ h₁ => spliced_nil h₁) fun _ _ e => e)))
theorem iter_list {l : Addr} {vs : List Value} (hb : Kept b₀ s) (he : PVal PG w A env s e (.ref l)) (hl : s.heap.IsList l vs.toArray) (T : ∀ s, Tgts PG w A env scope cl target b₀ s Vu) (hh : A.handled = none) :
    Itr PG w A env scope cl target b₀ vs.length (fun C i h => ∃ v, vs[i]? = some v ∧ Vu C v h) e s := by
  refine Itr.of ?_
  intro Q E hQ
  refine he.use ?_
  rintro _ tk rfl
  exact hQ _ _ ((Ext.refl hb).tok tk) (src_list (T _) hh hb hl)
end

/-- the bytes of a number, lowest first -/
def bytesOf (n : Int) (wd : Nat) : List UInt8 := (List.range wd).map fun p => ((n.fdiv (256 ^ p)).fmod 256).toNat.toUInt8
def laidB (ns : List Int) (wd : Nat) : List UInt8 := (ns.map fun n => bytesOf n wd).flatten
theorem laidB_length (wd : Nat) : ∀ ns : List Int, (laidB ns wd).length = ns.length * wd
  | [] => by simp [laidB]
  | n :: r => by
    have := laidB_length wd r
    unfold laidB at this ⊢
    rw [List.map_cons, List.flatten_cons, List.length_append, this, List.length_cons, Nat.succ_mul]
    simp [bytesOf]; omega
def bytesJ (f : Nat → List UInt8) : Addr → Nat → List Value → Heap → Prop := fun C i ys h => ys.length = i ∧ ∀ (j : Nat) (v : Value), ys[j]? = some v → ∃ t, v = Value.bytes (f j).toArray t
theorem bytesJ_snoc {f : Nat → List UInt8} {C : Addr} {i : Nat} {ys : List Value} {h h' : Heap} {v : Value} (hj : bytesJ f C i ys h) (hv : ∃ t, v = Value.bytes (f i).toArray t) : bytesJ f C (i + 1) (ys ++ [v]) h' := by
  obtain ⟨hl, hys⟩ := hj
  refine ⟨by simp [hl], fun j u hu => ?_⟩
  rcases Nat.lt_trichotomy j ys.length with h | h | h
  · exact hys j u (by rwa [List.getElem?_append_left h] at hu)
  · subst h
    simp at hu
    subst hu
    rw [hl]; exact hv
  · have : (ys ++ [v])[j]? = none := List.getElem?_eq_none (by rw [List.length_append, List.length_singleton]; omega)
    rw [this] at hu; cases hu
theorem intsAre_get : ∀ {vs : List Value} {ns : List Int}, IntsAre vs ns → ∀ (i : Nat) (v : Value), vs[i]? = some v → ∃ n t, ns[i]? = some n ∧ v = .int n t
  | _, _, .nil, i, v, h => by simp at h
  | _, _, .cons n t r, 0, v, h => ⟨n, t, rfl, by simpa using h.symm⟩
  | _, _, .cons n t r, i + 1, v, h => by
    obtain ⟨n', t', e1, e2⟩ := intsAre_get r i v (by simpa using h)
    exact ⟨n', t', by simpa using e1, e2⟩

theorem laid_ok {w : World} {A : Around} {E : Value → Shared → Prop} {s : Shared} {b₀ : Heap} (hB : Bs w b₀) (R : Rm 3 A) (hb : Kept b₀ s) {l : Addr} {vs : List Value} {ns : List Int} {wd : Nat} {t2 : Tok} (hl : s.heap.IsList l vs.toArray) (hi : IntsAre vs ns) (h2 : 2 ≤ ns.length) (h5 : ns.length ≤ 5) (hw : wd ≤ 4) :
    wpAny (model PG w) A (call (.ref 82) [.ref l, .int wd t2]) (fun v s' => Ext b₀ [] s s' ∧ ∃ t, v = .bytes (laidB ns wd).toArray t) E s := by
  have hlen : vs.length = ns.length := hi.length
  refine call_cellsAt hB R hb rfl rfl rfl rfl (show List.Nodup [("width" : Str)] by decide) (fun E' s₁ I => ?_) rfl rfl rfl
  have R' : Rm 2 (A.deeper (callEnvC (dataAt w.params 82) s.heap.objs.size 82)) := R.deeper _
  have hLn : s.heap.get? s.heap.objs.size = none := none_of_size (Nat.le_refl _)
  have I' : In b₀ s [] s.heap.objs.size (fun y => if y = "numbers" then some (.ref l) else none) [(s.heap.objs.size + 1, aC (some (.int wd t2)))] s₁ := by
    exact I
  have hlL : l ≠ s.heap.objs.size := by obtain ⟨o, ho, _⟩ := hl; exact Nat.ne_of_lt (Heap.lt_size ho)
  generalize hL : s.heap.objs.size = L at *
  have cw : s₁.heap.IsCell (L + 1) (some (.int wd t2)) := I'.cellAt (by simp)
  have hl₁ : s₁.heap.IsList l vs.toArray := hl.at fun o e => I'.keep l o (by simp) hlL e
  refine wpAny_execs_cons (wpAny_Return_some ?_)
  refine eval_join fun tk tj => ?_
  have I₂ := I'.tok tk
  refine comp_eval I₂.base vs.length (fun _ => true) (bytesJ fun j => bytesOf (ns.getD j 0) wd) (fun C i h => ∃ v, vs[i]? = some v ∧ vCell C v h)
    (iter_list I₂.base (.local (v := .ref l) I₂.ns rfl) hl₁ (fun s => tgt_cell (fun _ => rfl) rfl (fun _ => rfl) (fun _ => rfl)) R'.handled) (by omega) rfl rfl (by decide)
    (fun C h => ⟨rfl, fun j v e => by simp at e⟩) (fun C i ys h h' hj _ => hj) (fun C i ys s₁ E' hi hx hC hbd hj => tests_nil hx.base) ?_ ?_
  · rintro C i ys s₃ E'' hi' _ hx₃ hC hlt ⟨v, hvi, cs⟩ hj
    obtain ⟨n, tn, hni, rfl⟩ := intsAre_get hi i v hvi
    have hng : ns.getD i 0 = n := by simp [List.getD, hni]
    have cw₃ := hx₃.cell cw
    refine call_t1 (T := "bytes") (.builtin hB hx₃.base) fun tk => ?_
    refine comp_eval (s₀ := { s₃ with toks := tk }) hx₃.base wd (fun _ => true) (intsJ fun p => (n.fdiv (256 ^ p)).fmod 256) (fun C i h => ∃ t, vLoc "place" C (.int (i : Int) t) h)
      (iter_range1 hB hx₃.base (.builtin hB hx₃.base) (.cellI (c := L + 1) rfl cw₃) (fun s => tgt_local (fun _ => rfl) rfl (fun _ => rfl)) R'.handled (by omega)) (by omega) rfl rfl (by decide)
      (fun C h => ⟨rfl, fun j v e => by simp at e⟩) (fun C i ys h h' hj _ => hj) (fun C i ys s₁ E' hi hx hC hbd hj => tests_nil hx.base) ?_ ?_
    · rintro C₂ p ys₂ s₄ E₄ hp _ hx₄ hC₂ hlt₂ ⟨t', m, hns, hm⟩ hj₂
      have cs₄ := hx₄.cell cs
      have hpp := pow256 hp hw
      have hpi : (256 : Int) ^ ((p : Int)).toNat = 256 ^ p := by rw [Int.toNat_natCast]
      refine (PEv.fmod (.fdiv (.cellI (c := C + 1) rfl cs₄) (.pow .const (.localI hns hm) (by decide) (by omega) (by omega)) (by rw [hpi]; exact hpp.1) (by rw [hpi]; exact hpp.2)) .const (by decide)).use ?_
      rintro _ tk' ⟨t'', rfl⟩
      refine ⟨(Ext.refl hx₄.base).tok tk', intsJ_snoc hj₂ ⟨t'', ?_⟩⟩
      rw [hpi]
    · rintro D C₂ ys₂ s₄ hD hDC hx₄ ⟨o, ho, n', rfl⟩ ⟨hl', hys⟩
      refine call_bytes_ints ⟨_, ho, rfl, n', rfl⟩ (intsAre_range hl' hys) ?_ ?_ R'.handled fun h' t k hk => ⟨?_, bytesJ_snoc hj ⟨t, ?_⟩⟩
      · intro m hm
        obtain ⟨p, _, rfl⟩ := List.mem_map.mp hm
        exact fmod256 _
      · exact Nat.le_trans (by omega) (show (1000 : Nat) ≤ sizeLine by decide)
      · exact Ext.trans (Ext.trans ((Ext.refl hx₃.base).tok tk) hx₄) ⟨⟨_, _, rfl⟩, fun b o _ e => hk b o e, fun b o e => hk b o (hx₄.base b o e), fun b o e => ⟨o, hk b o e⟩⟩
      · rw [hng]
        unfold byteArr bytesOf
        simp [List.map_map, Function.comp_def]
  · rintro D C ys s₃ hD hDC hx₃ ⟨o, ho, n', rfl⟩ ⟨hl', hys⟩
    refine call_join (xs := ns.map fun n => bytesOf n wd) ⟨_, ho, rfl, n', rfl⟩ (by omega) ⟨by simp; omega, ?_⟩ ?_ ?_
    · intro j v hv
      obtain ⟨t, rfl⟩ := hys j v hv
      have hj : j < ns.length := by have := (List.getElem?_eq_some_iff.mp hv).1; omega
      exact ⟨t, by simp [List.getD, hj]⟩
    · have := laidB_length wd ns
      have h3 : ns.length * wd ≤ 5 * 4 := Nat.mul_le_mul h5 hw
      unfold laidB at this
      omega
    · intro t k
      exact ⟨((I₂.ext hx₃).exit hLn).tok k, t, rfl⟩
end Mine
end
section
open PySem PySem.W PyProof.Rows PySem.Calls
open Sem (wp)
set_option maxRecDepth 100000
set_option maxHeartbeats 4000000
set_option linter.unusedVariables false
namespace Mine
theorem In.renew {b₀ : Heap} {s₀ s s' : Shared} {W ch : List Addr} {L : Addr} {m : Str → Option Value} {led led' : Ledger} (x : In b₀ s₀ W L m led s) (hsame : ∃ h tk, s' = { s with heap := h, toks := tk })
    (hk : ∀ b o, b ∉ ch → s.heap.get? b = some o → s'.heap.get? b = some o) (hch : ∀ a ∈ ch, s₀.heap.get? a = none ∧ b₀.get? a = none ∧ a ≠ L) (hkeys : led'.map (·.1) = led.map (·.1)) (hled : ∀ p ∈ led', ∃ o, s'.heap.get? p.1 = some o ∧ p.2 o) :
    In b₀ s₀ W L m led' s' := by
  refine ⟨?_, fun b o hb hL e => hk b o (fun h => by rw [(hch b h).1] at e; cases e) (x.keep b o hb hL e), fun b o e => hk b o (fun h => by rw [(hch b h).2.1] at e; cases e) (x.base b o e),
    fun b o e => let ⟨o', e'⟩ := x.live b o e; ⟨o', hk b o' (fun h => by rw [(hch b h).1] at e; cases e) e'⟩, x.ns.at' fun o e => hk _ o (fun h => (hch _ h).2.2 rfl) e, hled, fun p hp => ?_, hkeys ▸ x.apart, x.newL⟩
  · obtain ⟨h, tk, rfl⟩ := hsame
    obtain ⟨h', tk', rfl⟩ := x.same
    exact ⟨h, tk, rfl⟩
  · have : p.1 ∈ led.map (·.1) := hkeys ▸ List.mem_map_of_mem (f := (·.1)) hp
    obtain ⟨q, hq, e⟩ := List.mem_map.mp this
    rw [← e]; exact x.new q hq

theorem iter_enum {w : World} {A : Around} {s : Shared} {b₀ : Heap} {env : Env} {x xi xv : Str} {p pos pi pv pt : Pos} {x1 : Nat} {e : PySem.Expr} {scope : Scope} {cl : List (Str × Addr)} {l : Addr} {vs : List Value}
    (hB : Bs w b₀) (hb : Kept b₀ s) (hf : PVal PG w A env s (.Name x p) (.type "enumerate")) (he : PVal PG w A env s e (.ref l)) (hl : ∃ o, s.heap.get? l = some o ∧ aL vs o)
    (hxi : ∀ C, (compEnvX scope cl C env).kindOf xi = some .local) (hxv : ∀ C, (compEnvX scope cl C env).kindOf xv = some .local) (hne : xi ≠ xv) (hk : scope.kind = .function) (hnc : ∀ C, newCells scope C = []) (hh : A.handled = none)
    (hs : backTo pos (starEach [e] env) = [(false, eval e env)] := by rfl) :
    Itr PG w A env scope cl (.Tuple [.Name xi pi, .Name xv pv] x1 pt) b₀ vs.length (fun C i h => ∃ v t m, vs[i]? = some v ∧ h.Ns C m ∧ m xi = some (.int (i : Int) t) ∧ m xv = some v) (.Call (.Name x p) [e] [] pos) s := by
  intro Q E hQ
  refine call_t1 hf (fun tk => ?_) hs
  refine he _ _ _ ?_
  rintro _ tk1 rfl
  obtain ⟨o, ho, n, rfl⟩ := hl
  refine call_enumerate_1 (s := { s with toks := tk1 }) (items := vs.toArray) (n := n) ho fun h' hen hit hsz hk' => ?_
  have hl0 : s.heap.IsList l vs.toArray := ⟨_, ho, rfl, n, rfl⟩
  have hllt : l < s.heap.objs.size := Heap.lt_size ho
  refine wpAny_pyIter_enum hen ?_
  dsimp only at hen hit hsz hk' ⊢
  have hItn : s.heap.get? s.heap.objs.size = none := none_of_size (Nat.le_refl _)
  have hEn : s.heap.get? (s.heap.objs.size + 1) = none := none_of_size (Nat.le_succ _)
  generalize hI : s.heap.objs.size = It at *
  let aLI : Nat → Obj → Prop := fun i o => o.cls = .type "list_iterator" ∧ o.data = .fields #[.ref l, .int i 0]
  let aEn : Nat → Value → Obj → Prop := fun i old o => o = { cls := .type "enumerate", dict := none, data := .fields #[.none, .bool false, .ref It, rawInt i, .none, old], slots := #[] }
  have hEI : It + 1 ≠ It := Nat.succ_ne_self _
  refine hQ (It + 1) s _ [(It + 1, aEn 0 .none), (It, aLI 0)] (fun C i m led => ∃ old, led = [(It + 1, aEn i old), (It, aLI i)])
    (fun C i m led => ∃ old v t, led = [(It + 1, aEn (i + 1) old), (It, aLI (i + 1))] ∧ vs[i]? = some v ∧ m xi = some (.int (i : Int) t) ∧ m xv = some v) (Ext.refl hb) ?_ ?_ ?_ ⟨?_, ?_, ?_, ?_, ?_⟩
  · exact ⟨⟨_, _, rfl⟩, fun b o _ e => hk' b o e, fun b o e => hk' b o (hb b o e), fun b o e => ⟨o, hk' b o e⟩⟩
  · intro q hq
    rcases List.mem_cons.mp hq with rfl | hq
    · exact ⟨hEn, _, hen, rfl⟩
    · cases List.mem_singleton.mp hq
      exact ⟨hItn, hit⟩
  · simp
  · intro C
    refine ⟨.none, ?_⟩
    rw [hnc]; rfl
  · rintro C m led s₁ Q E ⟨old, rfl⟩ J hq
    obtain ⟨o, ho', hP⟩ := J.head
    subst hP
    exact wpAny_pyIter_enum ho' hq
  · rintro C i m led D P s₁ E X Y hab hICs hi ⟨old, rfl⟩ J hD hY hX
    have hEC : It + 1 < C := hICs _ (List.Mem.head _)
    have hIC : It < C := Nat.lt_trans (Nat.lt_succ_self _) hEC
    obtain ⟨oe, hoe, hPe⟩ := J.tail.head
    subst hPe
    have hitr : s₁.heap.IsListIter It l i := J.tail.tail.head
    have hl₁ : s₁.heap.IsList l vs.toArray := hl0.at fun o e => J.keep l o (by simp) (Nat.ne_of_lt (hab l o e)) e
    have hCs : C < s₁.heap.objs.size := J.ns.lt
    have hDs : D < s₁.heap.objs.size := by obtain ⟨o, ho, _⟩ := J.head; exact Heap.lt_size ho
    have hDne := List.nodup_cons.mp J.apart
    by_cases hlt : i < vs.length
    · refine wpAny_pyNext_enum_item (x := vs[i]) hoe hitr hl₁ (by simp [hlt]) hEI fun h₁ heo hit₁ ht₁ hz₁ hk₁ => ?_
      dsimp only
      refine wpAny_letOwnedTupleGo_enum heo fun h₂ he₂ hs₂ => ?_
      replace hs₂ : Heap.SameBut (It + 1) h₁ h₂ := hs₂
      have ht₂ : h₂.IsTuple s₁.heap.objs.size #[.int i s₁.toks, vs[i]] := ⟨_, (hs₂.2 _ (Nat.ne_of_gt (Nat.lt_trans hEC hCs))).trans ht₁, rfl, _, rfl⟩
      have hz₂ : h₂.objs.size = s₁.heap.objs.size + 1 := hs₂.1.trans hz₁
      refine wpAny_assign_Tuple hh ht₂ rfl rfl fun h₃ hx₃ => ?_
      replace hx₃ : Heap.ExtBut h₂.objs.size h₂ h₃ := hx₃
      have hall : ∀ b o, b ∉ [It + 1, It] → s₁.heap.get? b = some o → h₃.get? b = some o := by
        intro b o hb' e
        have n1 : b ≠ It + 1 := fun q => hb' (by rw [q]; exact .head _)
        have n2 : b ≠ It := fun q => hb' (by rw [q]; exact .tail _ (.head _))
        exact hx₃ b o (by rw [hz₂]; exact Nat.ne_of_lt (Nat.lt_succ_of_lt (Heap.lt_size e))) ((hs₂.2 b n1).trans (hk₁ b o n1 n2 e))
      have J₃ : In b₀ s [] C m [(D, P), (It + 1, aEn (i + 1) vs[i]), (It, aLI (i + 1))] { s₁ with heap := h₃, toks := s₁.toks + 1 } := by
        refine J.renew (ch := [It + 1, It]) ⟨_, _, rfl⟩ hall ?_ rfl ?_
        · intro a ha
          rcases List.mem_cons.mp ha with rfl | ha
          · exact ⟨hEn, Kept.none hb hEn, Nat.ne_of_lt hEC⟩
          · cases List.mem_singleton.mp ha; exact ⟨hItn, Kept.none hb hItn, Nat.ne_of_lt hIC⟩
        · intro q hq
          rcases List.mem_cons.mp hq with rfl | hq
          · obtain ⟨o, ho, hp⟩ := J.head
            refine ⟨o, hall _ _ (fun hm => hDne.1 ?_) ho, hp⟩
            simpa using hm
          · rcases List.mem_cons.mp hq with rfl | hq
            · refine ⟨_, hx₃ _ _ (by rw [hz₂]; exact Nat.ne_of_lt (Nat.lt_succ_of_lt (Nat.lt_trans hEC hCs))) he₂, ?_⟩
              show _ = _
              simp
            · cases List.mem_singleton.mp hq
              obtain ⟨o, ho, hp⟩ := hit₁
              exact ⟨o, hx₃ _ _ (by rw [hz₂]; exact Nat.ne_of_lt (Nat.lt_succ_of_lt (Nat.lt_trans hIC hCs))) ((hs₂.2 It (Ne.symm hEI)).trans ho), hp⟩
      have hpk : ((compEnvX scope cl C env).scope.kind == .class || ((compEnvX scope cl C env).scope.kind == .module && (compEnvX scope cl C env).locals != (compEnvX scope cl C env).globals)) = false := by
        show (scope.kind == _ || (scope.kind == _ && _)) = false
        rw [hk]; rfl
      show wpAny _ A (do holding [vs[i]] (assign (.Name xi pi) (compEnvX scope cl C env) (.int i s₁.toks)); do holding [] (assign (.Name xv pv) (compEnvX scope cl C env) vs[i]); pure ()) _ _ _
      refine wpAny_bind (wpAny_holding (wpAny_assign_Name (wpAny_storeName_local (hxi C) J₃.ns (fun h₄ hn₄ hs₄ => ?_) hpk)))
      have J₄ := J₃.set (tk := s₁.toks + 1 + 1) hn₄ hs₄
      refine wpAny_bind (wpAny_holding (wpAny_assign_Name (wpAny_storeName_local (hxv C) J₄.ns (fun h₅ hn₅ hs₅ => wpAny_pure ?_) hpk)))
      have J₅ := J₄.set (tk := s₁.toks + 1 + 1 + 1) hn₅ hs₅
      refine hY hlt _ _ _ ⟨vs[i], vs[i], s₁.toks, rfl, by simp [hlt], ?_, ?_⟩ J₅ fun a o ha _ e => ?_
      · simp [hne]
      · simp
      · refine (hs₅.2 a (Nat.ne_of_gt ha)).trans ((hs₄.2 a (Nat.ne_of_gt ha)).trans (hall a o ?_ e))
        intro hm
        rcases List.mem_cons.mp hm with rfl | hm
        · exact Nat.lt_irrefl _ (Nat.lt_trans ha hEC)
        · cases List.mem_singleton.mp hm; exact Nat.lt_irrefl _ (Nat.lt_trans ha hIC)
    · have hin : i = vs.length := by omega
      refine wpAny_pyNext_enum_end hh hoe hitr hl₁ (by simp; omega) fun h₁ he₁ => ?_
      dsimp only
      have J₂ : In b₀ s [] C m [(D, P)] s₁ := J.less (by intro q hq; cases List.mem_singleton.mp hq; exact .head _) (by simp)
      refine hX hin m _ (J₂.outBut (tk := s₁.toks) he₁ hItn (Kept.none hb hItn) (Nat.ne_of_lt hIC) ?_) fun a' o' ha _ e => he₁ a' o' (Nat.ne_of_gt (Nat.lt_trans hIC ha)) e
      intro hm
      exact hDne.1 (by have e : It = D := List.mem_singleton.mp hm
                       rw [← e]; exact .tail _ (.head _))
  · rintro C i m led ⟨old, v, t, rfl, _⟩
    exact ⟨old, rfl⟩
  · rintro C i m led s₁ ⟨old, v, t, rfl, h1, h2, h3⟩ J
    exact ⟨v, t, m, h1, J.ns, h2, h3⟩
end Mine
end
section
open PySem PySem.W PyProof.Rows PySem.Calls
open Sem (wp)
set_option maxRecDepth 100000
set_option maxHeartbeats 4000000
set_option linter.unusedVariables false
namespace Mine
def bitOn (mask p : Nat) : Bool := mask / 2 ^ p % 2 == 1
def placesOf (k mask : Nat) : List Nat := (List.range k).filter (bitOn mask)
def otherN (x : Int) (wd : Nat) : Int := preSum (otherV x wd) wd
def madeV (ns : List Int) (wd mask p : Nat) : Int := if bitOn mask p then otherN (ns.getD p 0) wd else ns.getD p 0
def madeOf (ns : List Int) (wd mask : Nat) : List Int := (List.range ns.length).map (madeV ns wd mask)
def sumOf (ns : List Int) (wd mask : Nat) : Int := preSum (madeV ns wd mask) ns.length
theorem bit_eq (mask p : Nat) : ((((mask : Int).fdiv (2 ^ p)).fmod 2) == 1) = bitOn mask p := by
  have e1 : (2 : Int) ^ p = ((2 ^ p : Nat) : Int) := by push_cast; rfl
  rw [e1, Int.fdiv_eq_ediv_of_nonneg _ (Int.natCast_nonneg _), Int.fmod_eq_emod_of_nonneg _ (by decide), ← Int.natCast_ediv]
  unfold bitOn
  rw [Bool.eq_iff_iff]
  simp only [beq_iff_eq]
  omega
theorem intsAre_snoc : ∀ {vs : List Value} {ns : List Int} {n : Int} {t : Tok}, IntsAre vs ns → IntsAre (vs ++ [.int n t]) (ns ++ [n])
  | _, _, n, t, .nil => .cons n t .nil
  | _, _, n, t, .cons a u r => .cons a u (intsAre_snoc r)
theorem mem_places {k mask p : Nat} (hp : p < k) : (((placesOf k mask).map (fun q : Nat => (q : Int))).any (· == (p : Int))) = bitOn mask p := by
  rw [Bool.eq_iff_iff, List.any_eq_true]
  constructor
  · rintro ⟨x, hx, hxp⟩
    obtain ⟨q, hq, rfl⟩ := List.mem_map.mp hx
    have : q = p := by have h := beq_iff_eq.mp hxp; omega
    subst this
    exact (List.mem_filter.mp hq).2
  · intro h
    exact ⟨(p : Int), List.mem_map.mpr ⟨p, List.mem_filter.mpr ⟨List.mem_range.mpr hp, h⟩, rfl⟩, by simp⟩
section
variable {prog : Program} {w : World} {A : Around} {E : Value → Shared → Prop} {s : Shared} {env : Env} {b₀ : Heap} {s₀ : Shared} {W : List Addr} {m : Str → Option Value} {led : Ledger} {x : Str} {v : Value} {L c : Addr} {v₀ : Option Value}
theorem In.storeCell {Q : Unit → Shared → Prop} (I : In b₀ s₀ W L m ((c, aC v₀) :: led) s) (hW : c ∈ W ∨ s₀.heap.get? c = none) (h : ∀ s', In b₀ s₀ W L m ((c, aC (some v)) :: led) s' → Q () s')
    (hc : env.cells.lookup x = some c) (hk : env.scope.kind = .function := by rfl) (hl : env.kindOf x = some .cell := by rfl) : wpAny (model prog w) A (storeName env x v) Q E s :=
  wpAny_storeName_cell (c := c) hk hl hc I.head fun h₂ hn₂ hs₂ => h _ (I.change (tk := s.toks) (P' := aC (some v)) hW hs₂ hn₂)
end
end Mine
end
section
open PySem PySem.W PyProof.Rows PySem.Calls
open Sem (wp)
set_option maxRecDepth 100000
set_option maxHeartbeats 4000000
set_option linter.unusedVariables false
namespace Mine
structure Rec where
  T : Addr
  P : Addr
  M : Addr
  yp : List Value
  ym : List Value
  sum : Int
  t : Tok
abbrev aTup (r : Rec) : Obj → Prop := fun o => ∃ n, o = { cls := .type "tuple", data := .seq #[.int r.sum r.t, .ref r.P, .ref r.M] n }
def recLed (recs : List Rec) : Ledger := recs.flatMap fun r => [(r.T, aTup r), (r.P, aL r.yp), (r.M, aL r.ym)]
def GoodR (ns : List Int) (wd : Nat) (j : Nat) (r : Rec) : Prop := IntsAre r.yp ((placesOf ns.length j).map (fun q : Nat => (q : Int))) ∧ IntsAre r.ym (madeOf ns wd j) ∧ r.sum = sumOf ns wd j
def rowOf (k c : Nat) (recs : List Rec) : List Value := (recs.zipIdx.filter fun x => (placesOf k x.2).length == c).map fun x => .ref x.1.T
def subLed (k : Nat) (subs : List Addr) (recs : List Rec) : Ledger := subs.zipIdx.map fun x => (x.1, aL (rowOf k x.2 recs))

theorem eq_of_key {l : Ledger} (hn : (l.map (·.1)).Nodup) : ∀ {p q : Addr × (Obj → Prop)}, p ∈ l → q ∈ l → p.1 = q.1 → p = q := by
  induction l with
  | nil => intro p q hp; cases hp
  | cons a r ih =>
    intro p q hp hq e
    obtain ⟨h1, h2⟩ := List.nodup_cons.mp hn
    rcases List.mem_cons.mp hp with e1 | hp1 <;> rcases List.mem_cons.mp hq with e2 | hq1
    · rw [e1, e2]
    · exact absurd (by dsimp only; rw [← e1, e]; exact List.mem_map_of_mem (f := (·.1)) hq1) h1
    · exact absurd (by dsimp only; rw [← e2, ← e]; exact List.mem_map_of_mem (f := (·.1)) hp1) h1
    · exact ih h2 hp1 hq1 e

theorem In.appendIn {prog : Program} {w : World} {A : Around} {E : Value → Shared → Prop} {s : Shared} {b₀ : Heap} {s₀ : Shared} {W : List Addr} {m : Str → Option Value} {led led' : Ledger} {v : Value} {L a : Addr} {vs : List Value} {Q : Value → Shared → Prop}
    (I : In b₀ s₀ W L m led s) (ha : (a, aL vs) ∈ led) (hW : s₀.heap.get? a = none) (hlen : vs.length < 100000) (hkeys : led'.map (·.1) = led.map (·.1)) (hq : (a, aL (vs ++ [v])) ∈ led') (hled : ∀ p ∈ led', p = (a, aL (vs ++ [v])) ∨ p ∈ led)
    (h : ∀ s', In b₀ s₀ W L m led' s' → Q .none s') : wpAny (model prog w) A (call (.builtin "list.append") [.ref a, v]) Q E s := by
  obtain ⟨o, ho, n, rfl⟩ := I.own _ ha
  refine wpAny_list_append_plain (items := vs.toArray) ⟨n, ho⟩ (fun h' hl hs => h _ ?_) ?_
  · have hnl := I.new _ ha
    refine I.renew (ch := [a]) ⟨_, _, rfl⟩ (fun b o hb e => (hs.2 b (fun q => hb (by rw [q]; exact .head _))).trans e) (fun b hb => ?_) hkeys fun p hp => ?_
    · cases List.mem_singleton.mp hb; exact ⟨hW, hnl⟩
    · obtain ⟨n', e⟩ := hl
      by_cases hpa : p.1 = a
      · have := eq_of_key (hkeys ▸ I.apart) hp hq hpa
        subst this
        exact ⟨_, e, n', by simp [PySem.W.listOf]⟩
      · rcases hled p hp with rfl | hp'
        · exact absurd rfl hpa
        · obtain ⟨o', ho', hp''⟩ := I.own p hp'
          exact ⟨o', (hs.2 p.1 hpa).trans ho', hp''⟩
  · have : (100000 : Nat) ≤ sizeLine := by decide
    rw [List.size_toArray]; omega

theorem rowOf_snoc (k c : Nat) (recs : List Rec) (r : Rec) : rowOf k c (recs ++ [r]) = if (placesOf k recs.length).length = c then rowOf k c recs ++ [.ref r.T] else rowOf k c recs := by
  unfold rowOf
  rw [List.zipIdx_append, List.filter_append, List.map_append]
  simp only [List.zipIdx_cons, List.zipIdx_nil, Nat.zero_add]
  by_cases h : (placesOf k recs.length).length = c
  · rw [if_pos h]
    simp [h]
  · rw [if_neg h]
    simp [h]
theorem subLed_keys (k : Nat) (subs : List Addr) (recs : List Rec) : (subLed k subs recs).map (·.1) = subs := by
  unfold subLed
  rw [List.map_map]
  exact List.zipIdx_map_fst 0 subs
theorem subLed_mem {k : Nat} {subs : List Addr} {recs : List Rec} {c : Nat} {a : Addr} (h : subs[c]? = some a) : (a, aL (rowOf k c recs)) ∈ subLed k subs recs := by
  refine List.mem_map.mpr ⟨(a, c), ?_, rfl⟩
  exact List.mk_mem_zipIdx_iff_getElem?.mpr h
theorem subLed_out {k : Nat} {subs : List Addr} {recs : List Rec} {p : Addr × (Obj → Prop)} (h : p ∈ subLed k subs recs) : ∃ c a, subs[c]? = some a ∧ p = (a, aL (rowOf k c recs)) := by
  obtain ⟨⟨a, c⟩, hm, rfl⟩ := List.mem_map.mp h
  exact ⟨c, a, List.mk_mem_zipIdx_iff_getElem?.mp hm, rfl⟩
theorem places_le (k mask : Nat) : (placesOf k mask).length ≤ k := by
  have := List.length_filter_le (bitOn mask) (List.range k)
  simpa [placesOf] using this
theorem rowOf_length (k c : Nat) (recs : List Rec) : (rowOf k c recs).length ≤ recs.length := by
  unfold rowOf
  rw [List.length_map]
  exact Nat.le_trans (List.length_filter_le _ _) (by simp)

/-- a record comes to its row -/
theorem In.appendSub {prog : Program} {w : World} {A : Around} {E : Value → Shared → Prop} {s : Shared} {b₀ : Heap} {s₀ : Shared} {W : List Addr} {m : Str → Option Value} {F B : Ledger} {L a : Addr} {Q : Value → Shared → Prop} {k : Nat} {subs : List Addr} {recs : List Rec} {r : Rec}
    (I : In b₀ s₀ W L m (F ++ (subLed k subs recs ++ B)) s) (ha : subs[(placesOf k recs.length).length]? = some a) (hW : s₀.heap.get? a = none) (hlen : recs.length < 100000)
    (h : ∀ s', In b₀ s₀ W L m (F ++ (subLed k subs (recs ++ [r]) ++ B)) s' → Q .none s') : wpAny (model prog w) A (call (.builtin "list.append") [.ref a, .ref r.T]) Q E s := by
  have hkc : ∀ c, rowOf k c (recs ++ [r]) = if (placesOf k recs.length).length = c then rowOf k c recs ++ [.ref r.T] else rowOf k c recs := fun c => rowOf_snoc k c recs r
  refine I.appendIn (a := a) (vs := rowOf k (placesOf k recs.length).length recs) (List.mem_append_right _ (List.mem_append_left _ (subLed_mem ha))) hW (by have := rowOf_length k (placesOf k recs.length).length recs; omega) ?_ ?_ ?_ h
  · simp only [List.map_append, subLed_keys]
  · refine List.mem_append_right _ (List.mem_append_left _ ?_)
    have := subLed_mem (k := k) (recs := recs ++ [r]) ha
    rw [hkc, if_pos rfl] at this
    exact this
  · intro p hp
    rcases List.mem_append.mp hp with hp | hp
    · exact .inr (List.mem_append_left _ hp)
    · rcases List.mem_append.mp hp with hp | hp
      · obtain ⟨c, a', hc, rfl⟩ := subLed_out hp
        rw [hkc]
        by_cases hcc : (placesOf k recs.length).length = c
        · rw [if_pos hcc]
          left
          subst hcc
          rw [ha] at hc
          cases hc; rfl
        · rw [if_neg hcc]
          exact .inr (List.mem_append_right _ (List.mem_append_left _ (subLed_mem hc)))
      · exact .inr (List.mem_append_right _ (List.mem_append_right _ hp))
end Mine
end
section
open PySem PySem.W PyProof.Rows PySem.Calls
open Sem (wp)
set_option maxRecDepth 100000
set_option maxHeartbeats 4000000
set_option linter.unusedVariables false
namespace Mine
/-- fresh empty lists -/
def subsJ : Addr → Nat → List Value → Heap → Prop := fun C i ys h => ∃ as : List Addr, ys = as.map Value.ref ∧ as.length = i ∧ as.Nodup ∧ ∀ a ∈ as, C < a ∧ ∃ o, h.get? a = some o ∧ aL [] o

theorem perm8 {α : Type} (a b c d e f g h : α) : List.Perm [a, b, c, d, e, f, g, h] [f, e, c, g, h, a, d, b] := by
  have hp : List.Perm [0, 1, 2, 3, 4, 5, 6, 7] [5, 4, 2, 6, 7, 0, 3, 1] := by decide
  exact hp.map fun i => [a, b, c, d, e, f, g, h].getD i a
theorem permTail {α : Type} (t S R : List α) : List.Perm (t ++ (S ++ R)) (S ++ (R ++ t)) := by rw [← List.append_assoc S]; exact List.perm_append_comm
theorem PTest.inInts {w : World} {A : Around} {s : Shared} {env : Env} {l r : PySem.Expr} {pos : Pos} {k : Int} {D : Addr} {ys : List Value} {ns : List Int} (hl : PInt PG w A env s l k) (hr : PVal PG w A env s r (.ref D)) (hD : s.heap.IsList D ys.toArray) (hi : IntsAre ys ns) (hm : behindInMarks .In r = false := by with_unfolding_all rfl) :
    PTest PG w A env s (.Compare l [.In] [r] pos) (ns.any (· == k)) := fun Q E tk hQ =>
  wpAny_isTrue_Compare1 (hl _ _ _ (by
    rintro _ tk1 ⟨t, rfl⟩
    refine hr _ _ _ ?_
    rintro _ tk2 rfl
    exact in_list_ints (s := { s with toks := tk2 }) hD hi (wpAny_truthy_bool (hQ _)))) hm
theorem aL_list {h : Heap} {D : Addr} {ys : List Value} (x : ∃ o, h.get? D = some o ∧ aL ys o) : h.IsList D ys.toArray := let ⟨o, ho, n, e⟩ := x; ⟨o, ho, by rw [e], n, by rw [e]⟩
theorem Ext.aL {b₀ : Heap} {s s' : Shared} {D : Addr} {P : Obj → Prop} (x : Ext b₀ [] s s') (h : ∃ o, s.heap.get? D = some o ∧ P o) : ∃ o, s'.heap.get? D = some o ∧ P o := let ⟨o, ho, hp⟩ := h; ⟨o, x.keep _ _ (by simp) ho, hp⟩

/-- what the choices are -/
structure ChAt (h : Heap) (ns : List Int) (wd : Nat) (D : Addr) : Prop where
  ex : ∃ (subs : List Addr) (recs : List Rec), subs.length = ns.length + 1 ∧ recs.length = 2 ^ ns.length ∧ (∃ o, h.get? D = some o ∧ aL (subs.map Value.ref) o) ∧
    (∀ c a, subs[c]? = some a → ∃ o, h.get? a = some o ∧ aL (rowOf ns.length c recs) o) ∧
    (∀ j r, recs[j]? = some r → GoodR ns wd j r ∧ (∃ o, h.get? r.T = some o ∧ aTup r o) ∧ (∃ o, h.get? r.P = some o ∧ aL r.yp o) ∧ (∃ o, h.get? r.M = some o ∧ aL r.ym o))

theorem choices_ok {w : World} {A : Around} {E : Value → Shared → Prop} {s : Shared} {b₀ : Heap} (hB : Bs w b₀) (R : Rm 4 A) (hb : Kept b₀ s) {l : Addr} {vs : List Value} {ns : List Int} {wd : Nat} {t2 : Tok} (hl : ∃ o, s.heap.get? l = some o ∧ aL vs o) (hi : IntsAre vs ns) (h5 : ns.length ≤ 5) (hw : wd ≤ 4) :
    wpAny (model PG w) A (call (.ref 102) [.ref l, .int wd t2]) (fun v s' => Ext b₀ [] s s' ∧ ∃ D, v = .ref D ∧ s.heap.get? D = none ∧ ChAt s'.heap ns wd D) E s := by
  have hlen : vs.length = ns.length := hi.length
  refine call_cellsAt hB R hb rfl rfl rfl rfl (show List.Nodup [("places" : Str), "mask", "width"] by decide) (fun E' s₁ I => ?_) rfl rfl rfl
  have R' : Rm 3 (A.deeper (callEnvC (dataAt w.params 102) s.heap.objs.size 102)) := R.deeper _
  have hLn : s.heap.get? s.heap.objs.size = none := none_of_size (Nat.le_refl _)
  have I' : In b₀ s [] s.heap.objs.size (fun y => if y = "numbers" then some (.ref l) else none) [(s.heap.objs.size + 3, aC none), (s.heap.objs.size + 2, aC none), (s.heap.objs.size + 1, aC (some (.int wd t2)))] s₁ := by
    exact I
  have hlL : l ≠ s.heap.objs.size := by obtain ⟨o, ho, _⟩ := hl; exact Nat.ne_of_lt (Heap.lt_size ho)
  have hf1 : s.heap.get? (s.heap.objs.size + 2) = none := none_of_size (Nat.le_add_right _ _)
  have hf2 : s.heap.get? (s.heap.objs.size + 3) = none := none_of_size (Nat.le_add_right _ _)
  generalize hL : s.heap.objs.size = L at *
  have hlat : ∀ {s' : Shared} {m led}, In b₀ s [] L m led s' → ∃ o, s'.heap.get? l = some o ∧ aL vs o := fun {s' m led} J => let ⟨o, ho, hp⟩ := hl; ⟨o, J.keep l o (by simp) hlL ho, hp⟩
  have hlis : ∀ {s' : Shared} {m led}, In b₀ s [] L m led s' → s'.heap.IsList l vs.toArray := fun {s' m led} J => let ⟨o, ho, n, e⟩ := hlat J; ⟨o, ho, by rw [e], n, by rw [e]⟩
  have R2 : ∀ env, Rm 2 ((A.deeper (callEnvC (dataAt w.params 102) L 102)).deeper env) := fun env => R'.deeper env
  obtain ⟨N, hN⟩ : ∃ N, N = 2 ^ ns.length := ⟨_, rfl⟩
  have h2k : N ≤ 32 := by
    have : (2 : Nat) ^ ns.length ≤ 2 ^ 5 := Nat.pow_le_pow_right (by decide) h5
    rw [hN]; simpa using this
  refine wpAny_execs_cons (comp_assign I' (ns.length + 1) (fun _ => true) subsJ (fun C i h => ∃ t, vLoc "count" C (.int (i : Int) t) h)
    (iter_range1 hB I'.base (.builtin hB I'.base) (hlen ▸ PEv.add (.lenL (.builtin hB I'.base) (.local (v := .ref l) I'.ns rfl) (hlis I') (by omega)) .const) (fun s => tgt_local (fun _ => rfl) rfl (fun _ => rfl)) R'.handled (by omega)) (by omega) rfl rfl (by decide)
    (fun C h => ⟨[], rfl, rfl, List.nodup_nil, fun _ h => nomatch h⟩) ?_ (fun C i ys s₁ E' hi hx hC hbd hj => tests_nil hx.base) ?_ ?_)
  · rintro C i ys h h' ⟨as, rfl, hl', hnd, has⟩ hk
    refine ⟨as, rfl, hl', hnd, fun a ha => ?_⟩
    obtain ⟨h1, o, ho, hp⟩ := has a ha
    exact ⟨h1, o, hk a o h1 (fun hm => nomatch hm) ho, hp⟩
  · rintro C i ys s₃ E'' hi' _ hx₃ hC hlt hbd ⟨as, rfl, hl', hnd, has⟩
    refine PyProof.Rows.List_ (spliced_nil (wpAny_newObj_type ?_))
    refine ⟨Ext.push hx₃.base, as ++ [s₃.heap.objs.size], by simp, by simp [hl'], ?_, ?_⟩
    · refine List.nodup_append.mpr ⟨hnd, by simp, ?_⟩
      intro a ha b hb' e
      cases List.mem_singleton.mp hb'
      obtain ⟨_, o, ho, _⟩ := has a ha
      exact Nat.ne_of_lt (Heap.lt_size ho) e
    · intro a ha
      rcases List.mem_append.mp ha with ha | ha
      · obtain ⟨h1, o, ho, hp⟩ := has a ha
        exact ⟨h1, o, Heap.get?_push_of_some _ ho, hp⟩
      · cases List.mem_singleton.mp ha
        exact ⟨hlt, _, Heap.get?_push_size _ rfl, 0, rfl⟩
  · rintro D C ys s₃ hDs hD hDC hab I₃ ⟨subs, rfl, hsl, hsn, has⟩
    have hlow : ∀ a ∈ subs, ∀ b o, s₁.heap.get? b = some o → b < a := fun a ha b o e => Nat.lt_trans (hab b o e) (Nat.lt_trans hDC (has a ha).1)
    have hsub0 : ∀ a ∈ subs, s₁.heap.get? a = none := fun a ha => by
      cases q : s₁.heap.get? a with
      | none => rfl
      | some o => exact absurd (hlow a ha a o q) (Nat.lt_irrefl _)
    have hsubs : ∀ a ∈ subs, s.heap.get? a = none := fun a ha => by
      cases q : s.heap.get? a with
      | none => rfl
      | some o => obtain ⟨o', e⟩ := I'.live a o q; rw [hsub0 a ha] at e; cases e
    have I₄ : In b₀ s [] L (fun z => if z = "choices" then some (.ref D) else if z = "numbers" then some (.ref l) else none) (subLed ns.length subs [] ++ [(D, aL (subs.map Value.ref)), (L + 3, aC none), (L + 2, aC none), (L + 1, aC (some (.int wd t2)))]) s₃ := by
      refine I₃.adopts (fun p hp => ?_) (by rw [subLed_keys]; exact hsn)
      obtain ⟨c, a, hc, rfl⟩ := subLed_out hp
      have ha : a ∈ subs := List.mem_of_getElem? hc
      refine ⟨(has a ha).2, Kept.none I'.base (hsub0 a ha), ?_, ?_⟩
      · obtain ⟨o, _, _, ho, _⟩ := I'.ns
        exact Nat.ne_of_gt (hlow a ha _ _ ho)
      · intro hm
        rcases List.mem_cons.mp hm with e | hm
        · exact Nat.ne_of_gt (Nat.lt_trans hDC (has a ha).1) e
        · obtain ⟨q, hq, e⟩ := List.mem_map.mp hm
          obtain ⟨o, ho, _⟩ := I'.own q hq
          exact Nat.ne_of_lt (hlow a ha _ _ ho) e
    have I₅ : In b₀ s [] L (fun z => if z = "choices" then some (.ref D) else if z = "numbers" then some (.ref l) else none) ((L + 2, aC none) :: (L + 3, aC none) :: (D, aL (subs.map Value.ref)) :: (L + 1, aC (some (.int wd t2))) :: (subLed ns.length subs [] ++ recLed [])) s₃ := by
      refine I₄.perm ?_
      rw [show recLed [] = [] from rfl, List.append_nil]
      exact List.perm_append_comm.trans ((List.reverse_perm [(D, aL (subs.map Value.ref)), (L + 3, aC none), (L + 2, aC none)]).symm.append_right _)
    dsimp only
    refine wpAny_execs_cons (wpAny_For ?_)
    refine call_t1 (T := "range") (.builtin hB I₅.base) fun tk => ?_
    have I₆ := I₅.tok tk
    refine PEv.use (PEv.pow .const (.lenL (.builtin hB I₆.base) (.local (v := .ref l) I₆.ns rfl) (hlis I₆) (by omega)) (by decide) (by omega) (by omega)) ?_
    rintro _ tk2 ⟨t3, rfl⟩
    have hpow : (2 : Int) ^ ((vs.length : Int)).toNat = (N : Int) := by rw [Int.toNat_natCast, hlen, hN]; push_cast; rfl
    rw [hpow]
    refine call_range_1 ?_
    obtain ⟨I₇, hr7⟩ := (I₆.tok tk2).push { cls := .type "range", data := .fields #[.int 0 tk2, .int (N : Int) t3, .int 1 (tk2 + 1)] } (fun _ => True) rfl trivial
    have I₈ := (I₇.tok (tk2 + 1 + 1)).tail
    refine wpAny_pyIter_range (IsRange.new _ _ _ _ _ _ _) (small_one (by omega) (by omega) (by omega) (by omega)) ?_
    rw [rangeSize_up]
    obtain ⟨I₉, hr9⟩ := I₈.push { cls := .type "range_iterator", data := .fields #[rawInt 0, rawInt (N : Int), rawInt 1] } (aRI 0 (N : Int) 1) rfl rfl
    refine for_rng (fun i m led => ∃ vm vp recs, recs.length = i ∧ (∀ j r, recs[j]? = some r → GoodR ns wd j r) ∧ led = (L + 2, aC vm) :: (L + 3, aC vp) :: (D, aL (subs.map Value.ref)) :: (L + 1, aC (some (.int wd t2))) :: (subLed ns.length subs recs ++ recLed recs) ∧ m "numbers" = some (.ref l) ∧ m "choices" = some (.ref D)) R'.handled I₉ hr9
      ⟨none, none, [], rfl, fun j r h => by simp at h, rfl, rfl, rfl⟩ ?_ ?_
    · rintro i t m led s' E'' hi' ⟨vm, vp, recs, hrl, hg, rfl, e1, e2⟩ J
      refine wpAny_assign_Name (In.storeCell J.swap (.inr hf1) (fun s'' J₁ => ?_) rfl)
      rw [show (0 : Int) + (i : Int) * 1 = (i : Int) by omega] at J₁
      have cm : s''.heap.IsCell (L + 2) (some (.int (i : Int) t)) := J₁.head
      refine wpAny_execs_cons (wpAny_Assign_Name (comp_eval J₁.base vs.length (bitOn i) (fun C q ys h => IntsAre ys ((placesOf q i).map fun q : Nat => (q : Int))) (fun C i h => ∃ t, vLoc "place" C (.int (i : Int) t) h)
        (iter_range1 hB J₁.base (.builtin hB J₁.base) (.lenL (.builtin hB J₁.base) (.local (v := .ref l) J₁.ns e1) (hlis J₁) (by omega)) (fun s => tgt_local (fun _ => rfl) rfl (fun _ => rfl)) R'.handled (by omega)) (by omega) rfl rfl (by decide)
        (fun C h => .nil) (fun C i ys h h' hj _ => hj) ?_ ?_ ?_))
      · rintro C q ys s₄ E₄ hq hx₄ hC ⟨t', m', hns, hm⟩ hj
        have hqp : (2 : Int) ^ ((q : Int)).toNat = 2 ^ q := by rw [Int.toNat_natCast]
        have h2q : (2 : Int) ^ q ≠ 0 ∧ ((2 : Int) ^ q).natAbs < 1073741824 := by
          have : q = 0 ∨ q = 1 ∨ q = 2 ∨ q = 3 ∨ q = 4 := by omega
          rcases this with rfl | rfl | rfl | rfl | rfl <;> decide
        refine wpAny_tests_one ((PTest.eq (.fmod (.fdiv (.cellI (c := L + 2) rfl (hx₄.cell cm)) (.pow .const (.localI hns hm) (by decide) (by omega) (by omega)) (by rw [hqp]; exact h2q.1) (by rw [hqp]; exact h2q.2)) .const (by decide)) .const).use fun tk => ?_)
        rw [hqp, bit_eq]
        refine ⟨rfl, (Ext.refl hx₄.base).tok tk, fun hf => ?_⟩
        show IntsAre ys ((placesOf (q + 1) i).map _)
        unfold placesOf at hj ⊢
        rw [List.range_succ, List.filter_append]
        simpa [hf] using hj
      · rintro C q ys s₄ E₄ hq hpq hx₄ hC hlt ⟨t', m', hns, hm⟩ hj
        refine (PEv.local (v := .int (q : Int) t') hns hm).use ?_
        rintro _ tk rfl
        refine ⟨(Ext.refl hx₄.base).tok tk, ?_⟩
        show IntsAre _ ((placesOf (q + 1) i).map _)
        have : (placesOf (q + 1) i).map (fun q : Nat => (q : Int)) = (placesOf q i).map (fun q : Nat => (q : Int)) ++ [(q : Int)] := by
          unfold placesOf
          rw [List.range_succ, List.filter_append]
          simp [hpq]
        rw [this]
        exact intsAre_snoc hj
      · rintro P C yp s₄ hP hPC hx₄ hPo hyp
        rw [hlen] at hyp
        obtain ⟨J₂, hPs⟩ := J₁.gain hx₄ hP hPo
        have J₂' := J₂.perm (List.perm_middle (l₁ := [_, _, _]))
        refine In.storeCell J₂' (.inr hf2) (fun s₅ J₃ => ?_) rfl
        dsimp only
        have cp : s₅.heap.IsCell (L + 3) (some (.ref P)) := J₃.head
        have cP := J₃.tail.head
        have cw : s₅.heap.IsCell (L + 1) (some (.int wd t2)) := J₃.cellAt (by simp)
        refine wpAny_execs_cons (comp_assign J₃ vs.length (fun _ => true) (intsJ (madeV ns wd i)) _ (iter_enum hB J₃.base (.builtin hB J₃.base) (.local (v := .ref l) J₃.ns e1) (hlat J₃) (fun _ => rfl) (fun _ => rfl) (by decide) rfl (fun _ => rfl) R'.handled) (by omega) rfl rfl (by decide)
          (fun C h => ⟨rfl, fun j v e => by simp at e⟩) (fun C i ys h h' hj _ => hj) (fun C i ys s₁ E' hi hx hC hbd hj => tests_nil hx.base) ?_ ?_)
        · rintro C₂ q ys s₆ E₆ hq _ hx₆ hC₂ hlt ⟨v, t', m', hvq, hns, hm1, hm2⟩ hj
          obtain ⟨nq, tn, hnq, rfl⟩ := intsAre_get hi q v hvq
          have hgd : ns.getD q 0 = nq := by simp [List.getD, hnq]
          have hPl : s₆.heap.IsList P yp.toArray := aL_list (hx₆.aL cP)
          refine wpAny_IfExp ((PTest.inInts (k := (q : Int)) (.localI hns hm1) (.cell (c := L + 3) rfl (hx₆.cell cp)) hPl hyp).use fun tk => ?_)
          rw [mem_places (by omega)]
          cases hbt : bitOn i q with
          | true =>
            simp only [if_true]
            refine call_f2 hB rfl (.global hB hx₆.base) fun tk1 => ?_
            refine (PEv.local (v := .int nq tn) hns hm2) _ _ _ ?_
            rintro _ tk2 rfl
            refine (PEv.cell (c := L + 1) (v := .int wd t2) rfl (hx₆.cell cw)) _ _ _ ?_
            rintro _ tk3 rfl
            refine ⟨hx₆.base, wpAny_mono (other_ok (s := { s₆ with toks := tk3 }) hB R' hx₆.base hw) (fun v s₇ h => ?_) fun _ _ e => e⟩
            obtain ⟨⟨t7, rfl⟩, hx₇⟩ := h
            refine ⟨Ext.trans ((Ext.refl hx₆.base).tok tk3) hx₇, intsJ_snoc hj ⟨t7, ?_⟩⟩
            unfold madeV
            rw [hbt, if_pos rfl, hgd]; rfl
          | false =>
            simp only [Bool.false_eq_true, if_false]
            refine (PEv.local (v := .int nq tn) hns hm2) _ _ _ ?_
            rintro _ tk2 rfl
            refine ⟨(Ext.refl hx₆.base).tok tk2, intsJ_snoc hj ⟨tn, ?_⟩⟩
            unfold madeV
            rw [hbt, if_neg Bool.false_ne_true, hgd]
        · rintro M C₂ ym s₆ hMs hM hMC hab' J₄ ⟨hml, hym⟩
          dsimp only
          have hcl := places_le ns.length i
          have hypl : yp.length = (placesOf ns.length i).length := by have := hyp.length; simpa using this
          obtain ⟨a, ha⟩ : ∃ a, subs[(placesOf ns.length i).length]? = some a := ⟨subs[(placesOf ns.length i).length]'(by omega), by simp⟩
          have cp₄ : s₆.heap.IsCell (L + 3) (some (.ref P)) := J₄.cellAt (by simp)
          have cP₄ : ∃ o, s₆.heap.get? P = some o ∧ aL yp o := J₄.own (P, aL yp) (by simp)
          have cD₄ : ∃ o, s₆.heap.get? D = some o ∧ aL (subs.map Value.ref) o := J₄.own (D, _) (by simp)
          have hm4 : (fun z => if z = "made" then some (Value.ref M) else m z) "choices" = some (.ref D) := e2
          refine wpAny_execs_cons (wpAny_Expr ?_)
          refine wpAny_Call_method (T := "list") (id := "list.append") rfl rfl rfl F.plainAttrs_list PySem.slot_list_append F.type_list_append ?_
          refine (PEv.item (D := D) (vs := subs.map Value.ref) (i := ((yp.length : Nat) : Int)) (v := .ref a) (.local J₄.ns hm4) (.lenL (.builtin hB J₄.base) (.cell (c := L + 3) (v := .ref P) rfl cp₄) (aL_list cP₄) (by omega)) (aL_list cD₄) (by omega) (by rw [Int.toNat_natCast, hypl]; simp [ha]) (by omega)).use ?_
          rintro _ tk rfl
          have hmem : (a, aL (rowOf ns.length (placesOf ns.length i).length recs)) ∈ subLed ns.length subs recs ++ recLed recs := List.mem_append_left _ (subLed_mem ha)
          have ca : ∃ o, s₆.heap.get? a = some o ∧ aL (rowOf ns.length (placesOf ns.length i).length recs) o := J₄.own _ (List.mem_append_right [_, _, _, _, _, _, _] hmem)
          obtain ⟨oa, hoa, na, rfl⟩ := ca
          refine ⟨⟨_, hoa, rfl⟩, fun a' e => (by cases e; exact ⟨_, hoa, rfl⟩), ?_⟩
          refine callWith_builtin rfl (evalArgs_plain (spliced_cons ?_))
          refine PyProof.Rows.Tuple_ (k := 0) (spliced_cons ?_)
          refine call_b1 (id := "sum") (.builtin hB (s := { s₆ with toks := tk }) J₄.base) fun tk1 => ?_
          refine (PEv.local (s := { s₆ with toks := tk1 }) (x := "made") (v := .ref M) J₄.ns rfl) _ _ _ ?_
          rintro _ tk2 rfl
          refine sum_ints (s := { s₆ with toks := tk2 }) (b₀ := b₀) (ys := ym) (val := madeV ns wd i) J₄.base (aL_list J₄.head) hym R'.handled fun s₇ t7 hx₇ => ?_
          have J₅ := (J₄.tok tk2).ext hx₇
          have cp₅ : s₇.heap.IsCell (L + 3) (some (.ref P)) := J₅.cellAt (by simp)
          refine spliced_cons ((PEv.cell (c := L + 3) (v := .ref P) rfl cp₅).use ?_)
          rintro _ tk3 rfl
          refine spliced_cons ((PEv.local (s := { s₇ with toks := tk3 }) (x := "made") (v := .ref M) J₅.ns rfl).use ?_)
          rintro _ tk4 rfl
          refine spliced_nil (wpAny_newObj_type ?_)
          refine spliced_nil ?_
          have hsum : preSum (madeV ns wd i) ym.length = sumOf ns wd i := by unfold sumOf; rw [hml, hlen]
          let r : Rec := ⟨s₇.heap.objs.size, P, M, yp, ym, sumOf ns wd i, t7⟩
          obtain ⟨J₆, hT⟩ := (J₅.tok tk4).push { cls := .type "tuple", data := .seq [Value.int (preSum (madeV ns wd i) ym.length) t7, .ref P, .ref M].toArray } (aTup r) rfl ⟨0, by rw [hsum]⟩
          subst hrl
          refine In.appendSub (F := [_, _, _, _, _, _, _, _]) (B := recLed recs) (r := r) (I := J₆) ha (hsubs a (List.mem_of_getElem? ha)) (by omega) ?_
          · intro s₈ J₇
            dsimp only
            refine wpAny_execs_nil ⟨rfl, fun z => if z = "made" then some (.ref M) else m z, _, ⟨some (.int (recs.length : Int) t), some (.ref P), recs ++ [r], by simp, ?_, rfl, e1, e2⟩, J₇.perm ?_⟩
            · intro j r' hj
              rcases Nat.lt_trichotomy j recs.length with h | h | h
              · exact hg j r' (by rwa [List.getElem?_append_left h] at hj)
              · subst h
                simp at hj
                subst hj
                exact ⟨hyp, by unfold madeOf; rw [← hlen]; exact intsAre_range hml hym, rfl⟩
              · have : (recs ++ [r])[j]? = none := List.getElem?_eq_none (by rw [List.length_append, List.length_singleton]; omega)
                rw [this] at hj; cases hj
            · have hrec : recLed (recs ++ [r]) = recLed recs ++ [(r.T, aTup r), (r.P, aL r.yp), (r.M, aL r.ym)] := by
                unfold recLed; rw [List.flatMap_append]; simp
              rw [hrec]
              refine ((perm8 _ _ _ _ _ _ _ _).append_right _).trans ?_
              refine (List.Perm.refl [_, _, _, _, _]).append ?_
              exact permTail [_, _, _] _ _
    · rintro m led s' ⟨vm, vp, recs, hrl, hg, rfl, e1, e2⟩ J
      dsimp only
      refine wpAny_execs_cons (wpAny_Return_some ((PEv.local (v := .ref D) J.ns e2).use ?_))
      rintro _ tk rfl
      refine ⟨(J.exit hLn).tok tk, D, rfl, hDs, ⟨subs, recs, hsl, by rw [hrl, hN], J.tail.tail.head, fun c a hc => ?_, fun j r hj => ⟨hg j r hj, ?_, ?_, ?_⟩⟩⟩
      · exact J.own _ (.tail _ (.tail _ (.tail _ (.tail _ (List.mem_append_left _ (subLed_mem hc))))))
      all_goals
        refine J.own (_, _) (.tail _ (.tail _ (.tail _ (.tail _ (List.mem_append_right _ ?_)))))
        refine List.mem_flatMap.mpr ⟨r, List.mem_of_getElem? hj, ?_⟩
        simp
end Mine
end
section
open PySem PySem.W PyProof.Rows PySem.Calls
open Sem (wp)
set_option maxRecDepth 100000
set_option maxHeartbeats 4000000
set_option linter.unusedVariables false
namespace Mine
namespace BA2
theorem no_bytes : typeLookup (.type "bytearray") "__bytes__" = pure none := by rw [typeLookup_type, builtinLookup_eq_fast]; kernel_rfl
theorem noIndex : typeLookup (.type "bytearray") "__index__" = pure none := by rw [typeLookup_type, builtinLookup_eq_fast]; kernel_rfl
theorem look_buffer : typeLookup (.type "bytearray") "__buffer__" = pure (some (.builtin "bytearray.__buffer__")) := by rw [typeLookup_type, builtinLookup_eq_fast]; kernel_rfl
theorem ends : "bytearray.__buffer__".endsWith ("." ++ "__buffer__") = true := by decide +kernel
set_option linter.deprecated false in
theorem drop : "bytearray.__buffer__".dropRight ("__buffer__".length + 1) = "bytearray" := by decide +kernel
end BA2
section
variable {prog : Program} {w : World} {A : Around} {E : Value → Shared → Prop} {s : Shared}
theorem ba_own {a : Addr} {Q : Bool → Shared → Prop} (hT : s.TypeIs (.ref a) "bytearray") (h : Q true s) : wpAny (model prog w) A (Builtin.Bytes.slotIsOwn (.ref a) "__buffer__") Q E s := by
  unfold Builtin.Bytes.slotIsOwn
  refine wpAny_bind (wpAny_specialOf hT BA2.look_buffer ?_)
  dsimp only
  refine bm_if_false (by rw [BA2.ends]; rfl) ?_
  rw [BA2.drop]
  exact wpAny_isInstance hT BA.sub h
theorem ba_buffer {a : Addr} {b : Array UInt8} {id : String} {Q : Option (Array UInt8) → Shared → Prop} (ha : s.heap.get? a = some { cls := .type "bytearray", data := .bytearray b }) (h : Q (some b) s) : wpAny (model prog w) A (Builtin.Bytes.buffer? id (.ref a) true) Q E s := by
  have hT : s.TypeIs (.ref a) "bytearray" := ⟨_, ha, rfl⟩
  unfold Builtin.Bytes.buffer?
  refine wpAny_bind (wpAny_specialOf hT BA2.look_buffer ?_)
  dsimp only
  refine wpAny_bind (ba_own hT ?_)
  refine bm_if_false rfl ?_
  refine wpAny_bind (wpAny_specialOf hT BA2.look_buffer ?_)
  refine wpAny_bind (ba_release hT ?_)
  refine bm_if_false rfl ?_
  exact wpAny_bind (payload_ba ha (wpAny_pure h))
theorem bytes_ba_new {a : Addr} {b : Array UInt8} {Q : Value → Shared → Prop} (ha : s.heap.get? a = some { cls := .type "bytearray", data := .bytearray b }) (hz : b.size < 1000)
    (hQ : ∀ t k, Q (.bytes b t) { s with toks := k }) :
    codeAny (model prog w) A (.call (.builtin "bytes.__new__") ⟨[.type "bytes", .ref a], []⟩) (wants Q E) s := by
  refine codeAny_of_tree ?_
  show wpAny _ A.in1 (do checkBuiltinCall "bytes.__new__" ⟨[.type "bytes", .ref a], []⟩; again (.builtin "bytes.__new__" ⟨[.type "bytes", .ref a], []⟩)) _ _ s
  refine wpAny_bind (wpAny_of_eq (F.bm_newCall _) (wpAny_pure ⟨plainId_quiet F.bm_plain _, codeAny_builtin F.bm_entry ?_⟩))
  rw [Around.under_plainId F.bm_plain _]
  have hT : s.TypeIs (.ref a) "bytearray" := ⟨_, ha, rfl⟩
  unfold Builtin.«bytes.__new__»
  refine wpAny_bind (wpAny_of_eq (a := true) rfl ?_)
  refine bm_if_false rfl ?_
  refine wpAny_bind (wpAny_of_eq F.bm_sub ?_)
  refine bm_if_false rfl ?_
  refine wpAny_bind (wpAny_of_eq (F.bm_bind _) ?_)
  refine wpAny_bind (wpAny_of_eq (a := ()) rfl ?_)
  refine wpAny_bind (wpAny_of_eq (a := ()) rfl ?_)
  refine bm_if_false rfl ?_
  refine wpAny_bind (wpAny_specialOf hT BA2.no_bytes ?_)
  refine wpAny_bind (wpAny_bind ?_)
  show wpAny _ _ (load a >>= _) _ _ _
  refine wpAny_bind (wpAny_load ha ?_)
  refine wpAny_pure (wpAny_pure ?_)
  refine bm_if_false rfl ?_
  refine wpAny_bind (wpAny_specialOf hT BA2.noIndex ?_)
  refine bm_if_true rfl ?_
  first
    | show wpAny _ _ (Builtin.Bytes.buffer? "bytes.__new__" (.ref a) true >>= _) _ _ _
    | (refine wpAny_bind ?_; show wpAny _ _ (Builtin.Bytes.buffer? "bytes.__new__" (.ref a) true >>= _) _ _ _)
  refine wpAny_bind (ba_buffer ha ?_)
  refine wpAny_bind (wpAny_rule ?_)
  refine wpAny_bind (wpAny_mkBytes ?_ (Nat.le_trans (Nat.le_of_lt hz) (show (1000 : Nat) ≤ sizeLine by decide)))
  refine bm_if_true (by decide) ?_
  first
    | exact wpAny_pure (hQ _ _)
    | exact wpAny_bind (wpAny_pure (wpAny_pure (hQ _ _)))
theorem call_bytes_ba {a : Addr} {b : Array UInt8} {Q : Value → Shared → Prop} (ha : s.heap.get? a = some { cls := .type "bytearray", data := .bytearray b }) (hz : b.size < 1000)
    (hQ : ∀ t k, Q (.bytes b t) { s with toks := k }) : wpAny (model prog w) A (call (.type "bytes") [.ref a]) Q E s := by
  refine callType_codes (Q₁ := fun obj s₁ => s₁.TypeIs obj "bytes" ∧ Q obj s₁) F.bm_called (F.bm_typeCall _) F.entry_object_init
    (bytes_ba_new ha hz fun t k => ⟨PySem.W.typeIs_bytes _ _ _, hQ t k⟩) fun obj s₁ h₁ => ?_
  exact ⟨h₁.1, F.args_object_init_2 obj _, object_init_meets F.bm_called.init.lookup F.bm_called.made (by decide) prog w A.in1 _ s₁ ⟨h₁.1, rfl, h₁.2⟩⟩
end
end Mine
end
section
open PySem PySem.W PyProof.Rows PySem.Calls
open Sem (wp)
set_option maxRecDepth 100000
set_option maxHeartbeats 4000000
set_option linter.unusedVariables false
namespace Mine
def SwInv (x : List UInt8) (k wd i j : Nat) (b : List UInt8) : Prop :=
  b.length = k * wd ∧ ∀ a c, a < k → c < wd → (a < i ∨ (a = i ∧ c < j)) → b[a * wd + (wd - 1 - c)]? = some (x.getD (a * wd + c) 0)
/-- a text with each word turned -/
def swapB (x : List UInt8) (wd : Nat) : List UInt8 := (List.range x.length).map fun q => x.getD (q / wd * wd + (wd - 1 - q % wd)) 0
theorem at_word {a c k wd : Nat} (ha : a < k) (hc : c < wd) : a * wd + c < k * wd := by
  have : (a + 1) * wd ≤ k * wd := Nat.mul_le_mul_right _ ha
  rw [Nat.succ_mul] at this; omega
theorem word_inj {a a' c c' wd : Nat} (hc : c < wd) (hc' : c' < wd) (h : a * wd + c = a' * wd + c') : a = a' ∧ c = c' := by
  have e1 : (a * wd + c) / wd = a := by rw [Nat.mul_comm, Nat.mul_add_div (by omega)]; simp [Nat.div_eq_of_lt hc]
  have e2 : (a' * wd + c') / wd = a' := by rw [Nat.mul_comm, Nat.mul_add_div (by omega)]; simp [Nat.div_eq_of_lt hc']
  have : a = a' := by rw [← e1, h, e2]
  subst this
  exact ⟨rfl, by omega⟩
theorem SwInv.step {x : List UInt8} {k wd i j : Nat} {b : List UInt8} (h : SwInv x k wd i j b) (hi : i < k) (hj : j < wd) : SwInv x k wd i (j + 1) (b.set (i * wd + (wd - 1 - j)) (x.getD (i * wd + j) 0)) := by
  obtain ⟨hl, hb⟩ := h
  refine ⟨by simp [hl], fun a c ha hc hac => ?_⟩
  by_cases e : i * wd + (wd - 1 - j) = a * wd + (wd - 1 - c)
  · obtain ⟨e1, e2⟩ := word_inj (show wd - 1 - j < wd by omega) (show wd - 1 - c < wd by omega) e
    subst e1
    have : j = c := by omega
    subst this
    rw [List.getElem?_set_self (by rw [hl]; exact at_word hi (by omega))]
  · rw [List.getElem?_set_ne e]
    refine hb a c ha hc ?_
    rcases hac with h | ⟨h1, h2⟩
    · exact .inl h
    · refine .inr ⟨h1, ?_⟩
      subst h1
      have : c ≠ j := fun q => e (by rw [q])
      omega
theorem SwInv.next {x : List UInt8} {k wd i : Nat} {b : List UInt8} (h : SwInv x k wd i wd b) : SwInv x k wd (i + 1) 0 b := by
  refine ⟨h.1, fun a c ha hc hac => h.2 a c ha hc ?_⟩
  rcases hac with h | ⟨_, h2⟩
  · rcases Nat.lt_or_ge a i with h' | h'
    · exact .inl h'
    · exact .inr ⟨by omega, hc⟩
  · omega
theorem SwInv.done {x : List UInt8} {k wd : Nat} {b : List UInt8} (hw : 0 < wd) (hx : x.length = k * wd) (h : SwInv x k wd k 0 b) : b = swapB x wd := by
  refine List.ext_getElem? fun q => ?_
  by_cases hq : q < k * wd
  · have e1 : q / wd < k := Nat.div_lt_of_lt_mul (by rw [Nat.mul_comm]; exact hq)
    have e2 : q % wd < wd := Nat.mod_lt _ hw
    have := h.2 (q / wd) (wd - 1 - q % wd) e1 (by omega) (.inl e1)
    rw [show wd - 1 - (wd - 1 - q % wd) = q % wd by omega, show q / wd * wd + q % wd = q by rw [Nat.mul_comm]; exact Nat.div_add_mod q wd] at this
    rw [this]
    unfold swapB
    simp [hx, hq]
  · rw [List.getElem?_eq_none (by rw [h.1]; omega), List.getElem?_eq_none (by simp [swapB]; omega)]

theorem swap_ok {w : World} {A : Around} {E : Value → Shared → Prop} {s : Shared} {b₀ : Heap} (hB : Bs w b₀) (R : Rm 3 A) (hb : Kept b₀ s) {x : List UInt8} {k wd : Nat} {t1 t2 : Tok} (hw0 : 0 < wd) (hw : wd ≤ 4) (hk : k ≤ 5) (hx : x.length = k * wd) :
    wpC (model PG w) A (call (.ref 77) [.bytes x.toArray t1, .int wd t2]) (fun v s' => Ext b₀ [] s s' ∧ ∃ t, v = .bytes (swapB x wd).toArray t) E s := by
  have hkw : k * wd ≤ 20 := Nat.le_trans (Nat.mul_le_mul hk hw) (by decide)
  refine callC_at hB R hb rfl rfl rfl rfl (fun E' s₁ I => ?_) rfl rfl rfl
  have R' : Rm 2 (A.deeper (callEnv (dataAt w.params 77) s.heap.objs.size 77)) := R.deeper _
  have hLn : s.heap.get? s.heap.objs.size = none := none_of_size (Nat.le_refl _)
  generalize hL : s.heap.objs.size = L at *
  refine execsC_cons (AssignC_Name (CallC_Name ((PEv.builtin (v := .type "bytearray") hB I.base).use ?_)))
  rintro _ tk rfl
  have I₂ := I.tok tk
  refine callWithC_type rfl (evalArgs_plain (spliced_cons ((PEv.lenB (b := x) (t := t1) (.builtin hB I₂.base) (.local I₂.ns rfl) (by omega)).use ?_)))
  rintro _ tk2 ⟨t3, rfl⟩
  refine spliced_nil ?_
  have I₃ := I₂.tok tk2
  refine call_ba (by omega) fun h' hh' hs' => ?_
  obtain ⟨I₄, hf4⟩ := I₃.push { cls := .type "bytearray", data := .bytearray #[] } (aBA []) rfl rfl
  have I₅ := I₄.change (tk := tk2) (P' := aBA (List.replicate x.length 0)) (.inr hf4) hs' ⟨_, hh', by simp⟩
  generalize hBa : ({ s₁ with toks := tk2 } : Shared).heap.objs.size = a at *
  have I₅' : In b₀ s [] L _ [(a, aBA (List.replicate x.length 0))] { s₁ with heap := h', toks := tk2 } := I₅
  refine I₅'.store (env := callEnv (dataAt w.params 77) L 77) (x := "swapped_data") (v := .ref a) (fun s₂ I₆ => ?_)
  dsimp only
  refine wpC_any ?_
  refine wpAny_execs_cons (wpAny_For ?_)
  refine call_t3 (T := "range") (.builtin hB I₆.base) fun tk3 => ?_
  have I₇ := I₆.tok tk3
  refine PEv.const _ _ _ ?_
  rintro _ tk4 ⟨t4, rfl⟩
  refine (PEv.lenB (b := x) (t := t1) (.builtin hB I₇.base) (.local I₇.ns rfl) (by omega)) _ _ _ ?_
  rintro _ tk5 ⟨t5, rfl⟩
  refine (PEv.localI (x := "width") (i := (wd : Int)) (t := t2) I₇.ns rfl) _ _ _ ?_
  rintro _ tk6 ⟨t6, rfl⟩
  rw [hx]
  refine call_range_3 (by omega) ?_ (Or.inl (PyProof.noPylong_small (by omega)))
  obtain ⟨I₈, hr8⟩ := (I₇.tok tk6).push { cls := .type "range", data := .fields #[.int 0 t4, .int ((k * wd : Nat) : Int) t5, .int (wd : Int) t6] } (fun _ => True) rfl trivial
  have I₉ := (I₈.tok tk6).tail
  refine wpAny_pyIter_range (IsRange.new _ _ _ _ _ _ _) (small_up (by omega) (by omega) (by omega) (by omega) (by omega)) ?_
  rw [range_size_mul hw0]
  obtain ⟨I₁₀, hr10⟩ := I₉.push { cls := .type "range_iterator", data := .fields #[rawInt 0, rawInt (k : Int), rawInt (wd : Int)] } (aRI 0 (k : Int) (wd : Int)) rfl rfl
  refine for_rng (fun i m led => ∃ b, led = [(a, aBA b)] ∧ SwInv x k wd i 0 b ∧ m "data" = some (.bytes x.toArray t1) ∧ m "width" = some (.int wd t2) ∧ m "swapped_data" = some (.ref a)) R'.handled I₁₀ hr10
    ⟨List.replicate x.length 0, rfl, ⟨by simp [hx], fun a c _ _ h => by omega⟩, rfl, rfl, rfl⟩ ?_ ?_
  · rintro i t m led s' E'' hi ⟨b, rfl, hsw, e1, e2, e3⟩ J
    refine wpAny_assign_Name (J.store fun s'' J₁ => ?_)
    refine wpAny_execs_cons (wpAny_For ?_)
    refine call_t1 (T := "range") (.builtin hB J₁.base) fun tk7 => ?_
    have J₂ := J₁.tok tk7
    refine (PEv.localI (x := "width") (i := (wd : Int)) (t := t2) J₂.ns e2) _ _ _ ?_
    rintro _ tk8 ⟨t8, rfl⟩
    refine call_range_1 ?_
    obtain ⟨J₃, hr3⟩ := (J₂.tok tk8).push { cls := .type "range", data := .fields #[.int 0 tk8, .int (wd : Int) t8, .int 1 (tk8 + 1)] } (fun _ => True) rfl trivial
    have J₄ := (J₃.tok (tk8 + 1 + 1)).tail
    refine wpAny_pyIter_range (IsRange.new _ _ _ _ _ _ _) (small_one (by omega) (by omega) (by omega) (by omega)) ?_
    rw [rangeSize_up]
    obtain ⟨J₅, hr5⟩ := J₄.push { cls := .type "range_iterator", data := .fields #[rawInt 0, rawInt (wd : Int), rawInt 1] } (aRI 0 (wd : Int) 1) rfl rfl
    refine for_rng (fun j m led => ∃ b, led = [_, (a, aBA b)] ∧ SwInv x k wd i j b ∧ m "data" = some (.bytes x.toArray t1) ∧ m "width" = some (.int wd t2) ∧ m "swapped_data" = some (.ref a) ∧ m "i" = some (.int (0 + (i : Int) * (wd : Int)) t)) R'.handled J₅ hr5
      ⟨b, rfl, hsw, e1, e2, e3, rfl⟩ ?_ ?_
    · rintro j tj m₂ led₂ s₃ E₃ hj ⟨b₂, rfl, hsw₂, f1, f2, f3, f4⟩ K
      refine wpAny_assign_Name (K.store fun s₄ K₁ => ?_)
      have hxi : (0 : Int) + (i : Int) * (wd : Int) = ((i * wd : Nat) : Int) := by push_cast; omega
      have hlt := at_word hi hj
      refine wpAny_execs_cons (wpAny_Assign_Subscript ((PEv.itemB (b := x) (t := t1) (.local (x := "data") K₁.ns f1) (.add (.localI (x := "i") K₁.ns f4) (.localI (x := "j") K₁.ns rfl)) (by rw [hxi]; omega) (by rw [hxi, hx]; omega) (by omega)).use ?_))
      rintro _ tk9 ⟨t9, rfl⟩
      refine (PEv.local (x := "swapped_data") (v := .ref a) K₁.ns f3) _ _ _ ?_
      rintro _ tk10 rfl
      refine (PEv.sub (.sub (.add (.localI (x := "i") K₁.ns f4) (.localI (x := "width") K₁.ns f2)) .const) (.localI (x := "j") K₁.ns rfl)) _ _ _ ?_
      rintro _ tk11 ⟨t11, rfl⟩
      have hq : (0 : Int) + (i : Int) * (wd : Int) + (wd : Int) - 1 - (0 + (j : Int) * 1) = ((i * wd + (wd - 1 - j) : Nat) : Int) := by rw [hxi]; omega
      have hp : ((0 : Int) + (i : Int) * (wd : Int) + (0 + (j : Int) * 1)).toNat = i * wd + j := by rw [hxi]; omega
      rw [hq, hp]
      have K₂ : In b₀ s [] L _ ((a, aBA b₂) :: _) { s₄ with toks := tk11 } := (K₁.tok tk11).perm (List.perm_middle (l₁ := [_, _]))
      obtain ⟨o, ho, rfl⟩ := K₂.head
      refine ba_setItem ho (by rw [List.size_toArray, hsw₂.1]; exact at_word hi (by omega)) (x.getD (i * wd + j) 0).toNat_lt (by rw [List.size_toArray, hsw₂.1]; omega) fun h₅ hh₅ hs₅ => ?_
      have K₃ := K₂.change (tk := tk11) (P' := aBA (b₂.set (i * wd + (wd - 1 - j)) (x.getD (i * wd + j) 0))) (.inr hf4) hs₅ ⟨_, hh₅, by simp⟩
      dsimp only
      refine wpAny_execs_nil ⟨rfl, fun y => if y = "j" then some (.int (0 + (j : Int) * 1) tj) else m₂ y, _, ⟨b₂.set (i * wd + (wd - 1 - j)) (x.getD (i * wd + j) 0), rfl, hsw₂.step hi hj, f1, f2, f3, f4⟩, K₃.perm (List.perm_middle (l₁ := [_, _])).symm⟩
    · rintro m₂ led₂ s₃ ⟨b₂, rfl, hsw₂, f1, f2, f3, f4⟩ K
      dsimp only
      exact wpAny_execs_nil ⟨rfl, m₂, _, ⟨b₂, rfl, hsw₂.next, f1, f2, f3⟩, K⟩
  · rintro m led s' ⟨b, rfl, hsw, e1, e2, e3⟩ J
    dsimp only
    refine wpAny_execs_cons (wpAny_Return_some ?_)
    refine call_t1 (T := "bytes") (.builtin hB J.base) fun tk7 => ?_
    refine (PEv.local (s := { s' with toks := tk7 }) (x := "swapped_data") (v := .ref a) J.ns e3) _ _ _ ?_
    rintro _ tk8 rfl
    obtain ⟨o, ho, rfl⟩ := J.head
    refine call_bytes_ba ho (by rw [List.size_toArray, hsw.1]; omega) fun t k' => ?_
    exact ⟨(J.exit hLn).tok k', t, by rw [hsw.done hw0 hx]⟩
end Mine
end
section
open PySem PySem.W PyProof.Rows PySem.Calls
open Sem (wp)
set_option maxRecDepth 100000
set_option maxHeartbeats 4000000
set_option linter.unusedVariables false
namespace Mine
theorem while_inC {w : World} {prog : Program} {A : Around} {E : Value → Shared → Prop} {s : Shared} {env : Env} {test : PySem.Expr} {body : List Stmt} {pos : Pos} {Q : Flow → Shared → Prop} (J : Nat → Shared → Prop) (n : Nat) (h0 : J n s)
    (turn : ∀ n s E', J n s → wpAny (model prog w) A (isTrue test env (eval test env)) (fun b s₂ => if b = true then wpC (model prog w) A (execs body env) (fun f s₃ => match f with
        | .next | .cont => ∃ k, k < n ∧ J k s₃
        | .brk => Q .next s₃
        | .ret v => Q (.ret v) s₃) E' s₂ else Q .next s₂) E' s) :
    wpC (model prog w) A (exec (.While test body [] pos) env) Q E s := by
  rw [exec_While]
  refine wpC_standAt ?_
  unfold runOwn
  refine wpC_onRaise (wpC_run rfl ?_)
  refine codeC_loop rfl rfl J (fun n s hJ => ?_) n h0
  show wpC _ A ((whileTurn test body [] env).onRaise (fun x => do noteFrame x env; theTreesLotGoes x)) _ _ s
  refine wpC_onRaise ?_
  simp only [whileTurn]
  refine wpC_first (wpAny_mono (turn n s _ hJ) (fun b s₂ h₂ => ?_) fun _ _ x => x)
  cases b with
  | false =>
    simp only [Bool.false_eq_true, if_false] at h₂ ⊢
    exact wpC_any (wpAny_bind (wpAny_execs_nil (wpAny_pure h₂)))
  | true =>
    simp only [if_true] at h₂ ⊢
    refine wpC_bind (wpC_mono h₂ (fun f s₃ h₃ => ?_) fun _ _ x => x)
    cases f with
    | next => exact wpC_pure ⟨rfl, h₃⟩
    | cont => exact wpC_pure ⟨rfl, h₃⟩
    | brk => exact wpC_pure h₃
    | ret v => exact wpC_pure h₃
def PartEv (w : World) (A : Around) (env : Env) (s : Shared) (e : Option PySem.Expr) (lo : Option Int) : Prop :=
  ∀ (Q : Value → Shared → Prop) (E : Value → Shared → Prop) (tk : Nat), (∀ v tk', IsPart v lo → Q v { s with toks := tk' }) → wpAny (model PG w) A (evalPart e env) Q E { s with toks := tk }
theorem PartEv.none {w : World} {A : Around} {env : Env} {s : Shared} : PartEv w A env s Option.none Option.none := fun Q E tk hQ => wpAny_pure (hQ _ _ .none)
theorem PartEv.int {w : World} {A : Around} {env : Env} {s : Shared} {e : PySem.Expr} {i : Int} (h : PInt PG w A env s e i) : PartEv w A env s (some e) (some i) := fun Q E tk hQ => h Q E tk (by
  rintro _ tk' ⟨t, rfl⟩
  exact hQ _ _ (.int i t))
theorem EEv.sliceB {w : World} {A : Around} {env : Env} {s : Shared} {b₀ : Heap} {value : PySem.Expr} {lower upper : Option PySem.Expr} {p pos : Pos} {x : List UInt8} {t : Tok} {lo hi : Option Int} (hb : Kept b₀ s) (hv : PVal PG w A env s value (.bytes x.toArray t)) (hl : PartEv w A env s lower lo) (hu : PartEv w A env s upper hi) (hz : x.length < 1000)
    (hs : ∀ a, subscripted (.Slice lower upper Option.none p) false (.bytes x.toArray t) (.ref a) = operate [.ref a, .bytes x.toArray t] (getItem (.bytes x.toArray t) (.ref a)) := by intro _; with_unfolding_all rfl)
    (ht : ∀ r, letTemporaryGo value (.bytes x.toArray t) r = pure () := by intro _; with_unfolding_all rfl) :
    EEv PG w A env b₀ s (.Subscript value (.Slice lower upper Option.none p) pos) (fun v s' => ∃ t', v = .bytes ((x.drop (lo.elim 0 (clipAt x.length))).take (hi.elim x.length (clipAt x.length) - lo.elim 0 (clipAt x.length))).toArray t') := by
  intro Q E hQ
  refine PyProof.Rows.Subscript_ (hv.use ?_)
  rintro _ tk1 rfl
  refine wpAny_Slice (hl _ _ _ fun l tk2 hpl => hu _ _ _ fun u tk3 hpu => PartEv.none _ _ _ fun n tk4 hpn => ?_)
  cases hpn
  refine tail_of_ItemOn ⟨"bytes", _, FB.slot_bytes_getitem.lookup, typeIs_bytes _ _ _, getItem_meets (typeIs_bytes _ _ _) (by decide) FB.slot_bytes_getitem FB.entry_bytes_getitem (FB.args_bytes_getitem_2 _ _) (KBc.meets_slice2 x.toArray t _ hpl hpu)
    ⟨Heap.IsSliceOf.new _ _ _ _, ?_, fun t' k => ?_⟩⟩ (hs _) ht
  · exact Nat.le_trans (KBc.size_picked_le _ lo hi) (Nat.le_trans (by rw [List.size_toArray]; omega) (show (1000 : Nat) ≤ sizeLine by decide))
  · have e := KBc.picked_eq x.toArray lo hi
    rw [e]
    exact hQ _ _ (Ext.push hb) ⟨t', by simp⟩
end Mine
end
section
open PySem PySem.W PyProof.Rows PySem.Calls
open Sem (wp)
set_option maxRecDepth 100000
set_option maxHeartbeats 4000000
set_option linter.unusedVariables false
namespace Mine
/-- a text with the word at p turned -/
def turnAt (x : List UInt8) (p wd : Nat) : List UInt8 := x.take (p * wd) ++ swapB ((x.drop (p * wd)).take wd) wd ++ x.drop (p * wd + wd)
def ltG (g : Bool) : (Value × (Int × Int)) → (Value × (Int × Int)) → Bool := match g with
  | true => gtZ
  | false => ltZ
def stepsF (g : Bool) (wd : Nat) : Nat → Zs → List UInt8 → List (List UInt8) × List UInt8
  | 0, _, x => ([], x)
  | n + 1, z, x => match popF (ltG g) z with
    | none => ([], x)
    | some (q, r) => let x' := turnAt x q.2.2.toNat wd
      let y := stepsF g wd n r x'
      (x' :: y.1, y.2)
def gainV (x : List UInt8) (wd j : Nat) : Int := wordV (swapB x wd) wd j - wordV x wd j
def pairLed (x : List UInt8) (wd : Nat) (as : List Addr) : Ledger := as.zipIdx.map fun a => (a.1, isPair (gainV x wd a.2) (a.2 : Int))
def pairZ (x : List UInt8) (wd : Nat) (as : List Addr) : Zs := as.zipIdx.map fun a => (.ref a.1, (gainV x wd a.2, (a.2 : Int)))
theorem pairLed_keys (x : List UInt8) (wd : Nat) (as : List Addr) : (pairLed x wd as).map (·.1) = as := by
  unfold pairLed
  rw [List.map_map]
  exact List.zipIdx_map_fst 0 as
theorem pairZ_all {x : List UInt8} {wd : Nat} {as : List Addr} {b₀ : Heap} {s₀ s : Shared} {W : List Addr} {L : Addr} {m : Str → Option Value} {led : Ledger} (I : In b₀ s₀ W L m led s) (hsub : ∀ p ∈ pairLed x wd as, p ∈ led) : AllPairs s.heap (pairZ x wd as) := by
  intro q hq
  obtain ⟨⟨a, j⟩, hm, rfl⟩ := List.mem_map.mp hq
  obtain ⟨o, ho, hp⟩ := I.own _ (hsub (a, isPair (gainV x wd j) (j : Int)) (List.mem_map.mpr ⟨(a, j), hm, rfl⟩))
  exact ⟨a, o, rfl, ho, hp⟩
theorem callC_f2 {w : World} {A : Around} {E : Value → Shared → Prop} {s : Shared} {b₀ : Heap} {env : Env} {x : Str} {p pos : Pos} {e1 e2 : PySem.Expr} {f : Addr} {Q : Value → Shared → Prop} (hB : Bs w b₀) (hfn : isFnAt (hd.heap_39 w.params) f = true) (hf : PVal PG w A env s (.Name x p) (.ref f))
    (h : ∀ tk, wpAny (model PG w) A (eval e1 env) (fun v s₁ => wpAny (model PG w) A (eval e2 env) (fun v2 s₂ => Kept b₀ s₂ ∧ wpC (model PG w) A (call (.ref f) [v, v2]) Q E s₂) E s₁) E { s with toks := tk })
    (hs : backTo pos (starEach [e1, e2] env) = [(false, eval e1 env), (false, eval e2 env)] := by rfl) : wpC (model PG w) A (eval (.Call (.Name x p) [e1, e2] [] pos) env) Q E s := by
  obtain ⟨o, fd, ho, hd'⟩ := fn_there hB hfn
  refine CallC_Name (hf.use ?_)
  rintro _ tk rfl
  rw [hs]
  exact callWithC_function (first := []) rfl (evalArgs_plain (spliced_cons (wpAny_mono (h tk) (fun v s₁ h₁ => spliced_cons (wpAny_mono h₁ (fun v2 s₂ h₂ => spliced_nil ⟨⟨h₂.1 _ _ ho, hd'⟩, h₂.2⟩) fun _ _ e => e)) fun _ _ e => e)))
theorem pairZ_snoc (x : List UInt8) (wd : Nat) (as : List Addr) (a : Addr) : pairZ x wd (as ++ [a]) = pairZ x wd as ++ [(.ref a, (gainV x wd as.length, (as.length : Int)))] := by
  unfold pairZ
  rw [List.zipIdx_append, List.map_append]; simp
theorem pairLed_snoc (x : List UInt8) (wd : Nat) (as : List Addr) (a : Addr) : pairLed x wd (as ++ [a]) = pairLed x wd as ++ [(a, isPair (gainV x wd as.length) (as.length : Int))] := by
  unfold pairLed
  rw [List.zipIdx_append, List.map_append]; simp
theorem hfF_length {β : Type} (lt : β → β → Bool) : ∀ (n : Nat) (z : List β), (hfF lt n z).length = z.length
  | 0, z => rfl
  | n + 1, z => by
    unfold hfF
    split
    · rw [hfF_length lt n, suF_length]
    · rfl
theorem hfF_mem {β : Type} (lt : β → β → Bool) : ∀ (n : Nat) (z : List β) (q : β), q ∈ hfF lt n z → q ∈ z
  | 0, z, q, h => h
  | n + 1, z, q, h => by
    unfold hfF at h
    split at h
    · rename_i y hy
      rcases suF_mem _ _ _ q (hfF_mem lt n _ q h) with h' | h'
      · exact h'
      · rw [h']; exact List.mem_of_getElem? hy
    · exact h
theorem popF_some {β : Type} (lt : β → β → Bool) {z : List β} (hz : z ≠ []) : ∃ q r, popF lt z = some (q, r) ∧ r.length + 1 = z.length ∧ q ∈ z ∧ ∀ y ∈ r, y ∈ z := by
  obtain ⟨ini, last, rfl⟩ : ∃ ini last, z = ini ++ [last] := ⟨z.dropLast, z.getLast hz, (List.dropLast_concat_getLast hz).symm⟩
  unfold popF
  rw [List.getLast?_concat, List.dropLast_concat]
  cases ini with
  | nil => exact ⟨last, [], rfl, rfl, by simp, fun y h => nomatch h⟩
  | cons a r =>
    refine ⟨a, _, rfl, by rw [suF_length]; simp, by simp, fun y hy => ?_⟩
    rcases suF_mem _ _ _ y hy with h | h
    · rcases List.mem_cons.mp h with rfl | h
      · simp
      · simp [h]
    · rw [h]; simp
theorem in_unpack2 {w : World} {A : Around} {E : Value → Shared → Prop} {s : Shared} {env : Env} {b₀ : Heap} {s₀ : Shared} {W : List Addr} {m : Str → Option Value} {led : Ledger} {x1 x2 : Str} {p1 p2 pos : Pos} {kk : Nat} {v : Value} {q : Int × Int} {Q : Unit → Shared → Prop}
    (I : In b₀ s₀ W env.locals m led s) (hq : PairAt s.heap v q) (hh : A.handled = none) (h : ∀ s' t u, In b₀ s₀ W env.locals (fun y => if y = x2 then some (.int q.2 u) else if y = x1 then some (.int q.1 t) else m y) led s' → Q () s')
    (hk : env.scope.kind = .function := by rfl) (h1 : env.kindOf x1 = some .local := by rfl) (h2 : env.kindOf x2 = some .local := by rfl) : wpAny (model PG w) A (assign (.Tuple [.Name x1 p1, .Name x2 p2] kk pos) env v) Q E s := by
  obtain ⟨a, o, rfl, ho, t, u, n, rfl⟩ := hq
  refine wpAny_assign_Tuple (items := #[.int q.1 t, .int q.2 u]) hh ⟨_, ho, rfl, n, rfl⟩ rfl rfl fun h₃ hx₃ => ?_
  have hn : ∀ b o, s.heap.get? b = some o → b ≠ s.heap.objs.size := fun b o e => Nat.ne_of_lt (Heap.lt_size e)
  have hz : s.heap.get? s.heap.objs.size = none := none_of_size (Nat.le_refl _)
  have I₃ : In b₀ s₀ W env.locals m led { s with heap := h₃ } := by
    refine I.outBut (tk := s.toks) (I := s.heap.objs.size) hx₃ ?_ (Kept.none I.base hz) ?_ ?_
    · cases q' : s₀.heap.get? s.heap.objs.size with
      | none => rfl
      | some o => obtain ⟨o', e⟩ := I.live _ _ q'; rw [hz] at e; cases e
    · exact Nat.ne_of_gt I.ns.lt
    · intro hm
      obtain ⟨p, hp, e⟩ := List.mem_map.mp hm
      obtain ⟨o, ho, _⟩ := I.own p hp
      exact hn _ _ ho e
  show wpAny _ A (do holding [.int q.2 u] (assign (.Name x1 p1) env (.int q.1 t)); do holding [] (assign (.Name x2 p2) env (.int q.2 u)); pure ()) _ _ _
  refine wpAny_bind (wpAny_holding (wpAny_assign_Name (I₃.store (fun s₄ I₄ => ?_) hk h1)))
  exact wpAny_bind (wpAny_holding (wpAny_assign_Name (I₄.store (fun s₅ I₅ => wpAny_pure (h s₅ t u I₅)) hk h2)))
def BytesA (ts : List Value) (dn : List (List UInt8)) : Prop := ts.length = dn.length ∧ ∀ (j : Nat) (v : Value), ts[j]? = some v → ∃ t, v = Value.bytes (dn.getD j []).toArray t
theorem BytesA.snoc {ts : List Value} {dn : List (List UInt8)} {y : List UInt8} {t : Tok} (h : BytesA ts dn) : BytesA (ts ++ [.bytes y.toArray t]) (dn ++ [y]) := by
  obtain ⟨hl, hv⟩ := h
  refine ⟨by simp [hl], fun j v hj => ?_⟩
  rcases Nat.lt_trichotomy j ts.length with h | h | h
  · obtain ⟨t', e⟩ := hv j v (by rwa [List.getElem?_append_left h] at hj)
    refine ⟨t', ?_⟩
    rw [e]
    have : j < dn.length := by omega
    simp [List.getD, List.getElem?_append_left this]
  · subst h
    simp at hj
    subst hj
    exact ⟨t, by rw [hl]; simp⟩
  · have : (ts ++ [Value.bytes y.toArray t])[j]? = none := List.getElem?_eq_none (by rw [List.length_append, List.length_singleton]; omega)
    rw [this] at hj; cases hj
theorem EEv.use {w : World} {A : Around} {env : Env} {b₀ : Heap} {s : Shared} {e : PySem.Expr} {P Q : Value → Shared → Prop} {E : Value → Shared → Prop} (h : EEv PG w A env b₀ s e P) (hQ : ∀ v s', Ext b₀ [] s s' → P v s' → Q v s') : wpAny (model PG w) A (eval e env) Q E s := h Q E hQ
theorem cut1 {x : List UInt8} {a : Nat} (h : a ≤ x.length) : (x.drop (Option.elim (none : Option Int) 0 (clipAt x.length))).take (Option.elim (some (a : Int)) x.length (clipAt x.length) - Option.elim (none : Option Int) 0 (clipAt x.length)) = x.take a := by
  simp only [Option.elim_none, Option.elim_some, clipAt_nat, List.drop_zero, Nat.sub_zero, Nat.min_eq_left h]
theorem cut2 {x : List UInt8} {a b : Nat} (h : a + b ≤ x.length) : (x.drop (Option.elim (some (a : Int)) 0 (clipAt x.length))).take (Option.elim (some ((a : Int) + (b : Int))) x.length (clipAt x.length) - Option.elim (some (a : Int)) 0 (clipAt x.length)) = (x.drop a).take b := by
  rw [show (a : Int) + (b : Int) = ((a + b : Nat) : Int) by push_cast; rfl]
  simp only [Option.elim_some, clipAt_nat, Nat.min_eq_left h, Nat.min_eq_left (show a ≤ x.length by omega)]
  rw [Nat.add_sub_cancel_left]
theorem cut3 {x : List UInt8} {a b : Nat} (h : a + b ≤ x.length) : (x.drop (Option.elim (some ((a : Int) + (b : Int))) 0 (clipAt x.length))).take (Option.elim (none : Option Int) x.length (clipAt x.length) - Option.elim (some ((a : Int) + (b : Int))) 0 (clipAt x.length)) = x.drop (a + b) := by
  rw [show (a : Int) + (b : Int) = ((a + b : Nat) : Int) by push_cast; rfl]
  simp only [Option.elim_some, Option.elim_none, clipAt_nat, Nat.min_eq_left h]
  exact List.take_of_length_le (by rw [List.length_drop]; exact Nat.le_refl _)
/-- what the steps give -/
def stepsRes (g : Bool) (x : List UInt8) (wd : Nat) (as : List Addr) : List (List UInt8) :=
  let y := stepsF g wd as.length (hfF (ltG g) ((pairZ x wd as).length / 2) (pairZ x wd as)) x
  if swapB x wd = y.2 then y.1 else []
/-- pairs being made -/
def pairJ (x : List UInt8) (wd : Nat) : Addr → Nat → List Value → Heap → Prop := fun C i ys h => ∃ as : List Addr, ys = vals (pairZ x wd as) ∧ as.length = i ∧ as.Nodup ∧ (∀ a ∈ as, C < a) ∧ ∀ p ∈ pairLed x wd as, ∃ o, h.get? p.1 = some o ∧ p.2 o
theorem steps_ok {w : World} {A : Around} {E : Value → Shared → Prop} {s : Shared} {b₀ : Heap} (hB : Bs w b₀) (R : Rm 4 A) (hb : Kept b₀ s) {x : List UInt8} {k wd : Nat} {g : Bool} {t1 t2 : Tok} (hw0 : 0 < wd) (hw : wd ≤ 4) (hk : k ≤ 5) (hx : x.length = k * wd) :
    wpC (model PG w) A (call (.ref 97) [.bytes x.toArray t1, .int wd t2, .bool g]) (fun v s' => Ext b₀ [] s s' ∧ ∃ as ys, as.length = k ∧ FreshL s ys v s' ∧ BytesA ys (stepsRes g x wd as)) E s := by
  have hkw : k * wd ≤ 20 := Nat.le_trans (Nat.mul_le_mul hk hw) (by decide)
  refine callC_cells hB R hb rfl rfl rfl rfl (show List.Nodup [("turned" : Str), "numbers"] by decide) (fun E' s₁ I => ?_) rfl rfl rfl
  have R' : Rm 3 (A.deeper (callEnvC (dataAt w.params 97) s.heap.objs.size 97)) := R.deeper _
  have hLn : s.heap.get? s.heap.objs.size = none := none_of_size (Nat.le_refl _)
  have hf1 : s.heap.get? (s.heap.objs.size + 1) = none := none_of_size (Nat.le_add_right _ _)
  have hf2 : s.heap.get? (s.heap.objs.size + 2) = none := none_of_size (Nat.le_add_right _ _)
  have I' : In b₀ s [] s.heap.objs.size (fun y => if y = "greatest" then some (.bool g) else if y = "width" then some (.int wd t2) else if y = "flat" then some (.bytes x.toArray t1) else none) [(s.heap.objs.size + 2, aC none), (s.heap.objs.size + 1, aC none)] s₁ := by
    exact I
  generalize hL : s.heap.objs.size = L at *
  have hsl : (swapB x wd).length = k * wd := by simp [swapB, hx]
  refine execsC_cons (AssignC_Name (callC_f2 hB rfl (.global hB I'.base) fun tk => ?_))
  refine (PEv.local (s := { s₁ with toks := tk }) (x := "flat") (v := .bytes x.toArray t1) I'.ns rfl) _ _ _ ?_
  rintro _ tk1 rfl
  refine (PEv.local (s := { s₁ with toks := tk }) (x := "width") (v := .int wd t2) I'.ns rfl) _ _ _ ?_
  rintro _ tk2 rfl
  refine ⟨I'.base, wpC_mono (swap_ok (s := { s₁ with toks := tk2 }) hB R' I'.base hw0 hw hk hx) (fun v s₂ h₂ => ?_) fun _ _ e => e⟩
  obtain ⟨hx₂, tw, rfl⟩ := h₂
  refine ((I'.tok tk2).ext hx₂).store (env := callEnvC (dataAt w.params 97) L 97) (x := "whole") (v := .bytes (swapB x wd).toArray tw) (fun s₃ I₃ => ?_)
  dsimp only
  refine execsC_any (wpAny_Assign_Name (call_f2 hB rfl (.global hB I₃.base) fun tk => ?_))
  refine (PEv.local (s := { s₃ with toks := tk }) (x := "flat") (v := .bytes x.toArray t1) I₃.ns rfl) _ _ _ ?_
  rintro _ tk3 rfl
  refine (PEv.local (s := { s₃ with toks := tk }) (x := "width") (v := .int wd t2) I₃.ns rfl) _ _ _ ?_
  rintro _ tk4 rfl
  refine ⟨I₃.base, wpAny_mono (read_ok (s := { s₃ with toks := tk4 }) hB R' I₃.base hw0 hw hk hx) (fun v s₄ h₄ => ?_) fun _ _ e => e⟩
  obtain ⟨hx₄, yn, ⟨Nn, rfl, hNn, hNo⟩, hnl, hnv⟩ := h₄
  obtain ⟨I₄, hNs⟩ := (I₃.tok tk4).gain hx₄ hNn hNo
  refine In.storeCell (I₄.perm (List.perm_middle (l₁ := [_, _]))) (.inr hf1) (fun s₅ I₅ => ?_) rfl
  dsimp only
  refine execsC_any (wpAny_Assign_Name (call_f2 hB rfl (.global hB I₅.base) fun tk => ?_))
  refine (PEv.local (s := { s₅ with toks := tk }) (x := "whole") (v := .bytes (swapB x wd).toArray tw) I₅.ns rfl) _ _ _ ?_
  rintro _ tk5 rfl
  refine (PEv.local (s := { s₅ with toks := tk }) (x := "width") (v := .int wd t2) I₅.ns rfl) _ _ _ ?_
  rintro _ tk6 rfl
  refine ⟨I₅.base, wpAny_mono (read_ok (s := { s₅ with toks := tk6 }) hB R' I₅.base hw0 hw hk hsl) (fun v s₆ h₆ => ?_) fun _ _ e => e⟩
  obtain ⟨hx₆, yt, ⟨Tn, rfl, hTn, hTo⟩, htl, htv⟩ := h₆
  obtain ⟨I₆, hTs⟩ := (I₅.tok tk6).gain hx₆ hTn hTo
  refine In.storeCell (I₆.perm (List.perm_middle (l₁ := [_, _, _]))) (.inr hf2) (fun s₇ I₇ => ?_) rfl
  dsimp only
  have ct : s₇.heap.IsCell (L + 2) (some (.ref Tn)) := I₇.head
  have cT := I₇.tail.head
  have cn : s₇.heap.IsCell (L + 1) (some (.ref Nn)) := I₇.tail.tail.head
  have cN := I₇.tail.tail.tail.head
  refine execsC_any (comp_assign I₇ yn.length (fun _ => true) (pairJ x wd) (fun C i h => ∃ t, vLoc "place" C (.int (i : Int) t) h)
    (iter_range1 hB I₇.base (.builtin hB I₇.base) (.lenL (.builtin hB I₇.base) (.cell (c := L + 1) (v := .ref Nn) rfl cn) (aL_list cN) (by omega)) (fun s => tgt_local (fun _ => rfl) rfl (fun _ => rfl)) R'.handled (by omega)) (by omega) rfl rfl (by decide)
    (fun C h => ⟨[], rfl, rfl, List.nodup_nil, (fun _ h => nomatch h), (fun _ h => nomatch h)⟩) ?_ (fun C i ys s₁ E' hi hx hC hbd hj => tests_nil hx.base) ?_ ?_)
  · rintro C i ys h h' ⟨as, rfl, hl', hnd, hab, has⟩ hk'
    refine ⟨as, rfl, hl', hnd, hab, fun p hp => ?_⟩
    obtain ⟨o, ho, hp'⟩ := has p hp
    have hpa : p.1 ∈ as := by rw [← pairLed_keys x wd as]; exact List.mem_map_of_mem (f := (·.1)) hp
    exact ⟨o, hk' _ o (hab _ hpa) (fun hm => nomatch hm) ho, hp'⟩
  · rintro C i ys s₈ E₈ hi _ hx₈ hC hlt ⟨t', m', hns, hm⟩ ⟨as, rfl, hl', hnd, hab, has⟩
    obtain ⟨tt, htt⟩ : ∃ t, yt[i]? = some (.int (wordV (swapB x wd) wd i) t) := by
      have h1 : i < yt.length := by omega
      obtain ⟨t, e⟩ := htv i yt[i] (by simp [h1])
      exact ⟨t, by rw [← e]; simp [h1]⟩
    obtain ⟨tn, htn⟩ : ∃ t, yn[i]? = some (.int (wordV x wd i) t) := by
      obtain ⟨t, e⟩ := hnv i yn[i] (by simp [hi])
      exact ⟨t, by rw [← e]; simp [hi]⟩
    refine PyProof.Rows.Tuple_ (k := 0) (spliced_cons ?_)
    refine (PEv.sub (PEv.mono (P' := fun v => ∃ t, v = Value.int (wordV (swapB x wd) wd i) t) (.item (D := Tn) (i := (i : Int)) (.cell (c := L + 2) (v := .ref Tn) rfl (hx₈.cell ct)) (.localI hns hm) (aL_list (hx₈.aL cT)) (by omega) (by rw [Int.toNat_natCast]; exact htt) (by omega)) fun v e => ⟨tt, e⟩)
      (PEv.mono (P' := fun v => ∃ t, v = Value.int (wordV x wd i) t) (.item (D := Nn) (i := (i : Int)) (.cell (c := L + 1) (v := .ref Nn) rfl (hx₈.cell cn)) (.localI hns hm) (aL_list (hx₈.aL cN)) (by omega) (by rw [Int.toNat_natCast]; exact htn) (by omega)) fun v e => ⟨tn, e⟩)).use ?_
    rintro _ tk9 ⟨t9, rfl⟩
    refine spliced_cons ((PEv.local (s := { s₈ with toks := tk9 }) (x := "place") (v := .int (i : Int) t') hns hm).use ?_)
    rintro _ tk10 rfl
    refine spliced_nil (wpAny_newObj_type ?_)
    refine ⟨Ext.push hx₈.base, as ++ [s₈.heap.objs.size], ?_, by simp [hl'], ?_, ?_, ?_⟩
    · rw [pairZ_snoc]; simp [vals]
    · refine List.nodup_append.mpr ⟨hnd, by simp, ?_⟩
      intro a ha b hb' e
      cases List.mem_singleton.mp hb'
      have : a ∈ (pairLed x wd as).map (·.1) := by rw [pairLed_keys]; exact ha
      obtain ⟨p, hp, rfl⟩ := List.mem_map.mp this
      obtain ⟨o, ho, _⟩ := has p hp
      exact Nat.ne_of_lt (Heap.lt_size ho) e
    · intro a ha
      rcases List.mem_append.mp ha with ha | ha
      · exact hab a ha
      · cases List.mem_singleton.mp ha; exact hlt
    · intro p hp
      rw [pairLed_snoc] at hp
      rcases List.mem_append.mp hp with hp | hp
      · obtain ⟨o, ho, hp'⟩ := has p hp
        exact ⟨o, Heap.get?_push_of_some _ ho, hp'⟩
      · cases List.mem_singleton.mp hp
        exact ⟨_, Heap.get?_push_size _ rfl, t9, t', 0, by rw [hl']; rfl⟩
  · rintro Hp C ys s₈ hHs hH hHC hab I₈ ⟨as, rfl, hasl, hsn, habv, has⟩
    have hlow : ∀ a ∈ as, ∀ b o, s₇.heap.get? b = some o → b < a := fun a ha b o e => Nat.lt_trans (hab b o e) (Nat.lt_trans hHC (habv a ha))
    have has0 : ∀ a ∈ as, s₇.heap.get? a = none := fun a ha => by
      cases q : s₇.heap.get? a with
      | none => rfl
      | some o => exact absurd (hlow a ha a o q) (Nat.lt_irrefl _)
    obtain ⟨m₉, rest, I₉, q1, q2, q3, q4, q5⟩ : ∃ m rest, In b₀ s [] L m ((Hp, aL (vals (pairZ x wd as))) :: (rest ++ pairLed x wd as)) s₈ ∧ m "heap" = some (.ref Hp) ∧ m "greatest" = some (.bool g) ∧ m "width" = some (.int wd t2) ∧ m "flat" = some (.bytes x.toArray t1) ∧ m "whole" = some (.bytes (swapB x wd).toArray tw) := by
      refine ⟨_, _, (I₈.adopts (its := pairLed x wd as) (fun p hp => ?_) (by rw [pairLed_keys]; exact hsn)).perm List.perm_append_comm, rfl, rfl, rfl, rfl, rfl⟩
      have ha : p.1 ∈ as := by rw [← pairLed_keys x wd as]; exact List.mem_map_of_mem (f := (·.1)) hp
      refine ⟨has p hp, Kept.none I₇.base (has0 _ ha), ?_, ?_⟩
      · obtain ⟨o, _, _, ho, _⟩ := I₇.ns
        exact Nat.ne_of_gt (hlow _ ha _ _ ho)
      · intro hm
        rcases List.mem_cons.mp hm with e | hm
        · exact Nat.ne_of_gt (Nat.lt_trans hHC (habv _ ha)) e
        · obtain ⟨q, hq, e⟩ := List.mem_map.mp hm
          obtain ⟨o, ho, _⟩ := I₇.own q hq
          exact Nat.ne_of_lt (hlow _ ha _ _ ho) e
    dsimp only
    have hH0 : b₀.get? Hp = none := Kept.none I₇.base hH
    have hzl : (pairZ x wd as).length = k := by simp [pairZ, hasl, hnl]
    have step1 : ∀ (Q : Flow → Shared → Prop) E', (∀ s₉, In b₀ s [] L m₉ ((Hp, aL (vals (hfF (ltG g) ((pairZ x wd as).length / 2) (pairZ x wd as)))) :: (rest ++ pairLed x wd as)) s₉ → Q .next s₉) → wpAny (model PG w) (A.deeper (callEnvC (dataAt w.params 97) L 97)) (exec ((bodyAt w.params 97).getD 4 (.Pass default)) (callEnvC (dataAt w.params 97) L 97)) Q E' s₈ := by
      intro Q E' hQ
      refine wpAny_If ?_
      refine PyProof.Rows.isTrue_plain (PEv.use (.local (x := "greatest") (v := .bool g) I₉.ns q2) ?_)
      rintro _ tk rfl
      have I₁₀ := I₉.tok tk
      have hz := pairZ_all (x := x) (wd := wd) (as := as) I₁₀ (fun p hp => .tail _ (List.mem_append_right _ hp))
      refine wpAny_truthy_bool ?_
      cases g with
      | true =>
        simp only [if_true]
        refine wpAny_execs_cons (wpAny_Expr ?_)
        refine call_f1 hB rfl (.global hB I₁₀.base) fun tk1 => ?_
        refine (PEv.local (s := { s₈ with toks := tk1 }) (x := "heap") (v := .ref Hp) I₉.ns q1) _ _ _ ?_
        rintro _ tk2 rfl
        refine ⟨I₉.base, wpAny_mono (heapifyM_ok (s := { s₈ with toks := tk2 }) hB R' I₉.base hH0 I₉.head hz (by omega)) (fun v s₁₀ h => ?_) fun _ _ e => e⟩
        obtain ⟨rfl, hE, ho⟩ := h
        dsimp only
        exact wpAny_execs_nil (hQ _ ((I₉.tok tk2).ext1 (.inr hHs) hE ho))
      | false =>
        simp only [Bool.false_eq_true, if_false]
        refine wpAny_execs_cons (wpAny_Expr ?_)
        refine call_f1 hB rfl (.global hB I₁₀.base) fun tk1 => ?_
        refine (PEv.local (s := { s₈ with toks := tk1 }) (x := "heap") (v := .ref Hp) I₉.ns q1) _ _ _ ?_
        rintro _ tk2 rfl
        refine ⟨I₉.base, wpAny_mono (heapify_ok (s := { s₈ with toks := tk2 }) hB R' I₉.base hH0 I₉.head hz (by omega)) (fun v s₁₀ h => ?_) fun _ _ e => e⟩
        obtain ⟨rfl, hE, ho⟩ := h
        dsimp only
        exact wpAny_execs_nil (hQ _ ((I₉.tok tk2).ext1 (.inr hHs) hE ho))
    refine execsC_any (step1 _ _ fun s₉ I₁₀ => ?_)
    dsimp only
    refine execsC_any (wpAny_Assign_Name (PyProof.Rows.List_ (spliced_nil (wpAny_newObj_type ?_))))
    obtain ⟨I₁₁, hTx⟩ := I₁₀.push { cls := .type "list", data := .seq ([] : List Value).toArray } (aL []) rfl ⟨0, rfl⟩
    generalize hTxa : s₉.heap.objs.size = Tx at *
    refine I₁₁.store (env := callEnvC (dataAt w.params 97) L 97) (x := "texts") (v := .ref Tx) (fun s₁₁ I₁₂ => ?_)
    dsimp only
    refine execsC_any (I₁₂.assign (P := fun v => v = .bytes x.toArray t1) (.local (x := "flat") I₁₂.ns q4) ?_)
    rintro _ s₁₂ rfl I₁₃
    dsimp only
    have hz1l : (hfF (ltG g) ((pairZ x wd as).length / 2) (pairZ x wd as)).length = as.length := by rw [hfF_length, hzl]; omega
    refine execsC_cons (while_inC (fun n s' => ∃ m z ts dn cur tc, n = z.length ∧ In b₀ s [] L m ((Tx, aL ts) :: (Hp, aL (vals z)) :: (rest ++ pairLed x wd as)) s' ∧ (∀ q ∈ z, q ∈ pairZ x wd as) ∧ m "heap" = some (.ref Hp) ∧ m "texts" = some (.ref Tx) ∧ m "text" = some (.bytes cur.toArray tc) ∧ m "width" = some (.int wd t2) ∧ m "greatest" = some (.bool g) ∧ m "whole" = some (.bytes (swapB x wd).toArray tw) ∧
      cur.length = k * wd ∧ BytesA ts dn ∧ dn ++ (stepsF g wd z.length z cur).1 = (stepsF g wd as.length (hfF (ltG g) ((pairZ x wd as).length / 2) (pairZ x wd as)) x).1 ∧ (stepsF g wd z.length z cur).2 = (stepsF g wd as.length (hfF (ltG g) ((pairZ x wd as).length / 2) (pairZ x wd as)) x).2 ∧ dn.length + z.length = k) as.length
      ⟨_, hfF (ltG g) ((pairZ x wd as).length / 2) (pairZ x wd as), [], [], x, t1, hz1l.symm, I₁₃, fun q hq => hfF_mem _ _ _ q hq, q1, rfl, rfl, q3, q2, q5, hx, ⟨rfl, fun j v h => by simp at h⟩, by rw [hz1l]; rfl, by rw [hz1l], by rw [hz1l]; simp; omega⟩ ?_)
    rintro n s' E'' ⟨m, z, ts, dn, cur, tc, rfl, J, hsub, e1, e2, e3, e4, e5, e6, hcl, hts, hr1, hr2, hdz⟩
    have hvl : (vals z).length < 1000 := by simp [vals]; omega
    refine PyProof.Rows.isTrue_plain (PEv.use (.local (x := "heap") (v := .ref Hp) J.ns e1) ?_)
    rintro _ tk rfl
    have J₁ := J.tok tk
    refine wpAny_truthy_list (s := { s' with toks := tk }) J₁.swap.isList (by rw [List.size_toArray]; omega) ?_
    have J₂ := J₁.tok (tk + 1 + 1)
    by_cases hz : z = []
    · subst hz
      simp only [vals, List.map_nil, List.isEmpty_toArray, List.isEmpty_nil, Bool.not_true, Bool.false_eq_true, if_false]
      refine wpC_any ?_
      have hfin : cur = (stepsF g wd as.length (hfF (ltG g) ((pairZ x wd as).length / 2) (pairZ x wd as)) x).2 := by rw [← hr2]; rfl
      have hdn : dn = (stepsF g wd as.length (hfF (ltG g) ((pairZ x wd as).length / 2) (pairZ x wd as)) x).1 := by rw [← hr1]; simp [stepsF]
      have hres : stepsRes g x wd as = if swapB x wd = cur then dn else [] := by unfold stepsRes; rw [hfin, hdn]
      refine wpAny_execs_cons (wpAny_Return_some (wpAny_IfExp ?_))
      refine (PTest.and (c := true) (d := (swapB x wd == cur)) ?_ ?_).use fun tk2 => ?_
      · intro Q E tk hQ
        refine PyProof.Rows.isTrue_plain ?_
        refine call_b2 (id := "isinstance") (.builtin hB (s := { s' with toks := tk }) J₂.base) fun tk2 => ?_
        refine (PEv.local (s := { s' with toks := tk2 }) (x := "whole") (v := .bytes (swapB x wd).toArray tw) J₂.ns e6) _ _ _ ?_
        rintro _ tk3 rfl
        refine (PEv.builtin (s := { s' with toks := tk3 }) (v := .type "bytes") hB J₂.base) _ _ _ ?_
        rintro _ tk4 rfl
        exact call_isinstance_yes (PySem.W.typeIs_bytes _ _ _) rfl F.sub_bytes_bytes (wpAny_truthy_bool (hQ _))
      · intro _ Q E tk hQ
        refine wpAny_isTrue_Compare1 ?_
        refine (PEv.local (s := { s' with toks := tk }) (x := "whole") (v := .bytes (swapB x wd).toArray tw) J₂.ns e6) _ _ _ ?_
        rintro _ tk3 rfl
        refine (PEv.local (s := { s' with toks := tk3 }) (x := "text") (v := .bytes cur.toArray tc) J₂.ns e3) _ _ _ ?_
        rintro _ tk4 rfl
        exact PySem.W.eq_bytes (wpAny_truthy_bool (hQ _))
      · by_cases hsc : swapB x wd = cur
        · rw [show (true && (swapB x wd == cur)) = true by rw [hsc]; simp]
          simp only [if_true]
          refine (PEv.local (s := { s' with toks := tk2 }) (x := "texts") (v := .ref Tx) J₂.ns e2).use ?_
          rintro _ tk3 rfl
          refine ⟨((J.tok tk3).exit hLn), as, ts, by omega, ⟨Tx, rfl, hTx, J.head⟩, ?_⟩
          rw [hres, if_pos hsc]; exact hts
        · rw [show (true && (swapB x wd == cur)) = false by simp [hsc]]
          simp only [Bool.false_eq_true, if_false]
          refine PyProof.Rows.List_ (spliced_nil (wpAny_newObj_type ?_))
          obtain ⟨J₅, hJ5⟩ := (J.tok tk2).push { cls := .type "list", data := .seq ([] : List Value).toArray } (aL []) rfl ⟨0, rfl⟩
          refine ⟨J₅.exit hLn, as, [], by omega, ⟨_, rfl, hJ5, J₅.head⟩, ?_⟩
          rw [hres, if_neg hsc]
          exact ⟨rfl, fun j v h => by simp at h⟩
    · obtain ⟨q, r, hpop, hrl, hqz, hrz⟩ := popF_some (ltG g) hz
      have hne : (vals z).toArray.isEmpty = false := by
        cases z with
        | nil => exact absurd rfl hz
        | cons a b => rfl
      simp only [hne, Bool.not_false, if_true]
      have hH0' : b₀.get? Hp = none := hH0
      have popped : ∀ (Q : Value → Shared → Prop) E', (∀ s₃, In b₀ s [] L m ((Hp, aL (vals r)) :: (Tx, aL ts) :: (rest ++ pairLed x wd as)) s₃ → Q q.1 s₃) →
          wpAny (model PG w) (A.deeper (callEnvC (dataAt w.params 97) L 97)) (eval (match (bodyAt w.params 97).getD 7 (.Pass default) with | .While _ (.Assign _ v _ :: _) _ _ => v | _ => default) (callEnvC (dataAt w.params 97) L 97)) Q E' { s' with toks := tk + 1 + 1 } := by
        intro Q E' hQ
        refine wpAny_IfExp ?_
        refine PyProof.Rows.isTrue_plain (PEv.use (.local (x := "greatest") (v := .bool g) J₂.ns e5) ?_)
        rintro _ tk3 rfl
        have J₃ := (J₂.tok tk3).swap
        have hzp : AllPairs ({ s' with toks := tk3 } : Shared).heap z := fun y hy => pairZ_all (x := x) (wd := wd) (as := as) J₃ (fun p hp => .tail _ (.tail _ (List.mem_append_right _ hp))) y (hsub y hy)
        refine wpAny_truthy_bool ?_
        cases g with
        | true =>
          simp only [if_true]
          refine call_f1 hB rfl (.global hB J₃.base) fun tk4 => ?_
          refine (PEv.local (s := { s' with toks := tk4 }) (x := "heap") (v := .ref Hp) J₃.ns e1) _ _ _ ?_
          rintro _ tk5 rfl
          refine ⟨J₃.base, wpAny_mono (heappopM_ok (s := { s' with toks := tk5 }) hB R' J₃.base hH0 J₃.head hzp (by omega) hpop) (fun v s₃ h => ?_) fun _ _ e => e⟩
          obtain ⟨rfl, hE, ho⟩ := h
          exact hQ _ ((J₃.tok tk5).ext1 (.inr hHs) hE ho)
        | false =>
          simp only [Bool.false_eq_true, if_false]
          refine call_f1 hB rfl (.global hB J₃.base) fun tk4 => ?_
          refine (PEv.local (s := { s' with toks := tk4 }) (x := "heap") (v := .ref Hp) J₃.ns e1) _ _ _ ?_
          rintro _ tk5 rfl
          refine ⟨J₃.base, wpAny_mono (heappop_ok (s := { s' with toks := tk5 }) hB R' J₃.base hH0 J₃.head hzp (by omega) hpop) (fun v s₃ h => ?_) fun _ _ e => e⟩
          obtain ⟨rfl, hE, ho⟩ := h
          exact hQ _ ((J₃.tok tk5).ext1 (.inr hHs) hE ho)
      refine execsC_any (PyProof.Rows.Assign_Tuple (popped _ _ fun s₃ K => ?_))
      obtain ⟨⟨aq, jq⟩, hjq, hqe⟩ := List.mem_map.mp (hsub q hqz)
      have hjk : jq < k := by
        have := List.mk_mem_zipIdx_iff_getElem?.mp hjq
        have := (List.getElem?_eq_some_iff.mp this).1
        omega
      have hq2 : q.2.2 = (jq : Int) := by rw [← hqe]
      have hpq : PairAt s₃.heap q.1 q.2 := pairZ_all (x := x) (wd := wd) (as := as) K (fun p hp => .tail _ (.tail _ (List.mem_append_right _ hp))) q (hsub q hqz)
      refine in_unpack2 (env := callEnvC (dataAt w.params 97) L 97) K hpq R'.handled fun s₄ tg tp K₁ => ?_
      rw [hq2] at K₁
      dsimp only
      refine execsC_any (K₁.assign (P := fun v => ∃ t, v = .int ((jq : Int) * (wd : Int)) t) (PEv.mul (.localI (x := "place") (i := (jq : Int)) K₁.ns rfl) (.localI (x := "width") (i := (wd : Int)) K₁.ns e4) (by omega) (by omega)) ?_)
      rintro _ s₅ ⟨ts5, rfl⟩ K₂
      dsimp only
      rw [show (jq : Int) * (wd : Int) = ((jq * wd : Nat) : Int) by push_cast; rfl] at K₂
      have hin : jq * wd + wd ≤ cur.length := by
        rw [hcl]
        have : (jq + 1) * wd ≤ k * wd := Nat.mul_le_mul_right _ hjk
        rw [Nat.succ_mul] at this; exact this
      have hml : ((cur.drop (jq * wd)).take wd).length = 1 * wd := by rw [List.length_take, List.length_drop]; omega
      refine execsC_cons (AssignC_Name (BinOpC (BinOpC (wpC_any ((EEv.sliceB (x := cur) (t := tc) K₂.base (.local (x := "text") K₂.ns e3) .none (.int (.localI (x := "start") K₂.ns rfl)) (by omega)).use ?_)))))
      rintro _ s₆ hx₆ ⟨t6, rfl⟩
      rw [cut1 (by omega)]
      have K₃ := K₂.ext hx₆
      refine callC_f2 hB rfl (.global hB K₃.base) fun tk6 => ?_
      refine (EEv.sliceB (s := { s₆ with toks := tk6 }) (x := cur) (t := tc) K₃.base (.local (x := "text") K₃.ns e3) (.int (.localI (x := "start") K₃.ns rfl)) (.int (.add (.localI (x := "start") K₃.ns rfl) (.localI (x := "width") K₃.ns e4))) (by omega)).use ?_
      rintro _ s₇ hx₇ ⟨t7, rfl⟩
      rw [cut2 hin]
      have K₄ := (K₃.tok tk6).ext hx₇
      refine (PEv.local (x := "width") (v := .int wd t2) K₄.ns e4).use ?_
      rintro _ tk7 rfl
      refine ⟨K₄.base, wpC_mono (swap_ok (s := { s₇ with toks := tk7 }) (k := 1) hB R' K₄.base hw0 hw (by omega) hml) (fun v s₈ h₈ => ?_) fun _ _ e => e⟩
      obtain ⟨hx₈, t8, rfl⟩ := h₈
      have K₅ := (K₄.tok tk7).ext hx₈
      have hsl2 : (swapB ((cur.drop (jq * wd)).take wd) wd).length = wd := by simp only [swapB, List.length_map, List.length_range]; omega
      refine KBy.add_bytes (by simp only [List.size_toArray, List.length_take]; omega) fun t9 k9 => ?_
      have K₆ := K₅.tok k9
      refine wpC_any ((EEv.sliceB (s := { s₈ with toks := k9 }) (x := cur) (t := tc) K₆.base (.local (x := "text") K₆.ns e3) (.int (.add (.localI (x := "start") K₆.ns rfl) (.localI (x := "width") K₆.ns e4))) .none (by omega)).use ?_)
      rintro _ s₉' hx₉ ⟨t10, rfl⟩
      rw [cut3 hin]
      have K₇ := K₆.ext hx₉
      refine KBy.add_bytes (by simp only [Array.size_append, List.size_toArray, List.length_take, List.length_drop]; omega) fun t11 k11 => ?_
      rw [show ((cur.take (jq * wd)).toArray ++ (swapB ((cur.drop (jq * wd)).take wd) wd).toArray ++ (cur.drop (jq * wd + wd)).toArray) = (turnAt cur jq wd).toArray by simp [turnAt]]
      refine (K₇.tok k11).store (env := callEnvC (dataAt w.params 97) L 97) (x := "text") (v := .bytes (turnAt cur jq wd).toArray t11) (fun s₁₀ K₈ => ?_)
      dsimp only
      refine wpC_any ?_
      have K₉ := K₈.swap
      refine wpAny_execs_cons (wpAny_Expr ?_)
      refine wpAny_Call_method (T := "list") (id := "list.append") rfl rfl rfl F.plainAttrs_list PySem.slot_list_append F.type_list_append ?_
      refine (PEv.local (x := "texts") (v := .ref Tx) K₉.ns e2).use ?_
      rintro _ tk12 rfl
      obtain ⟨ot, hot, nt, rfl⟩ := K₉.head
      refine ⟨⟨_, hot, rfl⟩, fun a' e => (by cases e; exact ⟨_, hot, rfl⟩), ?_⟩
      refine callWith_builtin rfl (evalArgs_plain (spliced_cons ?_))
      refine (PEv.local (s := { s₁₀ with toks := tk12 }) (x := "text") (v := .bytes (turnAt cur jq wd).toArray t11) K₉.ns rfl).use ?_
      rintro _ tk13 rfl
      refine spliced_nil ?_
      refine In.append (K₉.tok tk13) (.inr hTx) (by have := hts.1; omega) fun s₁₁' K₁₀ _ => ?_
      dsimp only
      have hzp : z.length = r.length + 1 := hrl.symm
      have hst : stepsF g wd z.length z cur = (turnAt cur jq wd :: (stepsF g wd r.length r (turnAt cur jq wd)).1, (stepsF g wd r.length r (turnAt cur jq wd)).2) := by
        rw [hzp, stepsF, hpop]
        simp [hq2]
      refine wpAny_execs_nil ⟨r.length, by omega, (fun y => if y = "text" then some (.bytes (turnAt cur jq wd).toArray t11) else if y = "start" then some (.int ((jq * wd : Nat) : Int) ts5) else if y = "place" then some (.int (jq : Int) tp) else if y = "gain" then some (.int q.2.1 tg) else m y), r, ts ++ [Value.bytes (turnAt cur jq wd).toArray t11], dn ++ [turnAt cur jq wd], turnAt cur jq wd, t11, rfl, K₁₀, fun y hy => hsub y (hrz y hy), e1, e2, rfl, e4, e5, e6, ?_, hts.snoc, ?_, ?_, ?_⟩
      · simp only [turnAt, List.length_append, List.length_take, List.length_drop]; omega
      · rw [← hr1, hst]; simp
      · rw [← hr2, hst]
      · simp; omega
end Mine
end
section
open PySem PySem.W PyProof.Rows PySem.Calls
open Sem (wp)
set_option maxRecDepth 100000
set_option maxHeartbeats 4000000
set_option linter.unusedVariables false
namespace Mine
/-- items are compared so wherever the base stands -/
def CmpB (w : World) (A : Around) (op : CmpOp) (base : Heap) (vs : List Value) (bt : Nat → Nat → Bool) : Prop :=
  ∀ (i j : Nat) (vi vj : Value) (s : Shared) (Q : Value → Shared → Prop) (E : Value → Shared → Prop), vs[i]? = some vi → vs[j]? = some vj → (∀ b o, base.get? b = some o → s.heap.get? b = some o) → Q (.bool (bt i j)) s → wpAny (model PG w) A (richCompare op vi vj) Q E s

theorem min_loop {w : World} {A : Around} {R : Result → Shared → Prop} {base : Heap} {l I S : Addr} {vs : List Value} {bt : Nat → Nat → Bool} (hh : A.in1.handled = none) (hc : CmpB w A.in1 .Lt base vs bt) (hI : base.get? I = none) (hS : base.get? S = none) (hIS : I ≠ S) (hlI : l ≠ I) (hlS : l ≠ S) :
    ∀ (k j : Nat) (s : Shared) (vb : Value) (c : Nat), vs.length - (j + 1) = k → j + 1 ≤ vs.length → (∀ b o, base.get? b = some o → s.heap.get? b = some o) → s.heap.IsListIter I l (j + 1) → s.heap.IsList l vs.toArray → vs[argBest bt j]? = some vb →
      s.heap.get? S = some { cls := .type "list", dict := none, data := .seq #[vb, vb] c, slots := #[] } →
      (∀ v h' tk, vs[argBest bt (vs.length - 1)]? = some v → (∀ b o, b ≠ I → b ≠ S → s.heap.get? b = some o → h'.get? b = some o) → R (.ok (.ret v)) { s with heap := h', toks := tk }) →
      codeAny (model PG w) A (.builtin "min.loop" ⟨[.ref I, .none, .ref S], []⟩) R s := by
  have hname : (toString "min" ++ toString ".loop" : String) = "min.loop" := by decide
  intro k
  induction k with
  | zero =>
    intro j s vb c hk hj hb hit hl hv hs hR
    refine codeAny_builtin F.entry_min_loop ?_
    rw [Around.under_plainId F.plain_min_loop _]
    show wpAny _ A.in1 (seqItems? (.ref S) >>= _) _ _ s
    refine wpAny_bind (wpAny_seqItems hs rfl ?_)
    show wpAny _ A.in1 (tryCatch (pyNext (.ref I)) _ >>= _) _ _ s
    refine wpAny_bind (wpAny_tryCatch (wpAny_pyNext_list_end hh hit hl (by simp; omega) fun h' he => ?_))
    have hs' := he S _ (Ne.symm hIS) hs
    show wpAny _ A.in1 (updateSeq S (fun _ => #[]) >>= _) _ _ _
    refine wpAny_bind ?_
    refine wpAny_updateSeq hs' rfl (wpAny_bind (wpAny_letGo (wpAny_pure ?_)))
    exact hR vb _ s.toks (by rw [show vs.length - 1 = j by omega]; exact hv) fun b o h1 h2 e => (Heap.get?_update_other _ _ (Ne.symm h2)).trans (he b o h1 e)
  | succ k ih =>
    intro j s vb c hk hj hb hit hl hv hs hR
    have hlt : j + 1 < vs.length := by omega
    refine codeAny_builtin F.entry_min_loop ?_
    rw [Around.under_plainId F.plain_min_loop _]
    show wpAny _ A.in1 (seqItems? (.ref S) >>= _) _ _ s
    refine wpAny_bind (wpAny_seqItems hs rfl ?_)
    show wpAny _ A.in1 (tryCatch (pyNext (.ref I)) _ >>= _) _ _ s
    refine wpAny_bind (wpAny_tryCatch (wpAny_pyNext_list_item (x := vs[j + 1]) hit hl (by simp [hlt]) fun h' hit' hs₁ => ?_))
    have hs' := (hs₁.2 S (Ne.symm hIS)).trans hs
    have hb' : ∀ b o, base.get? b = some o → h'.get? b = some o := fun b o e => (hs₁.2 b (by rintro rfl; rw [hI] at e; cases e)).trans (hb b o e)
    have hl' : h'.IsList l vs.toArray := hl.at fun o e => (hs₁.2 l hlI).trans e
    show wpAny _ A.in1 (tryCatch (holding [vs[j + 1], vs[j + 1]] (richCompare .Lt vs[j + 1] vb >>= _)) _ >>= _) _ _ _
    refine wpAny_bind (wpAny_tryCatch (wpAny_holding (wpAny_bind (hc (j + 1) (argBest bt j) _ vb _ _ _ (by simp [hlt]) hv hb' ?_))))
    refine wpAny_bind (wpAny_holding (wpAny_truthy_bool ?_))
    refine wpAny_bind (wpAny_letGo (wpAny_pure ?_))
    cases hbt : bt (j + 1) (argBest bt j) with
    | true =>
      simp only [if_true]
      refine wpAny_bind ?_
      refine wpAny_updateSeq hs' rfl (wpAny_bind (wpAny_letGo ?_))
      rw [hname]
      refine wpAny_pure ⟨plainId_quiet F.plain_min_loop _, ih (j + 1) _ vs[j + 1] _ (by omega) hlt (fun b o e => (Heap.get?_update_other _ _ (fun q : S = b => by rw [← q, hS] at e; cases e)).trans (hb' b o e)) (hit'.at fun o e => (Heap.get?_update_other _ _ (Ne.symm hIS)).trans e)
        (hl'.at fun o e => (Heap.get?_update_other _ _ (Ne.symm hlS)).trans e) (by simp only [argBest, hbt, if_true]; simp [hlt]) (Heap.get?_update_self _ hs' rfl) fun v h'' tk hv' hk' => ?_⟩
      exact hR v h'' tk hv' fun b o h1 h2 e => hk' b o h1 h2 ((Heap.get?_update_other _ _ (Ne.symm h2)).trans ((hs₁.2 b h1).trans e))
    | false =>
      simp only [Bool.false_eq_true, if_false]
      refine wpAny_bind (wpAny_letGo ?_)
      rw [hname]
      refine wpAny_pure ⟨plainId_quiet F.plain_min_loop _, ih (j + 1) _ vb c (by omega) hlt hb' hit' hl' (by simp only [argBest, hbt, Bool.false_eq_true, if_false]; exact hv) hs' fun v h'' tk hv' hk' => ?_⟩
      exact hR v h'' tk hv' fun b o h1 h2 e => hk' b o h1 h2 ((hs₁.2 b h1).trans e)

theorem call_min_list {w : World} {A : Around} {E : Value → Shared → Prop} {s : Shared} {l : Addr} {vs : List Value} {bt : Nat → Nat → Bool} {Q : Value → Shared → Prop} (hh : A.in1.handled = none) (hc : CmpB w A.in1 .Lt s.heap vs bt) (hl : s.heap.IsList l vs.toArray) (hn : 0 < vs.length)
    (hQ : ∀ v h' tk, vs[argBest bt (vs.length - 1)]? = some v → (∀ b o, s.heap.get? b = some o → h'.get? b = some o) → Q v { s with heap := h', toks := tk }) : wpAny (model PG w) A (call (.builtin "min") [.ref l]) Q E s := by
  have hname : (toString "min" ++ toString ".loop" : String) = "min.loop" := by decide
  have hlt : l < s.heap.objs.size := by obtain ⟨o, ho, _⟩ := hl; exact Heap.lt_size ho
  refine call_function_tree F.kind_min F.plain_min F.entry_min (F.args_min1 _) ?_
  show wpAny _ A.in1 (Builtin.Builtins.bindParams "min" ["key", "default"] 0 ⟨[], []⟩ >>= _) _ _ s
  refine wpAny_bind (wpAny_of_eq (show Builtin.Builtins.bindParams "min" ["key", "default"] 0 ⟨[], []⟩ = pure [none, none] from rfl) ?_)
  refine wpAny_bind (wpAny_pure ?_)
  refine wpAny_bind (wpAny_pyIter_list hl ?_)
  refine wpAny_bind (wpAny_newObj_type ?_)
  rw [hname]
  have hz : (s.heap.push { cls := .type "list_iterator", data := .fields #[.ref l, .int 0 0] }).objs.size = s.heap.objs.size + 1 := Heap.size_push ..
  generalize hSa : (s.heap.push { cls := .type "list_iterator", data := .fields #[.ref l, .int 0 0] }).objs.size = S at *
  have hsS : (((s.heap.push { cls := .type "list_iterator", data := .fields #[.ref l, .int 0 0] }).push { cls := .type "list", data := .seq ([] : List Value).toArray }) : Heap).get? S = some { cls := .type "list", data := .seq ([] : List Value).toArray } := hSa ▸ Heap.get?_push_size _ rfl
  have hI0 : s.heap.get? s.heap.objs.size = none := none_of_size (Nat.le_refl _)
  have hS0 : s.heap.get? S = none := none_of_size (by rw [hz]; exact Nat.le_succ _)
  have hIS : s.heap.objs.size ≠ S := by rw [hz]; exact Nat.ne_of_lt (Nat.lt_succ_self _)
  have hlI : l ≠ s.heap.objs.size := Nat.ne_of_lt hlt
  have hlS : l ≠ S := by rw [hz]; exact Nat.ne_of_lt (Nat.lt_succ_of_lt hlt)
  have hk2 : ∀ b o, s.heap.get? b = some o → (((s.heap.push { cls := .type "list_iterator", data := .fields #[.ref l, .int 0 0] }).push { cls := .type "list", data := .seq ([] : List Value).toArray }) : Heap).get? b = some o := fun b o e => Heap.get?_push_of_some _ (Heap.get?_push_of_some _ e)
  refine wpAny_pure ⟨plainId_quiet F.plain_min_loop _, codeAny_builtin F.entry_min_loop ?_⟩
  rw [Around.under_plainId F.plain_min_loop _]
  show wpAny _ A.in1 (seqItems? (.ref S) >>= _) _ _ _
  refine wpAny_bind (wpAny_seqItems hsS rfl ?_)
  show wpAny _ A.in1 (tryCatch (pyNext (.ref s.heap.objs.size)) _ >>= _) _ _ _
  refine wpAny_bind (wpAny_tryCatch (wpAny_pyNext_list_item (l := l) (i := 0) (items := vs.toArray) (x := vs[0]) ⟨_, Heap.get?_push_of_some _ (Heap.get?_push_size _ rfl), rfl, rfl⟩ (hl.at fun o e => hk2 l o e) (by simp) fun h' hit' hs₁ => ?_))
  have hs' := (hs₁.2 S (Ne.symm hIS)).trans hsS
  show wpAny _ A.in1 (updateSeq S (fun _ => #[vs[0], vs[0]]) >>= _) _ _ _
  refine wpAny_bind ?_
  refine wpAny_updateSeq hs' rfl ?_
  rw [hname]
  have hb' : ∀ b o, s.heap.get? b = some o → h'.get? b = some o := fun b o e => (hs₁.2 b (Nat.ne_of_lt (Heap.lt_size e))).trans (hk2 b o e)
  refine wpAny_pure ⟨plainId_quiet F.plain_min_loop _, min_loop (base := s.heap) hh hc hI0 hS0 hIS hlI hlS _ 0 _ vs[0] _ rfl hn (fun b o e => (Heap.get?_update_other _ _ (fun q : S = b => by rw [← q, hS0] at e; cases e)).trans (hb' b o e)) (hit'.at fun o e => (Heap.get?_update_other _ _ (Ne.symm hIS)).trans e)
    ((hl.at fun o e => hb' l o e).at fun o e => (Heap.get?_update_other _ _ (Ne.symm hlS)).trans e) (by simp [argBest]) (Heap.get?_update_self _ hs' rfl) fun v h'' tk hv' hk' => ?_⟩
  exact hQ v h'' tk hv' fun b o e => hk' b o (Nat.ne_of_lt (Heap.lt_size e)) (fun q => by rw [q, hS0] at e; cases e) ((Heap.get?_update_other _ _ (fun q : S = b => by rw [← q, hS0] at e; cases e)).trans (hb' b o e))

theorem max_loop {w : World} {A : Around} {R : Result → Shared → Prop} {base : Heap} {l I S : Addr} {vs : List Value} {bt : Nat → Nat → Bool} (hh : A.in1.handled = none) (hc : CmpB w A.in1 .Gt base vs bt) (hI : base.get? I = none) (hS : base.get? S = none) (hIS : I ≠ S) (hlI : l ≠ I) (hlS : l ≠ S) :
    ∀ (k j : Nat) (s : Shared) (vb : Value) (c : Nat), vs.length - (j + 1) = k → j + 1 ≤ vs.length → (∀ b o, base.get? b = some o → s.heap.get? b = some o) → s.heap.IsListIter I l (j + 1) → s.heap.IsList l vs.toArray → vs[argBest bt j]? = some vb →
      s.heap.get? S = some { cls := .type "list", dict := none, data := .seq #[vb, vb] c, slots := #[] } →
      (∀ v h' tk, vs[argBest bt (vs.length - 1)]? = some v → (∀ b o, b ≠ I → b ≠ S → s.heap.get? b = some o → h'.get? b = some o) → R (.ok (.ret v)) { s with heap := h', toks := tk }) →
      codeAny (model PG w) A (.builtin "max.loop" ⟨[.ref I, .none, .ref S], []⟩) R s := by
  have hname : (toString "max" ++ toString ".loop" : String) = "max.loop" := by decide
  intro k
  induction k with
  | zero =>
    intro j s vb c hk hj hb hit hl hv hs hR
    refine codeAny_builtin F.entry_max_loop ?_
    rw [Around.under_plainId F.plain_max_loop _]
    show wpAny _ A.in1 (seqItems? (.ref S) >>= _) _ _ s
    refine wpAny_bind (wpAny_seqItems hs rfl ?_)
    show wpAny _ A.in1 (tryCatch (pyNext (.ref I)) _ >>= _) _ _ s
    refine wpAny_bind (wpAny_tryCatch (wpAny_pyNext_list_end hh hit hl (by simp; omega) fun h' he => ?_))
    have hs' := he S _ (Ne.symm hIS) hs
    show wpAny _ A.in1 (updateSeq S (fun _ => #[]) >>= _) _ _ _
    refine wpAny_bind ?_
    refine wpAny_updateSeq hs' rfl (wpAny_bind (wpAny_letGo (wpAny_pure ?_)))
    exact hR vb _ s.toks (by rw [show vs.length - 1 = j by omega]; exact hv) fun b o h1 h2 e => (Heap.get?_update_other _ _ (Ne.symm h2)).trans (he b o h1 e)
  | succ k ih =>
    intro j s vb c hk hj hb hit hl hv hs hR
    have hlt : j + 1 < vs.length := by omega
    refine codeAny_builtin F.entry_max_loop ?_
    rw [Around.under_plainId F.plain_max_loop _]
    show wpAny _ A.in1 (seqItems? (.ref S) >>= _) _ _ s
    refine wpAny_bind (wpAny_seqItems hs rfl ?_)
    show wpAny _ A.in1 (tryCatch (pyNext (.ref I)) _ >>= _) _ _ s
    refine wpAny_bind (wpAny_tryCatch (wpAny_pyNext_list_item (x := vs[j + 1]) hit hl (by simp [hlt]) fun h' hit' hs₁ => ?_))
    have hs' := (hs₁.2 S (Ne.symm hIS)).trans hs
    have hb' : ∀ b o, base.get? b = some o → h'.get? b = some o := fun b o e => (hs₁.2 b (by rintro rfl; rw [hI] at e; cases e)).trans (hb b o e)
    have hl' : h'.IsList l vs.toArray := hl.at fun o e => (hs₁.2 l hlI).trans e
    show wpAny _ A.in1 (tryCatch (holding [vs[j + 1], vs[j + 1]] (richCompare .Gt vs[j + 1] vb >>= _)) _ >>= _) _ _ _
    refine wpAny_bind (wpAny_tryCatch (wpAny_holding (wpAny_bind (hc (j + 1) (argBest bt j) _ vb _ _ _ (by simp [hlt]) hv hb' ?_))))
    refine wpAny_bind (wpAny_holding (wpAny_truthy_bool ?_))
    refine wpAny_bind (wpAny_letGo (wpAny_pure ?_))
    cases hbt : bt (j + 1) (argBest bt j) with
    | true =>
      simp only [if_true]
      refine wpAny_bind ?_
      refine wpAny_updateSeq hs' rfl (wpAny_bind (wpAny_letGo ?_))
      rw [hname]
      refine wpAny_pure ⟨plainId_quiet F.plain_max_loop _, ih (j + 1) _ vs[j + 1] _ (by omega) hlt (fun b o e => (Heap.get?_update_other _ _ (fun q : S = b => by rw [← q, hS] at e; cases e)).trans (hb' b o e)) (hit'.at fun o e => (Heap.get?_update_other _ _ (Ne.symm hIS)).trans e)
        (hl'.at fun o e => (Heap.get?_update_other _ _ (Ne.symm hlS)).trans e) (by simp only [argBest, hbt, if_true]; simp [hlt]) (Heap.get?_update_self _ hs' rfl) fun v h'' tk hv' hk' => ?_⟩
      exact hR v h'' tk hv' fun b o h1 h2 e => hk' b o h1 h2 ((Heap.get?_update_other _ _ (Ne.symm h2)).trans ((hs₁.2 b h1).trans e))
    | false =>
      simp only [Bool.false_eq_true, if_false]
      refine wpAny_bind (wpAny_letGo ?_)
      rw [hname]
      refine wpAny_pure ⟨plainId_quiet F.plain_max_loop _, ih (j + 1) _ vb c (by omega) hlt hb' hit' hl' (by simp only [argBest, hbt, Bool.false_eq_true, if_false]; exact hv) hs' fun v h'' tk hv' hk' => ?_⟩
      exact hR v h'' tk hv' fun b o h1 h2 e => hk' b o h1 h2 ((hs₁.2 b h1).trans e)

theorem call_max_list {w : World} {A : Around} {E : Value → Shared → Prop} {s : Shared} {l : Addr} {vs : List Value} {bt : Nat → Nat → Bool} {Q : Value → Shared → Prop} (hh : A.in1.handled = none) (hc : CmpB w A.in1 .Gt s.heap vs bt) (hl : s.heap.IsList l vs.toArray) (hn : 0 < vs.length)
    (hQ : ∀ v h' tk, vs[argBest bt (vs.length - 1)]? = some v → (∀ b o, s.heap.get? b = some o → h'.get? b = some o) → Q v { s with heap := h', toks := tk }) : wpAny (model PG w) A (call (.builtin "max") [.ref l]) Q E s := by
  have hname : (toString "max" ++ toString ".loop" : String) = "max.loop" := by decide
  have hlt : l < s.heap.objs.size := by obtain ⟨o, ho, _⟩ := hl; exact Heap.lt_size ho
  refine call_function_tree F.kind_max F.plain_max F.entry_max (F.args_max1 _) ?_
  show wpAny _ A.in1 (Builtin.Builtins.bindParams "max" ["key", "default"] 0 ⟨[], []⟩ >>= _) _ _ s
  refine wpAny_bind (wpAny_of_eq (show Builtin.Builtins.bindParams "max" ["key", "default"] 0 ⟨[], []⟩ = pure [none, none] from rfl) ?_)
  refine wpAny_bind (wpAny_pure ?_)
  refine wpAny_bind (wpAny_pyIter_list hl ?_)
  refine wpAny_bind (wpAny_newObj_type ?_)
  rw [hname]
  have hz : (s.heap.push { cls := .type "list_iterator", data := .fields #[.ref l, .int 0 0] }).objs.size = s.heap.objs.size + 1 := Heap.size_push ..
  generalize hSa : (s.heap.push { cls := .type "list_iterator", data := .fields #[.ref l, .int 0 0] }).objs.size = S at *
  have hsS : (((s.heap.push { cls := .type "list_iterator", data := .fields #[.ref l, .int 0 0] }).push { cls := .type "list", data := .seq ([] : List Value).toArray }) : Heap).get? S = some { cls := .type "list", data := .seq ([] : List Value).toArray } := hSa ▸ Heap.get?_push_size _ rfl
  have hI0 : s.heap.get? s.heap.objs.size = none := none_of_size (Nat.le_refl _)
  have hS0 : s.heap.get? S = none := none_of_size (by rw [hz]; exact Nat.le_succ _)
  have hIS : s.heap.objs.size ≠ S := by rw [hz]; exact Nat.ne_of_lt (Nat.lt_succ_self _)
  have hlI : l ≠ s.heap.objs.size := Nat.ne_of_lt hlt
  have hlS : l ≠ S := by rw [hz]; exact Nat.ne_of_lt (Nat.lt_succ_of_lt hlt)
  have hk2 : ∀ b o, s.heap.get? b = some o → (((s.heap.push { cls := .type "list_iterator", data := .fields #[.ref l, .int 0 0] }).push { cls := .type "list", data := .seq ([] : List Value).toArray }) : Heap).get? b = some o := fun b o e => Heap.get?_push_of_some _ (Heap.get?_push_of_some _ e)
  refine wpAny_pure ⟨plainId_quiet F.plain_max_loop _, codeAny_builtin F.entry_max_loop ?_⟩
  rw [Around.under_plainId F.plain_max_loop _]
  show wpAny _ A.in1 (seqItems? (.ref S) >>= _) _ _ _
  refine wpAny_bind (wpAny_seqItems hsS rfl ?_)
  show wpAny _ A.in1 (tryCatch (pyNext (.ref s.heap.objs.size)) _ >>= _) _ _ _
  refine wpAny_bind (wpAny_tryCatch (wpAny_pyNext_list_item (l := l) (i := 0) (items := vs.toArray) (x := vs[0]) ⟨_, Heap.get?_push_of_some _ (Heap.get?_push_size _ rfl), rfl, rfl⟩ (hl.at fun o e => hk2 l o e) (by simp) fun h' hit' hs₁ => ?_))
  have hs' := (hs₁.2 S (Ne.symm hIS)).trans hsS
  show wpAny _ A.in1 (updateSeq S (fun _ => #[vs[0], vs[0]]) >>= _) _ _ _
  refine wpAny_bind ?_
  refine wpAny_updateSeq hs' rfl ?_
  rw [hname]
  have hb' : ∀ b o, s.heap.get? b = some o → h'.get? b = some o := fun b o e => (hs₁.2 b (Nat.ne_of_lt (Heap.lt_size e))).trans (hk2 b o e)
  refine wpAny_pure ⟨plainId_quiet F.plain_max_loop _, max_loop (base := s.heap) hh hc hI0 hS0 hIS hlI hlS _ 0 _ vs[0] _ rfl hn (fun b o e => (Heap.get?_update_other _ _ (fun q : S = b => by rw [← q, hS0] at e; cases e)).trans (hb' b o e)) (hit'.at fun o e => (Heap.get?_update_other _ _ (Ne.symm hIS)).trans e)
    ((hl.at fun o e => hb' l o e).at fun o e => (Heap.get?_update_other _ _ (Ne.symm hlS)).trans e) (by simp [argBest]) (Heap.get?_update_self _ hs' rfl) fun v h'' tk hv' hk' => ?_⟩
  exact hQ v h'' tk hv' fun b o e => hk' b o (Nat.ne_of_lt (Heap.lt_size e)) (fun q => by rw [q, hS0] at e; cases e) ((Heap.get?_update_other _ _ (fun q : S = b => by rw [← q, hS0] at e; cases e)).trans (hb' b o e))
end Mine
end
section
open PySem PySem.W PyProof.Rows PySem.Calls
open Sem (wp)
set_option maxRecDepth 100000
set_option maxHeartbeats 4000000
set_option linter.unusedVariables false
namespace Mine
/-- lists of ints in order -/
def lexLt : List Int → List Int → Bool
  | [], [] => false
  | [], _ :: _ => true
  | _ :: _, [] => false
  | a :: x, b :: y => if a = b then lexLt x y else decide (a < b)
theorem intsAre_at {vs : List Value} {ns : List Int} (h : IntsAre vs ns) {i : Nat} {n : Int} (hn : ns[i]? = some n) : ∃ t, vs[i]? = some (.int n t) := by
  have hi : i < vs.length := by rw [h.length]; exact (List.getElem?_eq_some_iff.mp hn).1
  obtain ⟨n', t, h1, h2⟩ := intsAre_get h i vs[i] (by simp [hi])
  rw [hn] at h1; cases h1
  exact ⟨t, by rw [← h2]; simp [hi]⟩
theorem items_at {prog : Program} {w : World} {A : Around} {E : Value → Shared → Prop} {s : Shared} {l : Addr} {vs : List Value} {Q : Array Value → Shared → Prop} (hl : s.heap.IsList l vs.toArray) (h : Q vs.toArray s) : wpAny (model prog w) A (Builtin.List.listItems (.ref l)) Q E s := by
  obtain ⟨o, ho, hc, n, hd⟩ := hl
  unfold Builtin.List.listItems
  refine wpAny_bind (wpAny_seqItems ho hd ?_)
  exact wpAny_pure h

theorem list_lt_loop {prog : Program} {w : World} {A : Around} {R : Result → Shared → Prop} {s : Shared} {a b : Addr} {xs ys : List Value} (hx : s.heap.IsList a xs.toArray) (hy : s.heap.IsList b ys.toArray) (hlen : xs.length = ys.length) : ∀ (ns ms : List Int) (i : Nat), IntsAre (xs.drop i) ns → IntsAre (ys.drop i) ms → R (.ok (.ret (.bool (lexLt ns ms)))) s →
    codeAny (model prog w) A (.builtin "list.__eq__.loop" ⟨[.ref a, .ref b, rawInt i, rawInt 0], []⟩) R s := by
  intro ns
  induction ns with
  | nil =>
    intro ms i hn hm hR
    refine codeAny_builtin MeetsSeq3.entry_eq_loop ?_
    rw [Around.under_plainId MeetsSeq3.plain_eq_loop _]
    show wpAny _ A.in1 (Builtin.List.listItems (.ref a) >>= _) _ _ s
    refine wpAny_bind (items_at hx ?_)
    refine wpAny_bind (items_at hy ?_)
    have hxi : xs.length ≤ i := by have := hn.length; simp at this; omega
    have hms : ms = [] := by have := hm.length; simp at this; exact List.length_eq_zero_iff.mp (by omega)
    subst hms
    have e1 : xs.toArray[((i : Nat) : Int).toNat]? = none := by simp; omega
    rw [e1]
    dsimp only
    refine wpAny_bind (items_at hx ?_)
    refine wpAny_bind (items_at hy (wpAny_pure ?_))
    show R (.ok (.ret (.bool (decide (xs.toArray.size < ys.toArray.size))))) s
    rw [List.size_toArray, List.size_toArray, hlen, decide_eq_false (Nat.lt_irrefl _)]
    exact hR
  | cons n ns ih =>
    intro ms i hn hm hR
    have hxi : i < xs.length := by have := hn.length; simp at this; omega
    obtain ⟨m, ms, rfl⟩ : ∃ m r, ms = m :: r := by
      cases ms with
      | nil => have := hm.length; simp at this; omega
      | cons m r => exact ⟨m, r, rfl⟩
    have hxd : xs.drop i = xs[i] :: xs.drop (i + 1) := List.drop_eq_getElem_cons hxi
    have hyd : ys.drop i = ys[i] :: ys.drop (i + 1) := List.drop_eq_getElem_cons (by omega)
    rw [hxd] at hn
    rw [hyd] at hm
    obtain ⟨t, e1, hn'⟩ : ∃ t, xs[i] = .int n t ∧ IntsAre (xs.drop (i + 1)) ns := by
      generalize xs[i] = v at hn
      cases hn with | cons _ t h => exact ⟨t, rfl, h⟩
    obtain ⟨u, e2, hm'⟩ : ∃ t, ys[i] = .int m t ∧ IntsAre (ys.drop (i + 1)) ms := by
      generalize ys[i] = v at hm
      cases hm with | cons _ t h => exact ⟨t, rfl, h⟩
    have f1 : xs.toArray[((i : Nat) : Int).toNat]? = some (.int n t) := by rw [← e1]; simp [hxi]
    have f2 : ys.toArray[((i : Nat) : Int).toNat]? = some (.int m u) := by rw [← e2]; simp [show i < ys.length by omega]
    refine codeAny_builtin MeetsSeq3.entry_eq_loop ?_
    rw [Around.under_plainId MeetsSeq3.plain_eq_loop _]
    show wpAny _ A.in1 (Builtin.List.listItems (.ref a) >>= _) _ _ s
    refine wpAny_bind (items_at hx ?_)
    refine wpAny_bind (items_at hy ?_)
    rw [f1, f2]
    dsimp only
    refine wpAny_bind (wpAny_eqBool_int ?_)
    by_cases hnm : n = m
    · subst hnm
      rw [show (n == n) = true by simp]
      simp only [if_true]
      have hR' : R (.ok (.ret (.bool (lexLt ns ms)))) s := by simpa [lexLt] using hR
      rw [show ((i : Nat) : Int) + 1 = ((i + 1 : Nat) : Int) by push_cast; rfl]
      first
        | exact wpAny_pure ⟨plainId_quiet MeetsSeq3.plain_eq_loop _, ih ms (i + 1) hn' hm' hR'⟩
        | exact wpAny_bind (wpAny_pure (wpAny_pure ⟨plainId_quiet MeetsSeq3.plain_eq_loop _, ih ms (i + 1) hn' hm' hR'⟩))
    · rw [show (n == m) = false by simp [hnm]]
      simp only [Bool.false_eq_true, if_false]
      refine wpAny_bind (items_at hx ?_)
      refine wpAny_bind (items_at hy ?_)
      rw [f1, f2]
      dsimp only
      refine wpAny_bind ?_
      refine PyProof.Rows.lt_int (wpAny_pure ?_)
      have hR' : R (.ok (.ret (.bool (decide (n < m))))) s := by
        have e : lexLt (n :: ns) (m :: ms) = decide (n < m) := by simp only [lexLt]; rw [if_neg hnm]
        rw [e] at hR
        exact hR
      exact hR'

theorem list_gt_loop {prog : Program} {w : World} {A : Around} {R : Result → Shared → Prop} {s : Shared} {a b : Addr} {xs ys : List Value} (hx : s.heap.IsList a xs.toArray) (hy : s.heap.IsList b ys.toArray) (hlen : xs.length = ys.length) : ∀ (ns ms : List Int) (i : Nat), IntsAre (xs.drop i) ns → IntsAre (ys.drop i) ms → R (.ok (.ret (.bool (lexLt ms ns)))) s →
    codeAny (model prog w) A (.builtin "list.__eq__.loop" ⟨[.ref a, .ref b, rawInt i, rawInt 4], []⟩) R s := by
  intro ns
  induction ns with
  | nil =>
    intro ms i hn hm hR
    refine codeAny_builtin MeetsSeq3.entry_eq_loop ?_
    rw [Around.under_plainId MeetsSeq3.plain_eq_loop _]
    show wpAny _ A.in1 (Builtin.List.listItems (.ref a) >>= _) _ _ s
    refine wpAny_bind (items_at hx ?_)
    refine wpAny_bind (items_at hy ?_)
    have hxi : xs.length ≤ i := by have := hn.length; simp at this; omega
    have hms : ms = [] := by have := hm.length; simp at this; exact List.length_eq_zero_iff.mp (by omega)
    subst hms
    have e1 : xs.toArray[((i : Nat) : Int).toNat]? = none := by simp; omega
    rw [e1]
    dsimp only
    refine wpAny_bind (items_at hx ?_)
    refine wpAny_bind (items_at hy (wpAny_pure ?_))
    show R (.ok (.ret (.bool (decide (ys.toArray.size < xs.toArray.size))))) s
    rw [List.size_toArray, List.size_toArray, hlen, decide_eq_false (Nat.lt_irrefl _)]
    exact hR
  | cons n ns ih =>
    intro ms i hn hm hR
    have hxi : i < xs.length := by have := hn.length; simp at this; omega
    obtain ⟨m, ms, rfl⟩ : ∃ m r, ms = m :: r := by
      cases ms with
      | nil => have := hm.length; simp at this; omega
      | cons m r => exact ⟨m, r, rfl⟩
    have hxd : xs.drop i = xs[i] :: xs.drop (i + 1) := List.drop_eq_getElem_cons hxi
    have hyd : ys.drop i = ys[i] :: ys.drop (i + 1) := List.drop_eq_getElem_cons (by omega)
    rw [hxd] at hn
    rw [hyd] at hm
    obtain ⟨t, e1, hn'⟩ : ∃ t, xs[i] = .int n t ∧ IntsAre (xs.drop (i + 1)) ns := by
      generalize xs[i] = v at hn
      cases hn with | cons _ t h => exact ⟨t, rfl, h⟩
    obtain ⟨u, e2, hm'⟩ : ∃ t, ys[i] = .int m t ∧ IntsAre (ys.drop (i + 1)) ms := by
      generalize ys[i] = v at hm
      cases hm with | cons _ t h => exact ⟨t, rfl, h⟩
    have f1 : xs.toArray[((i : Nat) : Int).toNat]? = some (.int n t) := by rw [← e1]; simp [hxi]
    have f2 : ys.toArray[((i : Nat) : Int).toNat]? = some (.int m u) := by rw [← e2]; simp [show i < ys.length by omega]
    refine codeAny_builtin MeetsSeq3.entry_eq_loop ?_
    rw [Around.under_plainId MeetsSeq3.plain_eq_loop _]
    show wpAny _ A.in1 (Builtin.List.listItems (.ref a) >>= _) _ _ s
    refine wpAny_bind (items_at hx ?_)
    refine wpAny_bind (items_at hy ?_)
    rw [f1, f2]
    dsimp only
    refine wpAny_bind (wpAny_eqBool_int ?_)
    by_cases hnm : n = m
    · subst hnm
      rw [show (n == n) = true by simp]
      simp only [if_true]
      have hR' : R (.ok (.ret (.bool (lexLt ms ns)))) s := by simpa [lexLt] using hR
      rw [show ((i : Nat) : Int) + 1 = ((i + 1 : Nat) : Int) by push_cast; rfl]
      first
        | exact wpAny_pure ⟨plainId_quiet MeetsSeq3.plain_eq_loop _, ih ms (i + 1) hn' hm' hR'⟩
        | exact wpAny_bind (wpAny_pure (wpAny_pure ⟨plainId_quiet MeetsSeq3.plain_eq_loop _, ih ms (i + 1) hn' hm' hR'⟩))
    · rw [show (n == m) = false by simp [hnm]]
      simp only [Bool.false_eq_true, if_false]
      refine wpAny_bind (items_at hx ?_)
      refine wpAny_bind (items_at hy ?_)
      rw [f1, f2]
      dsimp only
      refine wpAny_bind ?_
      refine PyProof.Rows.gt_int (wpAny_pure ?_)
      have hR' : R (.ok (.ret (.bool (decide (m < n))))) s := by
        have e : lexLt (m :: ms) (n :: ns) = decide (m < n) := by simp only [lexLt]; rw [if_neg (Ne.symm hnm)]
        rw [e] at hR
        exact hR
      exact hR'

theorem meets_list_lt {xs ys : List Value} {ns ms : List Int} (a b : Addr) (hlen : xs.length = ys.length) (hn : IntsAre xs ns) (hm : IntsAre ys ms) :
    Meets (Builtin.«list.__lt__» ⟨[.ref a, .ref b], []⟩) (fun A R s => s.heap.IsList a xs.toArray ∧ s.heap.IsList b ys.toArray ∧ R (.ok (.ret (.bool (lexLt ns ms)))) s) := by
  intro prog w A R s h
  obtain ⟨hx, hy, hR⟩ := h
  show wpAny _ A.in1 (isInstance (.ref b) (.type "list") >>= _) _ _ s
  refine wpAny_bind (wpAny_isInstance (T := "list") hy.typeIs F.bm_sub_list ?_)
  refine wpAny_pure ⟨plainId_quiet MeetsSeq3.plain_eq_loop _, ?_⟩
  exact list_lt_loop hx hy hlen ns ms 0 (by simpa using hn) (by simpa using hm) hR
theorem meets_list_gt {xs ys : List Value} {ns ms : List Int} (a b : Addr) (hlen : xs.length = ys.length) (hn : IntsAre xs ns) (hm : IntsAre ys ms) :
    Meets (Builtin.«list.__gt__» ⟨[.ref a, .ref b], []⟩) (fun A R s => s.heap.IsList a xs.toArray ∧ s.heap.IsList b ys.toArray ∧ R (.ok (.ret (.bool (lexLt ms ns)))) s) := by
  intro prog w A R s h
  obtain ⟨hx, hy, hR⟩ := h
  show wpAny _ A.in1 (isInstance (.ref b) (.type "list") >>= _) _ _ s
  refine wpAny_bind (wpAny_isInstance (T := "list") hy.typeIs F.bm_sub_list ?_)
  refine wpAny_pure ⟨plainId_quiet MeetsSeq3.plain_eq_loop _, ?_⟩
  exact list_gt_loop hx hy hlen ns ms 0 (by simpa using hn) (by simpa using hm) hR
theorem list_lt {prog : Program} {w : World} {A : Around} {E : Value → Shared → Prop} {s : Shared} {a b : Addr} {xs ys : List Value} {ns ms : List Int} {Q : Value → Shared → Prop} (hu : A.units < cLine) (hx : s.heap.IsList a xs.toArray) (hy : s.heap.IsList b ys.toArray) (hlen : xs.length = ys.length) (hn : IntsAre xs ns) (hm : IntsAre ys ms)
    (h : Q (.bool (lexLt ns ms)) s) : wpAny (model prog w) A (richCompare .Lt (.ref a) (.ref b)) Q E s :=
  richCompare_meets_room (op := .Lt) hx.typeIs hy.typeIs F.slot_list_lt F.entry_list_lt (F.args_list_lt_2 _ _) (meets_list_lt a b hlen hn hm) ⟨hx, hy, (fun x => nomatch x), h⟩ hu
theorem list_gt {prog : Program} {w : World} {A : Around} {E : Value → Shared → Prop} {s : Shared} {a b : Addr} {xs ys : List Value} {ns ms : List Int} {Q : Value → Shared → Prop} (hu : A.units < cLine) (hx : s.heap.IsList a xs.toArray) (hy : s.heap.IsList b ys.toArray) (hlen : xs.length = ys.length) (hn : IntsAre xs ns) (hm : IntsAre ys ms)
    (h : Q (.bool (lexLt ms ns)) s) : wpAny (model prog w) A (richCompare .Gt (.ref a) (.ref b)) Q E s :=
  richCompare_meets_room (op := .Gt) hx.typeIs hy.typeIs F.slot_list_gt F.entry_list_gt (F.args_list_gt_2 _ _) (meets_list_gt a b hlen hn hm) ⟨hx, hy, (fun x => nomatch x), h⟩ hu
end Mine
end
section
open PySem PySem.W PyProof.Rows PySem.Calls
open Sem (wp)
open PySem.SeqAt
set_option maxRecDepth 100000
set_option maxHeartbeats 4000000
set_option linter.unusedVariables false
namespace Mine
theorem all_eq : ∀ {ns ms : List Int}, ns.length = ms.length → ((List.range ns.length).all fun j => ns.getD j 0 == ms.getD j 0) = decide (ns = ms) := by
  intro ns ms h
  rw [Bool.eq_iff_iff, List.all_eq_true, decide_eq_true_iff]
  constructor
  · intro hall
    refine List.ext_getElem h fun j h1 h2 => ?_
    have := hall j (List.mem_range.mpr h1)
    simpa [List.getD, h1, h2] using this
  · rintro rfl j _
    simp
theorem lists_eqAt {A : Around} {s : Shared} {a b : Addr} {xs ys : List Value} {ns ms : List Int} (hne : a ≠ b) (hu : A.units < cLine) (hx : s.heap.IsList a xs.toArray) (hy : s.heap.IsList b ys.toArray) (hlen : xs.length = ys.length) (hn : IntsAre xs ns) (hm : IntsAre ys ms) : EqAt A s (.ref a) (.ref b) (decide (ns = ms)) := by
  refine EqAt.of_refs hne ?_
  have h1 : xs.length = ns.length := hn.length
  have h2 : ys.length = ms.length := hm.length
  have key : RcAt A s (.ref a) (.ref b) ((List.range xs.toArray.size).all fun j => ns.getD j 0 == ms.getD j 0) := by
    refine RcAt.lists hx hy (by simp [hlen]) hu fun j g1 g2 => ?_
    have g1' : j < xs.length := by simpa using g1
    have g2' : j < ys.length := by simpa using g2
    obtain ⟨n, t, e1, e2⟩ := intsAre_get hn j xs[j] (by simp [g1'])
    obtain ⟨m, u, e3, e4⟩ := intsAre_get hm j ys[j] (by simp [g2'])
    have : EqAt A.in1 s (.int n t) (.int m u) (n == m) := (PySem.MeetsSeq.EqGives.int n m t u).at _ _
    simpa [e2, e4, List.getD, e1, e3] using this
  rw [List.size_toArray, h1, all_eq (by omega)] at key
  exact key
/-- a choice's tuple in the heap: its sum, its places -/
structure TripAt (h : Heap) (v : Value) (q : Int × List Int) (r : Rec) : Prop where
  val : v = .ref r.T
  tup : ∃ o, h.get? r.T = some o ∧ aTup r o
  sum : r.sum = q.1
  pl : h.IsList r.P r.yp.toArray
  isi : IntsAre r.yp q.2
def tripLt (a b : Int × List Int) : Bool := if a.1 = b.1 then lexLt a.2 b.2 else decide (a.1 < b.1)
theorem lexLt_irrefl : ∀ a : List Int, lexLt a a = false
  | [] => rfl
  | a :: r => by simp [lexLt, lexLt_irrefl r]
theorem eqSame {A : Around} {s : Shared} (v : Value) : EqAt A s v v true := EqAt.same v

theorem intsAre_fun : ∀ {vs : List Value} {ns ms : List Int}, IntsAre vs ns → IntsAre vs ms → ns = ms
  | _, _, _, .nil, .nil => rfl
  | _, _, _, .cons n t h, .cons _ _ h' => by rw [intsAre_fun h h']

theorem trip_lt_tree {prog : Program} {w : World} {A : Around} {E : Value → Shared → Prop} {s : Shared} {x y : Value} {p q : Int × List Int} {r r' : Rec} {Pf : Fin → Shared → Prop} (hu : A.units < cLine) (hx : TripAt s.heap x p r) (hy : TripAt s.heap y q r') (hlen : r.yp.length = r'.yp.length) (hd : (r = r') ∨ (r.P ≠ r'.P ∧ p.2 ≠ q.2)) (h : Pf (.done (.ret (.bool (tripLt p q)))) s) :
    wpAny (model prog w) A (Builtin.«tuple.__lt__» ⟨[x, y], []⟩) Pf E s := by
  obtain ⟨rfl, ⟨oa, hoa, n1, rfl⟩, hs1, hl1, hi1⟩ := hx
  obtain ⟨rfl, ⟨ob, hob, n2, rfl⟩, hs2, hl2, hi2⟩ := hy
  show wpAny _ _ (isInstance (.ref r'.T) (.type "tuple") >>= _) _ _ s
  refine wpAny_bind (wpAny_isInstance (T := "tuple") ⟨_, hob, rfl⟩ isSubtype_tuple_tuple ?_)
  simp only [Bool.not_true, Bool.false_eq_true, if_false]
  refine wpAny_bind (wpAny_tupleItemsOf hoa rfl ?_)
  refine wpAny_bind (wpAny_tupleItemsOf hob rfl ?_)
  refine wpAny_bind ?_
  simp only [List.zip_cons_cons, List.zip_nil_left, List.forIn_cons, List.forIn_nil]
  refine wpAny_bind (wpAny_bind (wpAny_eqBool_int ?_))
  rw [hs1, hs2]
  by_cases h1 : p.1 = q.1
  · have e1 : (p.1 == q.1) = true := by simp [h1]
    rw [e1]
    simp only [Bool.not_true, Bool.false_eq_true, if_false]
    rcases hd with rfl | ⟨hP, hpq⟩
    · have hpq : p.2 = q.2 := intsAre_fun hi1 hi2
      refine wpAny_pure (wpAny_bind (wpAny_bind (eqSame _ prog w _ _ ?_)))
      simp only [Bool.not_true, Bool.false_eq_true, if_false]
      refine wpAny_pure (wpAny_bind (wpAny_bind (eqSame _ prog w _ _ ?_)))
      simp only [Bool.not_true, Bool.false_eq_true, if_false]
      refine wpAny_pure (wpAny_pure ?_)
      have : tripLt p q = false := by simp [tripLt, h1, hpq, lexLt_irrefl]
      rw [this] at h
      exact wpAny_pure h
    · refine wpAny_pure (wpAny_bind (wpAny_bind (lists_eqAt hP hu hl1 hl2 hlen hi1 hi2 prog w _ _ ?_)))
      rw [decide_eq_false hpq]
      simp only [Bool.not_false, if_true]
      have : tripLt p q = lexLt p.2 q.2 := by simp [tripLt, h1]
      rw [this] at h
      exact wpAny_bind (wpAny_rule (wpAny_bind (list_lt hu hl1 hl2 hlen hi1 hi2 (wpAny_pure (wpAny_pure (wpAny_pure h))))))
  · have e1 : (p.1 == q.1) = false := by simp [h1]
    rw [e1]
    simp only [Bool.not_false, if_true]
    have : tripLt p q = decide (p.1 < q.1) := by simp [tripLt, h1]
    rw [this] at h
    exact wpAny_bind (wpAny_rule (wpAny_bind (PyProof.Rows.lt_int (wpAny_pure (wpAny_pure (wpAny_pure h))))))
theorem trip_lt {prog : Program} {w : World} {A : Around} {E : Value → Shared → Prop} {s : Shared} {x y : Value} {p q : Int × List Int} {r r' : Rec} {Q : Value → Shared → Prop} (hu : A.units < cLine) (hu1 : A.in1.units < cLine) (hx : TripAt s.heap x p r) (hy : TripAt s.heap y q r') (hlen : r.yp.length = r'.yp.length) (hd : (r = r') ∨ (r.P ≠ r'.P ∧ p.2 ≠ q.2)) (h : Q (.bool (tripLt p q)) s) :
    wpAny (model prog w) A (richCompare .Lt x y) Q E s := by
  have tx : s.TypeIs x "tuple" := by obtain ⟨rfl, ⟨oa, hoa, n1, rfl⟩, _, _, _⟩ := hx; exact ⟨_, hoa, rfl⟩
  have ty : s.TypeIs y "tuple" := by obtain ⟨rfl, ⟨oa, hoa, n1, rfl⟩, _, _, _⟩ := hy; exact ⟨_, hoa, rfl⟩
  exact wpAny_richCompare_same_or (op := .Lt) (T := "tuple") tx ty F.slot_tuple_lt
      (wpAny_call_entry F.slot_tuple_lt tx F.entry_tuple_lt (trip_lt_tree hu1 hx hy hlen hd ⟨_, rfl, (fun e => nomatch e), h⟩) (F.args_tuple_lt_2 _ _)) (.inr hu)

theorem trip_gt_tree {prog : Program} {w : World} {A : Around} {E : Value → Shared → Prop} {s : Shared} {x y : Value} {p q : Int × List Int} {r r' : Rec} {Pf : Fin → Shared → Prop} (hu : A.units < cLine) (hx : TripAt s.heap x p r) (hy : TripAt s.heap y q r') (hlen : r.yp.length = r'.yp.length) (hd : (r = r') ∨ (r.P ≠ r'.P ∧ p.2 ≠ q.2)) (h : Pf (.done (.ret (.bool (tripLt q p)))) s) :
    wpAny (model prog w) A (Builtin.«tuple.__gt__» ⟨[x, y], []⟩) Pf E s := by
  obtain ⟨rfl, ⟨oa, hoa, n1, rfl⟩, hs1, hl1, hi1⟩ := hx
  obtain ⟨rfl, ⟨ob, hob, n2, rfl⟩, hs2, hl2, hi2⟩ := hy
  show wpAny _ _ (isInstance (.ref r'.T) (.type "tuple") >>= _) _ _ s
  refine wpAny_bind (wpAny_isInstance (T := "tuple") ⟨_, hob, rfl⟩ isSubtype_tuple_tuple ?_)
  simp only [Bool.not_true, Bool.false_eq_true, if_false]
  refine wpAny_bind (wpAny_tupleItemsOf hoa rfl ?_)
  refine wpAny_bind (wpAny_tupleItemsOf hob rfl ?_)
  refine wpAny_bind ?_
  simp only [List.zip_cons_cons, List.zip_nil_left, List.forIn_cons, List.forIn_nil]
  refine wpAny_bind (wpAny_bind (wpAny_eqBool_int ?_))
  rw [hs1, hs2]
  by_cases h1 : p.1 = q.1
  · have e1 : (p.1 == q.1) = true := by simp [h1]
    rw [e1]
    simp only [Bool.not_true, Bool.false_eq_true, if_false]
    rcases hd with rfl | ⟨hP, hpq⟩
    · have hpq : p.2 = q.2 := intsAre_fun hi1 hi2
      refine wpAny_pure (wpAny_bind (wpAny_bind (eqSame _ prog w _ _ ?_)))
      simp only [Bool.not_true, Bool.false_eq_true, if_false]
      refine wpAny_pure (wpAny_bind (wpAny_bind (eqSame _ prog w _ _ ?_)))
      simp only [Bool.not_true, Bool.false_eq_true, if_false]
      refine wpAny_pure (wpAny_pure ?_)
      have : tripLt q p = false := by simp [tripLt, h1, hpq, lexLt_irrefl]
      rw [this] at h
      exact wpAny_pure h
    · refine wpAny_pure (wpAny_bind (wpAny_bind (lists_eqAt hP hu hl1 hl2 hlen hi1 hi2 prog w _ _ ?_)))
      rw [decide_eq_false hpq]
      simp only [Bool.not_false, if_true]
      have : tripLt q p = lexLt q.2 p.2 := by simp [tripLt, h1]
      rw [this] at h
      exact wpAny_bind (wpAny_rule (wpAny_bind (list_gt hu hl1 hl2 hlen hi1 hi2 (wpAny_pure (wpAny_pure (wpAny_pure h))))))
  · have e1 : (p.1 == q.1) = false := by simp [h1]
    rw [e1]
    simp only [Bool.not_false, if_true]
    have : tripLt q p = decide (q.1 < p.1) := by simp [tripLt, Ne.symm h1]
    rw [this] at h
    exact wpAny_bind (wpAny_rule (wpAny_bind (PyProof.Rows.gt_int (wpAny_pure (wpAny_pure (wpAny_pure h))))))
theorem trip_gt {prog : Program} {w : World} {A : Around} {E : Value → Shared → Prop} {s : Shared} {x y : Value} {p q : Int × List Int} {r r' : Rec} {Q : Value → Shared → Prop} (hu : A.units < cLine) (hu1 : A.in1.units < cLine) (hx : TripAt s.heap x p r) (hy : TripAt s.heap y q r') (hlen : r.yp.length = r'.yp.length) (hd : (r = r') ∨ (r.P ≠ r'.P ∧ p.2 ≠ q.2)) (h : Q (.bool (tripLt q p)) s) :
    wpAny (model prog w) A (richCompare .Gt x y) Q E s := by
  have tx : s.TypeIs x "tuple" := by obtain ⟨rfl, ⟨oa, hoa, n1, rfl⟩, _, _, _⟩ := hx; exact ⟨_, hoa, rfl⟩
  have ty : s.TypeIs y "tuple" := by obtain ⟨rfl, ⟨oa, hoa, n1, rfl⟩, _, _, _⟩ := hy; exact ⟨_, hoa, rfl⟩
  exact wpAny_richCompare_same_or (op := .Gt) (T := "tuple") tx ty F.slot_tuple_gt
      (wpAny_call_entry F.slot_tuple_gt tx F.entry_tuple_gt (trip_gt_tree hu1 hx hy hlen hd ⟨_, rfl, (fun e => nomatch e), h⟩) (F.args_tuple_gt_2 _ _)) (.inr hu)
end Mine
end
section
open PySem PySem.W PyProof.Rows PySem.Calls
open Sem (wp)
open PySem.SeqAt
set_option maxRecDepth 100000
set_option maxHeartbeats 4000000
set_option linter.unusedVariables false
namespace Mine
theorem bytes_eqAt {A : Around} {s : Shared} (b : Array UInt8) (t u : Tok) : EqAt A s (.bytes b t) (.bytes b u) true := fun prog w E Q h => by
  unfold eqBool
  show wpAny _ _ (if (Value.bytes b t == Value.bytes b u) = true then _ else _) Q E s
  by_cases hab : (Value.bytes b t == Value.bytes b u) = true
  · rw [if_pos hab]
    exact wpAny_bind (wpAny_rule (wpAny_pure h))
  · rw [if_neg hab]
    refine wpAny_bind (m := richCompare .Eq _ _) ?_
    refine PySem.W.eq_bytes ?_
    rw [show (b.toList == b.toList) = true by simp]
    exact wpAny_truthy_bool h
theorem bytesA_eq {A : Around} {s : Shared} {xs ys : List Value} {bs : List (List UInt8)} (hx : BytesA xs bs) (hy : BytesA ys bs) : ∀ j (h1 : j < xs.toArray.size) (h2 : j < ys.toArray.size), EqAt A s xs.toArray[j] ys.toArray[j] true := by
  intro j h1 h2
  have g1 : j < xs.length := by simpa using h1
  have g2 : j < ys.length := by simpa using h2
  obtain ⟨t, e1⟩ := hx.2 j xs[j] (by simp [g1])
  obtain ⟨u, e2⟩ := hy.2 j ys[j] (by simp [g2])
  have := bytes_eqAt (A := A) (s := s) (bs.getD j []).toArray t u
  simpa [e1, e2] using this
theorem lists_same_eq {prog : Program} {w : World} {A : Around} {E : Value → Shared → Prop} {s : Shared} {a b : Addr} {xs ys : List Value} {bs : List (List UInt8)} {Q : Value → Shared → Prop} (hu : A.units < cLine) (ha : s.heap.IsList a xs.toArray) (hb : s.heap.IsList b ys.toArray) (hx : BytesA xs bs) (hy : BytesA ys bs) (h : Q (.bool true) s) :
    wpAny (model prog w) A (compareOp .Eq (.ref a) (.ref b)) Q E s := by
  have hsz : xs.toArray.size = ys.toArray.size := by simp [hx.1, hy.1]
  refine eq_listAt (e := fun _ => true) ha hb hsz hu (bytesA_eq hx hy) ?_
  rw [show ((List.range xs.toArray.size).all fun _ => true) = true by simp]
  exact h
theorem lists_same_ne {prog : Program} {w : World} {A : Around} {E : Value → Shared → Prop} {s : Shared} {a b : Addr} {xs ys : List Value} {bs : List (List UInt8)} {Q : Value → Shared → Prop} (hu : A.units < cLine) (ha : s.heap.IsList a xs.toArray) (hb : s.heap.IsList b ys.toArray) (hx : BytesA xs bs) (hy : BytesA ys bs) (h : Q (.bool false) s) :
    wpAny (model prog w) A (compareOp .NotEq (.ref a) (.ref b)) Q E s := by
  have hsz : xs.toArray.size = ys.toArray.size := by simp [hx.1, hy.1]
  obtain ⟨⟨cls, dd, data, sl⟩, ho, hc, n, hd⟩ := id ha
  obtain ⟨⟨cls2, dd2, data2, sl2⟩, ho2, hc2, n2, hd2⟩ := id hb
  simp only at hc hd hc2 hd2
  subst hc hd hc2 hd2
  refine richCompare_meets_room (op := .NotEq) ⟨_, ho, rfl⟩ ⟨_, ho2, rfl⟩ F.slot_list_ne F.entry_list_ne (F.args_list_ne_2 _ _) (list_neAt a b xs.toArray ys.toArray n n2 dd dd2 sl sl2 hsz (fun _ => true))
    ⟨ho, ho2, bytesA_eq hx hy, ?_⟩ hu
  rw [show (!(List.range xs.toArray.size).all fun _ => true) = false by simp]
  exact ⟨(fun x => nomatch x), h⟩
end Mine
end
section
open PySem PySem.W PyProof.Rows PySem.Calls
open Sem (wp)
open PySem.SeqAt
set_option maxRecDepth 100000
set_option maxHeartbeats 4000000
set_option linter.unusedVariables false
namespace Mine
section
variable {b₀ : Heap} {s₀ s s' : Shared} {W : List Addr} {L : Addr} {m m' : Str → Option Value} {led led' : Ledger}
theorem In.rebase (x : In b₀ s₀ W L m led s) : In b₀ s [] L m led s := ⟨⟨_, _, rfl⟩, fun _ _ _ _ e => e, x.base, fun b o e => ⟨o, e⟩, x.ns, x.own, x.new, x.apart, x.newL⟩
theorem In.join (x : In b₀ s₀ [] L m led s) (y : In b₀ s [] L m' led' s') : In b₀ s₀ [] L m' led' s' := by
  refine ⟨?_, fun b o hb hL e => y.keep b o hb hL (x.keep b o hb hL e), y.base, fun b o e => let ⟨o', e'⟩ := x.live b o e; y.live b o' e', y.ns, y.own, y.new, y.apart, y.newL⟩
  obtain ⟨h, tk, rfl⟩ := x.same
  obtain ⟨h', tk', rfl⟩ := y.same
  exact ⟨h', tk', rfl⟩
theorem In.notL (x : In b₀ s₀ W L m led s) {a : Addr} {o : Obj} (ho : s.heap.get? a = some o) (hd : ∃ v n, o.data = .seq v n) : a ≠ L := by
  rintro rfl
  obtain ⟨o', es, ep, ho', h1, h2⟩ := x.ns
  obtain ⟨v, n, hd⟩ := hd
  rw [ho] at ho'
  cases ho'
  rw [hd] at h1; cases h1
end

/-! ## the rows of the choices -/
def rowIdx (k c : Nat) : List Nat := (List.range (2 ^ k)).filter fun j => (placesOf k j).length == c
def keyOf (ns : List Int) (wd j : Nat) : Int × List Int := (sumOf ns wd j, (placesOf ns.length j).map fun q : Nat => (q : Int))
def btMin (ns : List Int) (wd : Nat) (idx : List Nat) (i j : Nat) : Bool := tripLt (keyOf ns wd (idx.getD i 0)) (keyOf ns wd (idx.getD j 0))
def btMax (ns : List Int) (wd : Nat) (idx : List Nat) (i j : Nat) : Bool := tripLt (keyOf ns wd (idx.getD j 0)) (keyOf ns wd (idx.getD i 0))
def minMask (ns : List Int) (wd c : Nat) : Nat := (rowIdx ns.length c).getD (argBest (btMin ns wd (rowIdx ns.length c)) ((rowIdx ns.length c).length - 1)) 0
def maxMask (ns : List Int) (wd c : Nat) : Nat := (rowIdx ns.length c).getD (argBest (btMax ns wd (rowIdx ns.length c)) ((rowIdx ns.length c).length - 1)) 0
theorem zip_snd {α : Type} (q : Nat → Bool) : ∀ (l : List α) (o : Nat), ((l.zipIdx o).filter fun x => q x.2).map (·.2) = (List.range' o l.length).filter q
  | [], o => rfl
  | a :: r, o => by
    rw [List.zipIdx_cons, List.length_cons, List.range'_succ, List.filter_cons, List.filter_cons]
    have := zip_snd q r (o + 1)
    by_cases h : q o = true
    · simp [h, this]
    · simp [h, this]
theorem row_at {k c : Nat} {recs : List Rec} (hl : recs.length = 2 ^ k) {i : Nat} {v : Value} (h : (rowOf k c recs)[i]? = some v) : ∃ j r, (rowIdx k c)[i]? = some j ∧ recs[j]? = some r ∧ v = .ref r.T ∧ (placesOf k j).length = c := by
  unfold rowOf at h
  rw [List.getElem?_map] at h
  cases hz : (recs.zipIdx.filter fun x => (placesOf k x.2).length == c)[i]? with
  | none => rw [hz] at h; cases h
  | some p =>
    rw [hz] at h
    obtain ⟨r, j⟩ := p
    have hm := List.mem_of_getElem? hz
    obtain ⟨hm1, hm2⟩ := List.mem_filter.mp hm
    refine ⟨j, r, ?_, List.mk_mem_zipIdx_iff_getElem?.mp hm1, by simpa using h.symm, by simpa using hm2⟩
    have e := zip_snd (fun j => (placesOf k j).length == c) recs 0
    have e2 : rowIdx k c = ((recs.zipIdx.filter fun x => (placesOf k x.2).length == c).map (·.2)) := by
      rw [e, hl]; unfold rowIdx; rw [List.range_eq_range']
    rw [e2, List.getElem?_map, hz]; rfl
theorem row_len {k c : Nat} {recs : List Rec} (hl : recs.length = 2 ^ k) : (rowOf k c recs).length = (rowIdx k c).length := by
  have e := zip_snd (fun j => (placesOf k j).length == c) recs 0
  have e2 : rowIdx k c = ((recs.zipIdx.filter fun x => (placesOf k x.2).length == c).map (·.2)) := by
    rw [e, hl]; unfold rowIdx; rw [List.range_eq_range']
  rw [e2]; unfold rowOf; simp
end Mine
end
section
open PySem PySem.W PyProof.Rows PySem.Calls
open Sem (wp)
open PySem.SeqAt
set_option maxRecDepth 100000
set_option maxHeartbeats 4000000
set_option linter.unusedVariables false
namespace Mine
theorem places_inj : ∀ k < 6, ∀ a < 2 ^ k, ∀ b < 2 ^ k, placesOf k a = placesOf k b → a = b := by decide +kernel
theorem row_ne : ∀ k < 6, ∀ c < k + 1, rowIdx k c ≠ [] := by decide +kernel
theorem map_cast_inj {a b : List Nat} (h : a.map (fun q : Nat => (q : Int)) = b.map (fun q : Nat => (q : Int))) : a = b := by
  induction a generalizing b with
  | nil => cases b with | nil => rfl | cons x y => cases h
  | cons x y ih =>
    cases b with
    | nil => cases h
    | cons u v =>
      rw [List.map_cons, List.map_cons, List.cons.injEq] at h
      rw [ih h.2, show x = u by omega]
/-- the choices, as they lie in the heap -/
structure Chs (h : Heap) (ns : List Int) (wd : Nat) (D : Addr) (subs : List Addr) (recs : List Rec) : Prop where
  ls : subs.length = ns.length + 1
  lr : recs.length = 2 ^ ns.length
  top : ∃ o, h.get? D = some o ∧ aL (subs.map Value.ref) o
  row : ∀ c a, subs[c]? = some a → ∃ o, h.get? a = some o ∧ aL (rowOf ns.length c recs) o
  rcd : ∀ j r, recs[j]? = some r → GoodR ns wd j r ∧ (∃ o, h.get? r.T = some o ∧ aTup r o) ∧ (∃ o, h.get? r.P = some o ∧ aL r.yp o) ∧ (∃ o, h.get? r.M = some o ∧ aL r.ym o)
theorem ChAt.out {h : Heap} {ns : List Int} {wd : Nat} {D : Addr} (x : ChAt h ns wd D) : ∃ subs recs, Chs h ns wd D subs recs := let ⟨subs, recs, h1, h2, h3, h4, h5⟩ := x.ex; ⟨subs, recs, h1, h2, h3, h4, h5⟩
theorem Chs.keeps {h h' : Heap} {ns : List Int} {wd : Nat} {D : Addr} {subs : List Addr} {recs : List Rec} (x : Chs h ns wd D subs recs) (hk : ∀ b o, h.get? b = some o → (∃ v n, o.data = .seq v n) → h'.get? b = some o) : Chs h' ns wd D subs recs := by
  have k1 : ∀ {a : Addr} {vs : List Value}, (∃ o, h.get? a = some o ∧ aL vs o) → ∃ o, h'.get? a = some o ∧ aL vs o := fun {a vs} ⟨o, ho, n, e⟩ => ⟨o, hk a o ho ⟨vs.toArray, n, by subst e; rfl⟩, n, e⟩
  have k2 : ∀ {r : Rec}, (∃ o, h.get? r.T = some o ∧ aTup r o) → ∃ o, h'.get? r.T = some o ∧ aTup r o := fun {r} ⟨o, ho, n, e⟩ => ⟨o, hk _ o ho ⟨#[.int r.sum r.t, .ref r.P, .ref r.M], n, by subst e; rfl⟩, n, e⟩
  exact ⟨x.ls, x.lr, k1 x.top, fun c a hc => k1 (x.row c a hc), fun j r hj => let ⟨g, a, b, c⟩ := x.rcd j r hj; ⟨g, k2 a, k1 b, k1 c⟩⟩
theorem row_cmp {ns : List Int} {wd c : Nat} {D : Addr} {subs : List Addr} {recs : List Rec} {h : Heap} (hk5 : ns.length < 6) (X : Chs h ns wd D subs recs) {i j : Nat} {vi vj : Value} (hi : (rowOf ns.length c recs)[i]? = some vi) (hj : (rowOf ns.length c recs)[j]? = some vj) :
    ∃ r r', TripAt h vi (keyOf ns wd ((rowIdx ns.length c).getD i 0)) r ∧ TripAt h vj (keyOf ns wd ((rowIdx ns.length c).getD j 0)) r' ∧ r.yp.length = r'.yp.length ∧ (r = r' ∨ (r.P ≠ r'.P ∧ (keyOf ns wd ((rowIdx ns.length c).getD i 0)).2 ≠ (keyOf ns wd ((rowIdx ns.length c).getD j 0)).2)) := by
  obtain ⟨a, r, ha, hr, rfl, hca⟩ := row_at X.lr hi
  obtain ⟨b, r', hb, hr', rfl, hcb⟩ := row_at X.lr hj
  obtain ⟨g, t1, p1, m1⟩ := X.rcd a r hr
  obtain ⟨g', t2, p2, m2⟩ := X.rcd b r' hr'
  have ea : (rowIdx ns.length c).getD i 0 = a := by simp [List.getD, ha]
  have eb : (rowIdx ns.length c).getD j 0 = b := by simp [List.getD, hb]
  rw [ea, eb]
  have l1 : r.yp.length = c := by have := g.1.length; simp at this; omega
  have l2 : r'.yp.length = c := by have := g'.1.length; simp at this; omega
  refine ⟨r, r', ⟨rfl, t1, g.2.2, aL_list p1, g.1⟩, ⟨rfl, t2, g'.2.2, aL_list p2, g'.1⟩, by omega, ?_⟩
  by_cases hab : a = b
  · subst hab
    rw [hr] at hr'; cases hr'; exact .inl rfl
  · right
    have hpl : (keyOf ns wd a).2 ≠ (keyOf ns wd b).2 := by
      intro e
      refine hab (places_inj ns.length hk5 a ?_ b ?_ (map_cast_inj e))
      · rw [← X.lr]; exact (List.getElem?_eq_some_iff.mp hr).1
      · rw [← X.lr]; exact (List.getElem?_eq_some_iff.mp hr').1
    refine ⟨fun e => hpl ?_, hpl⟩
    obtain ⟨o1, ho1, n1, q1⟩ := p1
    obtain ⟨o2, ho2, n2, q2⟩ := p2
    rw [e, ho2] at ho1
    cases ho1
    rw [q1] at q2
    have hy : r.yp = r'.yp := by
      have := congrArg Obj.data q2
      simp [PySem.W.listOf] at this
      exact this.1
    exact intsAre_fun (hy ▸ g.1) g'.1

theorem row_min {w : World} {A : Around} {E : Value → Shared → Prop} {s : Shared} {b₀ : Heap} {ns : List Int} {wd c : Nat} {D a : Addr} {subs : List Addr} {recs : List Rec} {Q : Value → Shared → Prop} (hb : Kept b₀ s) (hk5 : ns.length < 6) (X : Chs s.heap ns wd D subs recs) (hc : subs[c]? = some a) (hcl : c < ns.length + 1) (hh : A.in1.handled = none) (hu : A.in1.units < cLine) (hu1 : A.in1.in1.units < cLine)
    (hQ : ∀ r s', Ext b₀ [] s s' → recs[minMask ns wd c]? = some r → Q (.ref r.T) s') : wpAny (model PG w) A (call (.builtin "min") [.ref a]) Q E s := by
  have hl := X.row c a hc
  have hlen := row_len (c := c) X.lr
  have hpos : 0 < (rowOf ns.length c recs).length := by
    rw [hlen]
    exact List.length_pos_iff.mpr (row_ne ns.length hk5 c hcl)
  refine call_min_list (bt := btMin ns wd (rowIdx ns.length c)) hh ?_ (aL_list hl) hpos ?_
  · intro i j vi vj s' Q' E' hi hj hk hq
    obtain ⟨r, r', t1, t2, hle, hd⟩ := row_cmp hk5 (X.keeps fun b o e _ => hk b o e) hi hj
    exact trip_lt hu hu1 t1 t2 hle hd hq
  · intro v h' tk hv hk
    obtain ⟨j, r, hj, hr, rfl, _⟩ := row_at X.lr hv
    refine hQ r _ ⟨⟨_, _, rfl⟩, fun b o _ e => hk b o e, fun b o e => hk b o (hb b o e), fun b o e => ⟨o, hk b o e⟩⟩ ?_
    rw [hlen] at hj
    have : minMask ns wd c = j := by unfold minMask; simp [List.getD, hj]
    rw [this]; exact hr

theorem row_max {w : World} {A : Around} {E : Value → Shared → Prop} {s : Shared} {b₀ : Heap} {ns : List Int} {wd c : Nat} {D a : Addr} {subs : List Addr} {recs : List Rec} {Q : Value → Shared → Prop} (hb : Kept b₀ s) (hk5 : ns.length < 6) (X : Chs s.heap ns wd D subs recs) (hc : subs[c]? = some a) (hcl : c < ns.length + 1) (hh : A.in1.handled = none) (hu : A.in1.units < cLine) (hu1 : A.in1.in1.units < cLine)
    (hQ : ∀ r s', Ext b₀ [] s s' → recs[maxMask ns wd c]? = some r → Q (.ref r.T) s') : wpAny (model PG w) A (call (.builtin "max") [.ref a]) Q E s := by
  have hl := X.row c a hc
  have hlen := row_len (c := c) X.lr
  have hpos : 0 < (rowOf ns.length c recs).length := by
    rw [hlen]
    exact List.length_pos_iff.mpr (row_ne ns.length hk5 c hcl)
  refine call_max_list (bt := btMax ns wd (rowIdx ns.length c)) hh ?_ (aL_list hl) hpos ?_
  · intro i j vi vj s' Q' E' hi hj hk hq
    obtain ⟨r, r', t1, t2, hle, hd⟩ := row_cmp hk5 (X.keeps fun b o e _ => hk b o e) hi hj
    exact trip_gt hu hu1 t1 t2 hle hd hq
  · intro v h' tk hv hk
    obtain ⟨j, r, hj, hr, rfl, _⟩ := row_at X.lr hv
    refine hQ r _ ⟨⟨_, _, rfl⟩, fun b o _ e => hk b o e, fun b o e => hk b o (hb b o e), fun b o e => ⟨o, hk b o e⟩⟩ ?_
    rw [hlen] at hj
    have : maxMask ns wd c = j := by unfold maxMask; simp [List.getD, hj]
    rw [this]; exact hr
end Mine
end
section
open PySem PySem.W PyProof.Rows PySem.Calls
open Sem (wp)
open PySem.SeqAt
set_option maxRecDepth 100000
set_option maxHeartbeats 4000000
set_option linter.unusedVariables false
namespace Mine
def drawnOf (ns0 : List Int) (wd : Nat) : List Int := ((ns0 ++ [1, 515]).take 5).map fun x : Int => x.fmod (256 ^ wd)
theorem Src.mono {prog : Program} {w : World} {A : Around} {env : Env} {scope : Scope} {cl : List (Str × Addr)} {target : PySem.Expr} {b₀ : Heap} {n n' : Nat} {Bu Bu' : Bound} {x : Value} {s₀ : Shared} (h : Src prog w A env scope cl target b₀ n Bu x s₀) (hn : n = n') (hm : ∀ C i h, Bu C i h → Bu' C i h) : Src prog w A env scope cl target b₀ n' Bu' x s₀ := by
  subst hn
  intro Q E hQ
  exact h Q E fun I s₂ its Tv Bd y h1 h2 T => hQ I s₂ its Tv Bd y h1 h2 ⟨T.start, T.self, T.adv, T.nxt, fun C i m led s₁ hb hi => hm _ _ _ (T.see C i m led s₁ hb hi)⟩
theorem add_listI {w : World} {A : Around} {E : Value → Shared → Prop} {s : Shared} {a b : Addr} {xs ys : List Value} {Q : Value → Shared → Prop} (ha : s.heap.IsList a xs.toArray) (hb : s.heap.IsList b ys.toArray) (hz : xs.length + ys.length < 1000)
    (h : Q (.ref s.heap.objs.size) { s with heap := s.heap.push { cls := .type "list", data := .seq (xs ++ ys).toArray } }) : wpAny (model PG w) A (binaryOp .Add (.ref a) (.ref b)) Q E s := by
  obtain ⟨⟨cls, dd, data, sl⟩, ho, hc, n, hd⟩ := id ha
  obtain ⟨⟨cls2, dd2, data2, sl2⟩, ho2, hc2, n2, hd2⟩ := id hb
  simp only at hc hd hc2 hd2
  subst hc hd hc2 hd2
  refine concat_meets ⟨_, ho, rfl⟩ ⟨_, ho2, rfl⟩ noFill_list_add seq_list_add PySem.F.slot_list_add PySem.F.entry_list_add (PySem.F.args_list_add_2 _ _) (list_addW a b xs.toArray ys.toArray n n2 dd dd2 sl sl2 (Nat.le_trans (by simp; omega) (show (1000 : Nat) ≤ sizeLine by decide))) ⟨ho, ho2, ?_⟩
  rw [show xs.toArray ++ ys.toArray = (xs ++ ys).toArray by simp]
  exact h
theorem intsAre_take : ∀ {vs : List Value} {ns : List Int}, IntsAre vs ns → ∀ k, IntsAre (vs.take k) (ns.take k)
  | _, _, .nil, k => by simpa using IntsAre.nil
  | _, _, .cons n t h, 0 => .nil
  | _, _, .cons n t h, k + 1 => .cons n t (intsAre_take h k)
theorem isList_push1 (h : Heap) (o : Obj) (vs : List Value) : ((h.push o).push { cls := .type "list", data := .seq vs.toArray }).IsList (h.objs.size + 1) vs.toArray := by
  have e : (h.push o).objs.size = h.objs.size + 1 := Heap.size_push ..
  exact ⟨_, e ▸ Heap.get?_push_size _ rfl, rfl, _, rfl⟩
/-- a slice of a list, whatever gives the list -/
theorem sliceL_any {w : World} {A : Around} {E : Value → Shared → Prop} {s : Shared} {env : Env} {value : PySem.Expr} {lower upper : Option PySem.Expr} {p pos : Pos} {Q : Value → Shared → Prop}
    (h : wpAny (model PG w) A (eval value env) (fun o s₁ => wpAny (model PG w) A (evalPart lower env) (fun vl s₂ => wpAny (model PG w) A (evalPart upper env) (fun vu s₃ =>
      ∃ l items lo hi, o = .ref l ∧ s₃.heap.IsList l items ∧ items.size ≤ sizeLine ∧ IsPart vl lo ∧ IsPart vu hi ∧
        Q (.ref (s₃.heap.objs.size + 1)) { s₃ with heap := (s₃.heap.push { cls := .type "slice", data := .fields #[vl, vu, .none] }).push { cls := .type "list", data := .seq (slicePick items lo hi none) } }) E s₂) E s₁) E s) :
    wpAny (model PG w) A (eval (.Subscript value (.Slice lower upper none p) pos) env) Q E s := by
  rw [eval_Subscript]
  refine wpAny_bind (wpAny_mono h (fun o s₁ h₁ => wpAny_bind (wpAny_holding (wpAny_Slice (wpAny_mono h₁ (fun vl s₂ h₂ => wpAny_mono h₂ (fun vu s₃ h₃ => ?_) fun _ _ e => e) fun _ _ e => e)))) fun _ _ x => x)
  obtain ⟨l, items, lo, hi, rfl, hl, hsz, pl, pu, hQ⟩ := h₃
  rw [evalPart_none]
  refine wpAny_pure (wpAny_bind (wpAny_standAt ?_))
  have hT : ({ s₃ with heap := s₃.heap.push { cls := .type "slice", data := .fields #[vl, vu, .none] } } : Shared).TypeIs (.ref l) "list" := Heap.IsList.typeIs (s := { s₃ with heap := s₃.heap.push { cls := .type "slice", data := .fields #[vl, vu, .none] } }) (hl.push _)
  have hg : wpAny (model PG w) A (getItem (.ref l) (.ref s₃.heap.objs.size)) Q E { s₃ with heap := s₃.heap.push { cls := .type "slice", data := .fields #[vl, vu, .none] } } := by
    refine wpAny_getItem_list_slice (hl.push _) (Heap.IsSliceOf.new ..) pl pu .none (by simp) ?_ hsz
    rw [Heap.size_push]
    exact hQ
  have fin : wpAny (model PG w) A (operate [.ref s₃.heap.objs.size, .ref l] (getItem (.ref l) (.ref s₃.heap.objs.size))) (fun r s₃ => wpAny (model PG w) A (letTemporaryGo value (.ref l) r >>= fun _ => pure r) Q E s₃) E { s₃ with heap := s₃.heap.push { cls := .type "slice", data := .fields #[vl, vu, .none] } } :=
    wpAny_operating (wpAny_mono hg (fun r s₃ h₃ => wpAny_bind (wpAny_letTemporaryGo (wpAny_pure h₃))) fun _ _ x => x)
  first
    | (refine wpAny_bind ?_
       rw [getitemInPython_of_ne hT.not_modules]
       refine wpAny_bind (wpAny_specialOf hT list_getitem_lookup ?_)
       first
         | exact wpAny_pure (wpAny_bind fin)
         | exact wpAny_bind (wpAny_pure (wpAny_bind fin))
         | exact wpAny_bind fin)
    | (refine wpAny_bind (wpAny_specialOf hT list_getitem_lookup ?_)
       first
         | exact wpAny_bind (wpAny_pure (wpAny_bind fin))
         | exact wpAny_bind fin)
/-- an item of a tuple that a call has given -/
theorem itemT_any {w : World} {A : Around} {E : Value → Shared → Prop} {s : Shared} {value slice : PySem.Expr} {t : Addr} {items : Array Value} {k : Nat} {u : Tok} {x : Value} {Q : Value → Shared → Prop} (ht : IsTup s.heap t items) (hk : k < items.size) (hfit : items.size < 1000) (hx : items[k]? = some x) (h : Q x s)
    (hs : subscripted slice false (.ref t) (.int (k : Int) u) = operate [.ref t, .int (k : Int) u] (getItem (.ref t) (.int (k : Int) u)) := by with_unfolding_all rfl) :
    wpAny (model PG w) A (subscriptTail value slice (.ref t) (.int (k : Int) u)) Q E s := by
  have hT : s.TypeIs (.ref t) "tuple" := by obtain ⟨o, ho, hc, _⟩ := ht; exact ⟨o, ho, hc⟩
  have hg : wpAny (model PG w) A (getItem (.ref t) (.int (k : Int) u)) Q E s := by
    refine getItem_tuple (j := k) ht (by omega) (by omega) ?_ hx h
    unfold seqIndex?
    simp only [show ¬ ((k : Int) < 0) by omega, if_false]
    rw [if_pos]
    · simp
    · simp only [Bool.and_eq_true, decide_eq_true_eq]; omega
  unfold subscriptTail
  refine wpAny_bind ?_
  rw [getitemInPython_of_ne hT.not_modules]
  refine wpAny_bind (wpAny_specialOf hT F.slot_tuple_getitem.lookup ?_)
  have fin : wpAny (model PG w) A (subscripted slice false (.ref t) (.int (k : Int) u)) (fun r s₃ => wpAny (model PG w) A (letTemporaryGo value (.ref t) r >>= fun _ => pure r) Q E s₃) E s := by
    rw [hs]
    exact wpAny_operating (wpAny_mono hg (fun r s₃ h₃ => wpAny_bind (wpAny_letTemporaryGo (wpAny_pure h₃))) fun _ _ x => x)
  first
    | exact wpAny_pure (wpAny_bind fin)
    | exact wpAny_bind (wpAny_pure (wpAny_bind fin))
    | exact wpAny_bind fin
/-- the script's numbers and two more, five at most -/
theorem iter_five {w : World} {A : Around} {s : Shared} {b₀ : Heap} {env : Env} {scope : Scope} {cl : List (Str × Addr)} {target e : PySem.Expr} {Vu : Addr → Value → Heap → Prop} {l0 : Addr} {vs0 : List Value} {k0 k1 k2 : Nat} {p0 p1 p2 p3 p4 p5 pos : Pos} (hb : Kept b₀ s) (he : PVal PG w A env s e (.ref l0)) (hl : s.heap.IsList l0 vs0.toArray) {ns0 : List Int} (hi0 : IntsAre vs0 ns0) (hz : vs0.length < 100) (T : ∀ s, Tgts PG w A env scope cl target b₀ s Vu) (hh : A.handled = none)
    (hs : backTo p3 (starEach [.Constant (.int 1) k0 p0, .Constant (.int 515) k1 p1] env) = [(false, eval (.Constant (.int 1) k0 p0) env), (false, eval (.Constant (.int 515) k1 p1) env)] := by rfl) :
    Itr PG w A env scope cl target b₀ ((ns0 ++ [1, 515]).take 5).length (fun C i h => ∃ t, Vu C (Value.int (((ns0 ++ [1, 515]).take 5).getD i 0) t) h) (.Subscript (.BinOp e .Add (.List [.Constant (.int 1) k0 p0, .Constant (.int 515) k1 p1] p3) p4) (.Slice none (some (.Constant (.int 5) k2 p2)) none p5) pos) s := by
  refine Itr.of ?_
  intro Q E hQ
  refine sliceL_any (wpAny_BinOp (he.use ?_))
  rintro _ tk rfl
  refine PyProof.Rows.List_ ?_
  rw [hs]
  refine spliced_cons (PEv.const.use ?_)
  rintro _ tk1 ⟨t, rfl⟩
  refine spliced_cons (PEv.const.use ?_)
  rintro _ tk2 ⟨u, rfl⟩
  refine spliced_nil (wpAny_newObj_type ?_)
  have hl1 : (s.heap.push { cls := .type "list", data := .seq [Value.int 1 t, Value.int 515 u].toArray }).IsList l0 vs0.toArray := hl.push _
  refine add_listI (s := { s with heap := s.heap.push { cls := .type "list", data := .seq [Value.int 1 t, Value.int 515 u].toArray }, toks := tk2 }) (xs := vs0) (ys := [Value.int 1 t, Value.int 515 u]) hl1 ⟨_, Heap.get?_push_size _ rfl, rfl, _, rfl⟩ (by simp; omega) ?_
  rw [show evalPart none env = pure .none from rfl]
  refine wpAny_pure ?_
  refine PEv.use (e := .Constant (.int 5) k2 p2) (PEv.const (i := 5)) ?_
  rintro _ tk3 ⟨t5, rfl⟩
  have hz2 : ((vs0 ++ [Value.int 1 t, Value.int 515 u]).toArray.size) ≤ sizeLine := Nat.le_trans (by simp; omega) (show (1000 : Nat) ≤ sizeLine by decide)
  refine ⟨_, (vs0 ++ [Value.int 1 t, Value.int 515 u]).toArray, none, some 5, rfl, ⟨_, Heap.get?_push_size _ rfl, rfl, _, rfl⟩, hz2, .none, .int 5 t5, ?_⟩
  have hi2 : IntsAre ((vs0 ++ [Value.int 1 t, Value.int 515 u]).take 5) ((ns0 ++ [1, 515]).take 5) := intsAre_take (hi0.append (.cons _ _ (.cons _ _ .nil))) 5
  refine hQ _ _ ?_ (Src.mono (src_list (vs := (vs0 ++ [Value.int 1 t, Value.int 515 u]).take 5) (T _) hh ?_ ?_) hi2.length ?_)
  · exact (Ext.push (tk := tk2) hb).trans ((Ext.push (tk := tk2) (Ext.push (tk := tk2) hb).base).trans ((Ext.push (tk := tk2) (Ext.push (tk := tk2) (Ext.push (tk := tk2) hb).base).base).trans (Ext.push (Ext.push (tk := tk2) (Ext.push (tk := tk2) (Ext.push (tk := tk2) hb).base).base).base)))
  · exact fun b o e => Heap.get?_push_of_some _ (Heap.get?_push_of_some _ (Heap.get?_push_of_some _ (Heap.get?_push_of_some _ (hb b o e))))
  · have e5 : slicePick (vs0 ++ [Value.int 1 t, Value.int 515 u]).toArray none (some 5) none = ((vs0 ++ [Value.int 1 t, Value.int 515 u]).take 5).toArray := by
      have := slicePick_upto' (vs0 ++ [Value.int 1 t, Value.int 515 u]).toArray 5
      simpa using this
    rw [e5]
    exact isList_push1 _ _ _
  · rintro C i h ⟨v, hv, hu⟩
    obtain ⟨n, tn, h1, rfl⟩ := intsAre_get hi2 i v hv
    exact ⟨tn, by simpa [List.getD, h1] using hu⟩
/-- all but the first of the choices' rows -/
theorem iter_rows {w : World} {A : Around} {s : Shared} {b₀ : Heap} {env : Env} {scope : Scope} {cl : List (Str × Addr)} {target e : PySem.Expr} {Vu : Addr → Value → Heap → Prop} {D : Addr} {subs : List Addr} {k2 : Nat} {p2 p5 pos : Pos} (hb : Kept b₀ s) (he : PVal PG w A env s e (.ref D)) (hl : ∃ o, s.heap.get? D = some o ∧ aL (subs.map Value.ref) o) (hz : subs.length < 100) (T : ∀ s, Tgts PG w A env scope cl target b₀ s Vu) (hh : A.handled = none) :
    Itr PG w A env scope cl target b₀ (subs.length - 1) (fun C i h => ∃ a, subs[i + 1]? = some a ∧ Vu C (.ref a) h) (.Subscript e (.Slice (some (.Constant (.int 1) k2 p2)) none none p5) pos) s := by
  refine Itr.of ?_
  intro Q E hQ
  refine sliceL_any (he.use ?_)
  rintro _ tk rfl
  refine PEv.use (e := .Constant (.int 1) k2 p2) (PEv.const (i := 1)) ?_
  rintro _ tk3 ⟨t5, rfl⟩
  rw [show evalPart none env = pure .none from rfl]
  refine wpAny_pure ?_
  refine ⟨D, (subs.map Value.ref).toArray, some 1, none, rfl, aL_list hl, Nat.le_trans (by simp; omega) (show (1000 : Nat) ≤ sizeLine by decide), .int 1 t5, .none, ?_⟩
  refine hQ _ _ ?_ (Src.mono (src_list (vs := (subs.map Value.ref).drop 1) (T _) hh ?_ ?_) (by simp) ?_)
  · exact (Ext.push (tk := tk3) hb).trans (Ext.push (Ext.push (tk := tk3) hb).base)
  · exact fun b o e => Heap.get?_push_of_some _ (Heap.get?_push_of_some _ (hb b o e))
  · have e5 : slicePick (subs.map Value.ref).toArray (some 1) none none = ((subs.map Value.ref).drop 1).toArray := by
      have := slicePick_from' (subs.map Value.ref).toArray 1
      simpa using this
    rw [e5]
    exact isList_push1 _ _ _
  · rintro C i h ⟨v, hv, hu⟩
    rw [List.getElem?_drop, List.getElem?_map] at hv
    cases hq : subs[1 + i]? with
    | none => rw [hq] at hv; cases hv
    | some a =>
      rw [hq] at hv
      cases hv
      exact ⟨a, by rw [Nat.add_comm]; exact hq, hu⟩
theorem callC_f3 {w : World} {A : Around} {E : Value → Shared → Prop} {s : Shared} {b₀ : Heap} {env : Env} {x : Str} {p pos : Pos} {e1 e2 e3 : PySem.Expr} {f : Addr} {Q : Value → Shared → Prop} (hB : Bs w b₀) (hfn : isFnAt (hd.heap_39 w.params) f = true) (hf : PVal PG w A env s (.Name x p) (.ref f))
    (h : ∀ tk, wpAny (model PG w) A (eval e1 env) (fun v s₁ => wpAny (model PG w) A (eval e2 env) (fun v2 s₂ => wpAny (model PG w) A (eval e3 env) (fun v3 s₃ => Kept b₀ s₃ ∧ wpC (model PG w) A (call (.ref f) [v, v2, v3]) Q E s₃) E s₂) E s₁) E { s with toks := tk })
    (hs : backTo pos (starEach [e1, e2, e3] env) = [(false, eval e1 env), (false, eval e2 env), (false, eval e3 env)] := by rfl) : wpC (model PG w) A (eval (.Call (.Name x p) [e1, e2, e3] [] pos) env) Q E s := by
  obtain ⟨o, fd, ho, hd'⟩ := fn_there hB hfn
  refine CallC_Name (hf.use ?_)
  rintro _ tk rfl
  rw [hs]
  exact callWithC_function (first := []) rfl (evalArgs_plain (spliced_cons (wpAny_mono (h tk) (fun v s₁ h₁ => spliced_cons (wpAny_mono h₁ (fun v2 s₂ h₂ => spliced_cons (wpAny_mono h₂ (fun v3 s₃ h₃ => spliced_nil ⟨⟨h₃.1 _ _ ho, hd'⟩, h₃.2⟩) fun _ _ e => e)) fun _ _ e => e)) fun _ _ e => e)))
theorem getD_map (l : List Int) (f : Int → Int) (i : Nat) (h : i < l.length) : (l.map f).getD i 0 = f (l.getD i 0) := by simp [List.getD, h]
theorem bytesA_range {ys : List Value} {n : Nat} {f : Nat → List UInt8} (hl : ys.length = n) (hv : ∀ (j : Nat) (v : Value), ys[j]? = some v → ∃ t, v = Value.bytes (f j).toArray t) : BytesA ys ((List.range n).map f) := by
  refine ⟨by simp [hl], fun j v hj => ?_⟩
  obtain ⟨t, e⟩ := hv j v hj
  have hjn : j < n := by rw [← hl]; exact (List.getElem?_eq_some_iff.mp hj).1
  exact ⟨t, by rw [e]; simp [List.getD, hjn]⟩
theorem law_ok {w : World} {A : Around} {E : Value → Shared → Prop} {s : Shared} {b₀ : Heap} (hB : Bs w b₀) (R : Rm 8 A) (hb : Kept b₀ s) {l0 : Addr} {vs0 : List Value} {ns0 : List Int} (hl0 : s.heap.IsList l0 vs0.toArray) (hi0 : IntsAre vs0 ns0) (h63 : vs0.length < 100) {wd : Nat} (hwd : wd = 2 + vs0.length % 3) {ns : List Int} (hns : ns = drawnOf ns0 wd)
    (hlo : ∀ as : List Addr, as.length = ns.length → stepsRes false (laidB ns wd) wd as = (List.range ns.length).map fun c => laidB (madeOf ns wd (minMask ns wd (c + 1))) wd)
    (hhi : ∀ as : List Addr, as.length = ns.length → stepsRes true (laidB ns wd) wd as = (List.range ns.length).map fun c => laidB (madeOf ns wd (maxMask ns wd (c + 1))) wd) :
    wpC (model PG w) A (call (.ref 107) [.ref l0]) (fun v s' => Ext b₀ [] s s' ∧ v = .bool true) E s := by
  have hw4 : wd ≤ 4 := by omega
  refine callC_cells hB R hb rfl rfl rfl rfl (show List.Nodup [("size" : Str)] by decide) (fun E' s₁ I => ?_) rfl rfl rfl
  have R' : Rm 7 (A.deeper (callEnvC (dataAt w.params 107) s.heap.objs.size 107)) := R.deeper _
  have hLn : s.heap.get? s.heap.objs.size = none := none_of_size (Nat.le_refl _)
  have hf1 : s.heap.get? (s.heap.objs.size + 1) = none := none_of_size (Nat.le_add_right _ _)
  have I' : In b₀ s [] s.heap.objs.size (fun y => if y = "script" then some (.ref l0) else none) [(s.heap.objs.size + 1, aC none)] s₁ := by
    exact I
  have hlL : l0 ≠ s.heap.objs.size := by obtain ⟨o, ho, _⟩ := hl0; exact Nat.ne_of_lt (Heap.lt_size ho)
  generalize hL : s.heap.objs.size = L at *
  have hlis : ∀ {s' : Shared} {m led}, In b₀ s [] L m led s' → s'.heap.IsList l0 vs0.toArray := fun {s' m led} J => hl0.at fun o e => J.keep l0 o (by simp) hlL e
  refine execsC_any (wpAny_Assign_Name ((PEv.add .const (.fmod (.lenL (.builtin hB I'.base) (.local (x := "script") (v := .ref l0) I'.ns rfl) (hlis I') (by omega)) .const (by decide))).use ?_))
  rintro _ tk ⟨ts, rfl⟩
  have hsz : (2 : Int) + ((vs0.length : Int)).fmod 3 = (wd : Int) := by rw [Int.fmod_eq_emod_of_nonneg _ (by decide)]; omega
  rw [hsz]
  refine In.storeCell (I'.tok tk) (.inr hf1) (fun s₂ I₂ => ?_) rfl
  dsimp only
  have csz : s₂.heap.IsCell (L + 1) (some (.int (wd : Int) ts)) := I₂.head
  have hlen5 : ((ns0 ++ [1, 515]).take 5).length = ns.length := by rw [hns]; simp [drawnOf]
  have hn5 : ns.length ≤ 5 := by rw [← hlen5, List.length_take]; omega
  have hn2 : 2 ≤ ns.length := by rw [← hlen5, List.length_take, List.length_append]; show 2 ≤ min 5 (ns0.length + 2); omega
  have hval : ∀ i, i < ns.length → (((ns0 ++ [1, 515]).take 5).getD i 0).fmod (256 ^ wd) = ns.getD i 0 := by
    intro i hi
    have h1 : i < ((ns0 ++ [1, 515]).take 5).length := by rw [hlen5]; exact hi
    rw [hns, drawnOf, getD_map _ _ _ h1]
  refine execsC_any (comp_assign I₂ ((ns0 ++ [1, 515]).take 5).length (fun _ => true) (intsJ fun i => ns.getD i 0) (fun C i h => ∃ t, vLoc "x" C (Value.int (((ns0 ++ [1, 515]).take 5).getD i 0) t) h)
    (iter_five I₂.base (.local (x := "script") (v := .ref l0) I₂.ns rfl) (hlis I₂) hi0 h63 (fun s => tgt_local (fun _ => rfl) rfl (fun _ => rfl)) R'.handled) (by omega) rfl rfl (by decide)
    (fun C h => ⟨rfl, fun j v e => by simp at e⟩) (fun C i ys h h' hj _ => hj) (fun C i ys s₁ E' hi hx hC hbd hj => tests_nil hx.base) ?_ ?_)
  · rintro C i ys s₃ E'' hi _ hx₃ hC hlt ⟨t', m', hns', hm⟩ hj
    refine (PEv.fmod (.localI hns' hm) (.pow .const (.cellI (c := L + 1) rfl (hx₃.cell csz)) (by decide) (by omega) (by omega)) ?_).use ?_
    · rw [Int.toNat_natCast]
      have : wd = 2 ∨ wd = 3 ∨ wd = 4 := by omega
      rcases this with e | e | e <;> rw [e] <;> decide
    · rintro _ tk' ⟨t'', rfl⟩
      refine ⟨(Ext.refl hx₃.base).tok tk', intsJ_snoc hj ⟨t'', ?_⟩⟩
      rw [Int.toNat_natCast, hval i (by omega)]
  · rintro Dr C yd s₃ hDs hD hDC hab I₃ ⟨hydl, hyd⟩
    have hia : IntsAre yd ns := by
      have := intsAre_range hydl hyd
      have e : (List.range ((ns0 ++ [1, 515]).take 5).length).map (fun i => ns.getD i 0) = ns := by
        rw [hlen5]
        refine List.ext_getElem (by simp) fun j h1 h2 => ?_
        simp [List.getD, h2]
      rw [e] at this; exact this
    dsimp only
    have csz₃ : s₃.heap.IsCell (L + 1) (some (.int (wd : Int) ts)) := I₃.tail.head
    refine execsC_any (wpAny_Assign_Name (call_f2 hB rfl (.global hB I₃.base) fun tk1 => ?_))
    refine (PEv.local (s := { s₃ with toks := tk1 }) (x := "drawn") (v := .ref Dr) I₃.ns rfl) _ _ _ ?_
    rintro _ tk2 rfl
    refine (PEv.cell (s := { s₃ with toks := tk1 }) (c := L + 1) (v := .int wd ts) rfl csz₃) _ _ _ ?_
    rintro _ tk3 rfl
    refine ⟨I₃.base, wpAny_mono (choices_ok (s := { s₃ with toks := tk3 }) hB (R'.less (by omega)) I₃.base I₃.head hia hn5 hw4) (fun v s₄ h₄ => ?_) fun _ _ e => e⟩
    obtain ⟨hx₄, Tr, rfl, hTr, hCh⟩ := h₄
    obtain ⟨subs, recs, X⟩ := hCh.out
    have I₄ := (I₃.tok tk3).ext hx₄
    have keepX : ∀ {s' : Shared} {m led}, In b₀ s₄ [] L m led s' → Chs s'.heap ns wd Tr subs recs := fun {s' m led} J => X.keeps fun b o e hd => J.keep b o (by simp) (I₄.notL e hd) e
    refine I₄.rebase.store (env := callEnvC (dataAt w.params 107) L 107) (x := "tried") (v := .ref Tr) (fun s₅ I₅ => ?_)
    dsimp only
    have csz₅ : s₅.heap.IsCell (L + 1) (some (.int (wd : Int) ts)) := I₅.tail.head
    refine execsC_any (comp_assign I₅ (subs.length - 1) (fun _ => true) (bytesJ fun c => laidB (madeOf ns wd (minMask ns wd (c + 1))) wd) (fun C i h => ∃ a, subs[i + 1]? = some a ∧ vLoc "row" C (.ref a) h)
      (iter_rows I₅.base (.local (x := "tried") (v := .ref Tr) I₅.ns rfl) (keepX I₅).top (by have := X.ls; omega) (fun s => tgt_local (fun _ => rfl) rfl (fun _ => rfl)) R'.handled) (by have := X.ls; omega) rfl rfl (by decide)
      (fun C h => ⟨rfl, fun j v e => by simp at e⟩) (fun C i ys h h' hj _ => hj) (fun C i ys s₁ E' hi hx hC hbd hj => tests_nil hx.base) ?_ ?_)
    · rintro C i ys s₆ E₆ hi _ hx₆ hC hlt ⟨a, hsa, m', hns', hm⟩ hj
      have X₆ := (keepX I₅).keeps fun b o e _ => hx₆.keep b o (by simp) e
      refine call_f2 hB rfl (.global hB hx₆.base) fun tk1 => ?_
      refine PyProof.Rows.Subscript_ ?_
      refine call_b1 (id := "min") (.builtin hB (s := { s₆ with toks := tk1 }) hx₆.base) fun tk2 => ?_
      refine (PEv.local (s := { s₆ with toks := tk2 }) (x := "row") (v := .ref a) hns' hm) _ _ _ ?_
      rintro _ tk3 rfl
      refine row_min (s := { s₆ with toks := tk3 }) (c := i + 1) hx₆.base (by omega) X₆ hsa (by have := X.ls; omega) R'.handled ?_ ?_ fun r s₇ hx₇ hr => ?_
      · have := R'.units; simp only [Around.in1_units]; omega
      · have := R'.units; simp only [Around.in1_units]; omega
      have X₇ := X₆.keeps fun b o e _ => hx₇.keep b o (by simp) e
      obtain ⟨g, ⟨ot, hot, nt, rfl⟩, _, hM⟩ := X₇.rcd _ r hr
      refine PEv.use (PEv.const (i := 2)) ?_
      rintro _ tk4 ⟨t4, rfl⟩
      refine itemT_any (s := { s₇ with toks := tk4 }) (k := 2) (x := .ref r.M) ⟨_, hot, rfl, _, rfl⟩ (by simp) (by simp) rfl ?_
      have csz₇ : s₇.heap.IsCell (L + 1) (some (.int (wd : Int) ts)) := (hx₆.trans (Ext.trans ((Ext.refl hx₆.base).tok tk3) hx₇)).cell csz₅
      refine (PEv.cell (s := { s₇ with toks := tk4 }) (c := L + 1) (v := .int wd ts) rfl csz₇).use ?_
      rintro _ tk5 rfl
      have hml : (madeOf ns wd (minMask ns wd (i + 1))).length = ns.length := by simp [madeOf]
      refine ⟨hx₇.base, wpAny_mono (laid_ok (s := { s₇ with toks := tk5 }) hB (R'.less (by omega)) hx₇.base (aL_list hM) g.2.1 (by omega) (by omega) hw4) (fun v s₈ h₈ => ?_) fun _ _ e => e⟩
      obtain ⟨hx₈, t8, rfl⟩ := h₈
      exact ⟨Ext.trans ((Ext.refl hx₆.base).tok tk3) (hx₇.trans (Ext.trans ((Ext.refl hx₇.base).tok tk5) hx₈)), bytesJ_snoc hj ⟨t8, rfl⟩⟩
    rintro Lw C₁ ymin s₆ hmins hmin0 hminC habmin I₆ ⟨hminl, hminv⟩
    dsimp only
    have csz₆ : s₆.heap.IsCell (L + 1) (some (.int (wd : Int) ts)) := I₆.tail.tail.head
    refine execsC_any (comp_assign I₆ (subs.length - 1) (fun _ => true) (bytesJ fun c => laidB (madeOf ns wd (maxMask ns wd (c + 1))) wd) (fun C i h => ∃ a, subs[i + 1]? = some a ∧ vLoc "row" C (.ref a) h)
      (iter_rows I₆.base (.local (x := "tried") (v := .ref Tr) I₆.ns rfl) (keepX I₆).top (by have := X.ls; omega) (fun s => tgt_local (fun _ => rfl) rfl (fun _ => rfl)) R'.handled) (by have := X.ls; omega) rfl rfl (by decide)
      (fun C h => ⟨rfl, fun j v e => by simp at e⟩) (fun C i ys h h' hj _ => hj) (fun C i ys s₁ E' hi hx hC hbd hj => tests_nil hx.base) ?_ ?_)
    · rintro C i ys sₐ E₆ hi _ hxₐ hC hlt ⟨a, hsa, m', hns', hm⟩ hj
      have X₆ := (keepX I₆).keeps fun b o e _ => hxₐ.keep b o (by simp) e
      refine call_f2 hB rfl (.global hB hxₐ.base) fun tk1 => ?_
      refine PyProof.Rows.Subscript_ ?_
      refine call_b1 (id := "max") (.builtin hB (s := { sₐ with toks := tk1 }) hxₐ.base) fun tk2 => ?_
      refine (PEv.local (s := { sₐ with toks := tk2 }) (x := "row") (v := .ref a) hns' hm) _ _ _ ?_
      rintro _ tk3 rfl
      refine row_max (s := { sₐ with toks := tk3 }) (c := i + 1) hxₐ.base (by omega) X₆ hsa (by have := X.ls; omega) R'.handled ?_ ?_ fun r s₇ hx₇ hr => ?_
      · have := R'.units; simp only [Around.in1_units]; omega
      · have := R'.units; simp only [Around.in1_units]; omega
      have X₇ := X₆.keeps fun b o e _ => hx₇.keep b o (by simp) e
      obtain ⟨g, ⟨ot, hot, nt, rfl⟩, _, hM⟩ := X₇.rcd _ r hr
      refine PEv.use (PEv.const (i := 2)) ?_
      rintro _ tk4 ⟨t4, rfl⟩
      refine itemT_any (s := { s₇ with toks := tk4 }) (k := 2) (x := .ref r.M) ⟨_, hot, rfl, _, rfl⟩ (by simp) (by simp) rfl ?_
      have csz₇ : s₇.heap.IsCell (L + 1) (some (.int (wd : Int) ts)) := (hxₐ.trans (Ext.trans ((Ext.refl hxₐ.base).tok tk3) hx₇)).cell csz₆
      refine (PEv.cell (s := { s₇ with toks := tk4 }) (c := L + 1) (v := .int wd ts) rfl csz₇).use ?_
      rintro _ tk5 rfl
      have hml : (madeOf ns wd (maxMask ns wd (i + 1))).length = ns.length := by simp [madeOf]
      refine ⟨hx₇.base, wpAny_mono (laid_ok (s := { s₇ with toks := tk5 }) hB (R'.less (by omega)) hx₇.base (aL_list hM) g.2.1 (by omega) (by omega) hw4) (fun v s₈ h₈ => ?_) fun _ _ e => e⟩
      obtain ⟨hx₈, t8, rfl⟩ := h₈
      exact ⟨Ext.trans ((Ext.refl hxₐ.base).tok tk3) (hx₇.trans (Ext.trans ((Ext.refl hx₇.base).tok tk5) hx₈)), bytesJ_snoc hj ⟨t8, rfl⟩⟩
    rintro Hg C₂ ymax s₇ hmaxs hmax0 hmaxC habmax I₇ ⟨hmaxl, hmaxv⟩
    dsimp only
    have csz₇ : s₇.heap.IsCell (L + 1) (some (.int (wd : Int) ts)) := I₇.tail.tail.tail.head
    have hDr₇ : ∃ o, s₇.heap.get? Dr = some o ∧ aL yd o := I₇.tail.tail.head
    have hLw₇ : ∃ o, s₇.heap.get? Lw = some o ∧ aL ymin o := I₇.tail.head
    have hHg₇ : ∃ o, s₇.heap.get? Hg = some o ∧ aL ymax o := I₇.head
    have hll : (laidB ns wd).length = ns.length * wd := laidB_length wd ns
    have hns2 : subs.length - 1 = ns.length := by have := X.ls; omega
    have hBmin : BytesA ymin ((List.range ns.length).map fun c => laidB (madeOf ns wd (minMask ns wd (c + 1))) wd) := bytesA_range (by omega) hminv
    have hBmax : BytesA ymax ((List.range ns.length).map fun c => laidB (madeOf ns wd (maxMask ns wd (c + 1))) wd) := bytesA_range (by omega) hmaxv
    refine execsC_cons (IfC (isTrueC_Compare1 (callC_f3 hB rfl (.global hB I₇.base) fun tk1 => ?_)))
    refine call_f2 hB rfl (.global hB (s := { s₇ with toks := tk1 }) I₇.base) fun tk2 => ?_
    refine (PEv.local (s := { s₇ with toks := tk2 }) (x := "drawn") (v := .ref Dr) I₇.ns rfl) _ _ _ ?_
    rintro _ tk3 rfl
    refine (PEv.cell (s := { s₇ with toks := tk3 }) (c := L + 1) (v := .int wd ts) rfl csz₇) _ _ _ ?_
    rintro _ tk4 rfl
    refine ⟨I₇.base, wpAny_mono (laid_ok (s := { s₇ with toks := tk4 }) hB (R'.less (by omega)) I₇.base (aL_list hDr₇) hia hn2 hn5 hw4) (fun v s₈ h₈ => ?_) fun _ _ e => e⟩
    obtain ⟨hx₈, t8, rfl⟩ := h₈
    have I₈ := (I₇.tok tk4).ext hx₈
    refine (PEv.cell (s := s₈) (c := L + 1) (v := .int wd ts) rfl I₈.tail.tail.tail.head).use ?_
    rintro _ tk5 rfl
    refine wpAny_Constant_bool ?_
    refine ⟨I₈.base, wpC_mono (steps_ok (s := { s₈ with toks := tk5 }) (k := ns.length) hB (R'.less (by omega)) I₈.base (by omega) hw4 hn5 hll) (fun v s₉ h₉ => ?_) fun _ _ e => e⟩
    obtain ⟨hx₉, as1, ys1, has1, ⟨D1, rfl, hD1n, hD1⟩, hB1⟩ := h₉
    rw [hlo as1 has1] at hB1
    have I₉ := (I₈.tok tk5).ext hx₉
    refine (PEv.local (x := "lowest") (v := .ref Lw) I₉.ns rfl).use ?_
    rintro _ tk6 rfl
    refine lists_same_ne (s := { s₉ with toks := tk6 }) R'.cunits (aL_list hD1) (aL_list I₉.tail.head) hB1 hBmin (wpAny_truthy_bool ?_)
    simp only [Bool.false_eq_true, if_false]
    refine execsC_nil ?_
    dsimp only
    have Ia := I₉.tok tk6
    have csza : s₉.heap.IsCell (L + 1) (some (.int (wd : Int) ts)) := I₉.tail.tail.tail.head
    refine execsC_cons (ReturnC (CompareC1 (callC_f3 (s := { s₉ with toks := tk6 }) hB rfl (.global hB Ia.base) fun tk1 => ?_)))
    refine call_f2 hB rfl (.global hB (s := { s₉ with toks := tk1 }) Ia.base) fun tk2 => ?_
    refine (PEv.local (s := { s₉ with toks := tk2 }) (x := "drawn") (v := .ref Dr) Ia.ns rfl) _ _ _ ?_
    rintro _ tk3 rfl
    refine (PEv.cell (s := { s₉ with toks := tk3 }) (c := L + 1) (v := .int wd ts) rfl csza) _ _ _ ?_
    rintro _ tk4 rfl
    refine ⟨Ia.base, wpAny_mono (laid_ok (s := { s₉ with toks := tk4 }) hB (R'.less (by omega)) Ia.base (aL_list I₉.tail.tail.head) hia hn2 hn5 hw4) (fun v sb hb₈ => ?_) fun _ _ e => e⟩
    obtain ⟨hxb, tb, rfl⟩ := hb₈
    have Ib := (I₉.tok tk4).ext hxb
    refine (PEv.cell (s := sb) (c := L + 1) (v := .int wd ts) rfl Ib.tail.tail.tail.head).use ?_
    rintro _ tk5 rfl
    refine wpAny_Constant_bool ?_
    refine ⟨Ib.base, wpC_mono (steps_ok (s := { sb with toks := tk5 }) (k := ns.length) hB (R'.less (by omega)) Ib.base (by omega) hw4 hn5 hll) (fun v sc hc₉ => ?_) fun _ _ e => e⟩
    obtain ⟨hxc, as2, ys2, has2, ⟨D2, rfl, hD2n, hD2⟩, hB2⟩ := hc₉
    rw [hhi as2 has2] at hB2
    have Ic := (Ib.tok tk5).ext hxc
    refine (PEv.local (x := "highest") (v := .ref Hg) Ic.ns rfl).use ?_
    rintro _ tk7 rfl
    refine lists_same_eq (s := { sc with toks := tk7 }) R'.cunits (aL_list hD2) (aL_list Ic.head) hB2 hBmax ?_
    exact ⟨(I₄.join (Ic.tok tk7)).exit hLn, rfl⟩
end Mine
end
section
open PySem PySem.W PyProof.Rows PySem.Calls
set_option maxRecDepth 100000
set_option maxHeartbeats 4000000
set_option linter.unusedVariables false
namespace Mine
/-! ## the heap, plain: what it does depends on the order alone -/
section
variable {α β : Type} {l1 : α → α → Bool} {l2 : β → β → Bool} {f : α → β} (hf : ∀ a b, l2 (f a) (f b) = l1 a b)
include hf
theorem sdF_map (new : α) (sp : Nat) : ∀ (n : Nat) (z : List α) (pos : Nat), sdF l2 (f new) sp n (z.map f) pos = (sdF l1 new sp n z pos).map f
  | 0, z, pos => by simp [sdF, List.map_set]
  | n + 1, z, pos => by
    unfold sdF
    by_cases hp : sp < pos
    · simp only [hp, if_true, List.getElem?_map]
      cases z[(pos - 1) / 2]? with
      | none => simp [List.map_set]
      | some par =>
        simp only [Option.map_some, hf]
        by_cases hl : l1 new par = true
        · simp only [hl, if_true]
          rw [← sdF_map new sp n, List.map_set]
        · simp [hl, List.map_set]
    · simp [hp, List.map_set]
theorem suF_map (new : α) (sp : Nat) : ∀ (n : Nat) (z : List α) (pos : Nat), suF l2 (f new) sp n (z.map f) pos = (suF l1 new sp n z pos).map f
  | 0, z, pos => rfl
  | n + 1, z, pos => by
    unfold suF
    simp only [List.length_map, List.getElem?_map]
    by_cases hp : 2 * pos + 1 < z.length
    · simp only [hp, if_true]
      cases z[2 * pos + 1]? with
      | none => rfl
      | some a =>
        simp only [Option.map_some]
        cases z[2 * pos + 2]? with
        | none =>
          simp only [Option.map_none]
          rw [← suF_map new sp n, List.map_set]
        | some b =>
          simp only [Option.map_some, hf]
          by_cases hl : l1 a b = true
          · simp only [hl, if_true]
            rw [← suF_map new sp n, List.map_set]
          · rw [if_neg hl, if_neg hl, ← suF_map new sp n, List.map_set]
    · simp only [hp, if_false]
      rw [← List.map_set, sdF_map hf]
theorem hfF_map : ∀ (n : Nat) (z : List α), hfF l2 n (z.map f) = (hfF l1 n z).map f
  | 0, z => rfl
  | n + 1, z => by
    unfold hfF
    simp only [List.length_map, List.getElem?_map]
    cases z[n]? with
    | none => rfl
    | some x =>
      simp only [Option.map_some]
      rw [suF_map hf, hfF_map n]
theorem popF_map (z : List α) : popF l2 (z.map f) = (popF l1 z).map fun q => (f q.1, q.2.map f) := by
  unfold popF
  rw [List.getLast?_map, ← List.map_dropLast]
  cases z.getLast? with
  | none => rfl
  | some last =>
    simp only [Option.map_some]
    cases z.dropLast with
    | nil => rfl
    | cons a r =>
      simp only [List.map_cons, List.length_map, Option.map_some]
      rw [← List.map_cons, suF_map hf]
end
/-- all the pops -/
def popsF {β : Type} (lt : β → β → Bool) : Nat → List β → List β
  | 0, _ => []
  | n + 1, z => match popF lt z with
    | none => []
    | some (q, r) => q :: popsF lt n r
theorem popsF_map {α β : Type} {l1 : α → α → Bool} {l2 : β → β → Bool} {f : α → β} (hf : ∀ a b, l2 (f a) (f b) = l1 a b) : ∀ (n : Nat) (z : List α), popsF l2 n (z.map f) = (popsF l1 n z).map f
  | 0, z => rfl
  | n + 1, z => by
    unfold popsF
    rw [popF_map hf]
    cases popF l1 z with
    | none => rfl
    | some q => simp only [Option.map_some, List.map_cons]; rw [popsF_map hf n]
def finLt {k : Nat} (a b : Fin k) : Bool := decide (a < b)
/-- the heap sorts: two to five things -/
def sortsAt (k : Nat) (l : List (Fin k)) : Bool := popsF finLt k (hfF finLt (k / 2) l) == List.finRange k
theorem sorts2 : ∀ a b : Fin 2, [a, b].Nodup → sortsAt 2 [a, b] = true := by decide +kernel
theorem sorts3 : ∀ a b c : Fin 3, [a, b, c].Nodup → sortsAt 3 [a, b, c] = true := by decide +kernel
theorem sorts4 : ∀ a b c d : Fin 4, [a, b, c, d].Nodup → sortsAt 4 [a, b, c, d] = true := by decide +kernel
theorem sorts5 : ∀ a b c d e : Fin 5, [a, b, c, d, e].Nodup → sortsAt 5 [a, b, c, d, e] = true := by decide +kernel
theorem sorts_all {k : Nat} (h2 : 2 ≤ k) (h5 : k ≤ 5) (l : List (Fin k)) (hl : l.length = k) (hn : l.Nodup) : popsF finLt k (hfF finLt (k / 2) l) = List.finRange k := by
  refine eq_of_beq (show sortsAt k l = true from ?_)
  obtain rfl | rfl | rfl | rfl : k = 2 ∨ k = 3 ∨ k = 4 ∨ k = 5 := by omega
  · match l, hl, hn with
    | [a, b], _, hn => exact sorts2 a b hn
  · match l, hl, hn with
    | [a, b, c], _, hn => exact sorts3 a b c hn
  · match l, hl, hn with
    | [a, b, c, d], _, hn => exact sorts4 a b c d hn
  · match l, hl, hn with
    | [a, b, c, d, e], _, hn => exact sorts5 a b c d e hn
end Mine
end
section
open PySem PySem.W PyProof.Rows PySem.Calls
set_option maxRecDepth 100000
set_option maxHeartbeats 4000000
set_option linter.unusedVariables false
namespace Mine
/-! ## the order of the pops -/
theorem ord_exists (k : Nat) (h : Nat → Int) (hinj : ∀ a b, a < k → b < k → h a = h b → a = b) : ∃ ord : List Nat, ord.Perm (List.range k) ∧ ord.Pairwise fun a b => h a < h b := by
  refine ⟨(List.range k).mergeSort fun a b => decide (h a ≤ h b), List.mergeSort_perm _ _, ?_⟩
  have hp := List.mergeSort_perm (List.range k) fun a b => decide (h a ≤ h b)
  have h1 := List.pairwise_mergeSort (le := fun a b => decide (h a ≤ h b)) (fun a b c h1 h2 => by simp only [decide_eq_true_eq] at *; omega) (fun a b => by simp only [Bool.or_eq_true, decide_eq_true_eq]; omega) (List.range k)
  have h2 : ((List.range k).mergeSort fun a b => decide (h a ≤ h b)).Nodup := hp.nodup_iff.mpr List.nodup_range
  have h3 : ∀ a ∈ ((List.range k).mergeSort fun a b => decide (h a ≤ h b)), a < k := fun a ha => List.mem_range.mp (hp.mem_iff.mp ha)
  have h4 := h1.and h2
  refine h4.imp_of_mem ?_
  rintro a b ha hb ⟨hle, hne⟩
  have hle : h a ≤ h b := by simpa using hle
  have : h a ≠ h b := fun e => hne (hinj a b (h3 a ha) (h3 b hb) e)
  omega
theorem pops_order {β : Type} {k : Nat} (h2 : 2 ≤ k) (h5 : k ≤ 5) {zs : List β} (hl : zs.length = k) {lt : β → β → Bool} {h : Nat → Int} {g : β → Nat} {ord : List Nat} (hp : ord.Perm (List.range k)) (hs : ord.Pairwise fun a b => h a < h b)
    (hg : ∀ (i : Nat) (hi : i < zs.length), g zs[i] = i) (hlt : ∀ (i j : Nat) (hi : i < zs.length) (hj : j < zs.length), lt zs[i] zs[j] = decide (h i < h j)) :
    (popsF lt k (hfF lt (k / 2) zs)).map g = ord := by
  have hol : ord.length = k := by rw [hp.length_eq, List.length_range]
  have hok : ∀ i (hi : i < ord.length), ord[i] < zs.length := fun i hi => by rw [hl]; exact List.mem_range.mp (hp.mem_iff.mp (List.getElem_mem hi))
  have hmem : ∀ i, i < k → i ∈ ord := fun i hi => hp.mem_iff.mpr (List.mem_range.mpr hi)
  have hidx : ∀ i, i < k → ord.idxOf i < k := fun i hi => hol ▸ List.idxOf_lt_length_iff.mpr (hmem i hi)
  let e : Fin k → β := fun i => zs[ord[i.1]'(by rw [hol]; exact i.2)]'(hok _ _)
  let σ : List (Fin k) := (List.finRange k).map fun i => ⟨ord.idxOf i.1, hidx i.1 i.2⟩
  have hσl : σ.length = k := by simp [σ]
  have hgo : ∀ (i : Nat) (hi : i < k), ord[ord.idxOf i]'(by rw [hol]; exact hidx i hi) = i := fun i hi => List.getElem_idxOf _
  have hσn : σ.Nodup := by
    refine List.pairwise_map.mpr (List.Pairwise.imp ?_ (List.nodup_finRange k))
    intro a b hab he
    apply hab
    have : ord.idxOf a.1 = ord.idxOf b.1 := congrArg (fun x : Fin k => x.1) he
    apply Fin.ext
    have h1 := hgo a.1 a.2
    have h2 := hgo b.1 b.2
    rw [← h1, ← h2]
    simp only [this]
  have hz : zs = σ.map e := by
    refine List.ext_getElem (by simp [hl, hσl]) fun i h1 h2 => ?_
    have hik : i < k := by omega
    simp only [σ, e, List.getElem_map, List.getElem_finRange]
    congr 1
    exact (hgo i hik).symm
  have hmono : ∀ a b : Fin k, lt (e a) (e b) = finLt a b := by
    intro a b
    simp only [e]
    rw [hlt]
    unfold finLt
    have key : ∀ a b : Fin k, a < b → h (ord[a.1]'(by rw [hol]; exact a.2)) < h (ord[b.1]'(by rw [hol]; exact b.2)) := fun a b hab => List.pairwise_iff_getElem.mp hs a.1 b.1 (by rw [hol]; exact a.2) (by rw [hol]; exact b.2) hab
    rcases Nat.lt_trichotomy a.1 b.1 with hab | hab | hab
    · rw [decide_eq_true (key a b hab), decide_eq_true (show a < b from hab)]
    · have : a = b := Fin.ext hab
      subst this
      simp
    · have h1 := key b a hab
      have h2 : ¬ a < b := fun h => absurd (show a.1 < b.1 from h) (by omega)
      rw [decide_eq_false h2, decide_eq_false (by omega)]
  rw [show hfF lt (k / 2) zs = (hfF finLt (k / 2) σ).map e by rw [← hfF_map hmono, ← hz], popsF_map hmono, sorts_all h2 h5 σ hσl hσn, List.map_map]
  refine List.ext_getElem (by simp [hol]) fun i h1 h2 => ?_
  simp only [List.getElem_map, List.getElem_finRange, Function.comp_apply, e]
  rw [hg]
  rfl
/-- the texts, one after another, as the words are turned -/
def scanT (wd : Nat) : List Nat → List UInt8 → List (List UInt8) × List UInt8
  | [], x => ([], x)
  | p :: r, x => let y := scanT wd r (turnAt x p wd); (turnAt x p wd :: y.1, y.2)
theorem stepsF_scan (g : Bool) (wd : Nat) : ∀ (n : Nat) (z : Zs) (x : List UInt8), stepsF g wd n z x = scanT wd ((popsF (ltG g) n z).map fun q => q.2.2.toNat) x
  | 0, z, x => rfl
  | n + 1, z, x => by
    unfold stepsF popsF
    cases popF (ltG g) z with
    | none => rfl
    | some q =>
      simp only [List.map_cons, scanT]
      rw [stepsF_scan g wd n]
end Mine
end
section
open PySem PySem.W PyProof.Rows PySem.Calls
set_option maxRecDepth 100000
set_option maxHeartbeats 4000000
set_option linter.unusedVariables false
namespace Mine
/-! ## the words and their bytes -/
def dig (n : Int) (p : Nat) : Int := (n.fdiv (256 ^ p)).fmod 256
theorem dig_eq (n : Int) (p : Nat) : dig n p = n / 256 ^ p % 256 := by
  unfold dig
  rw [Int.fdiv_eq_ediv_of_nonneg _ (Int.le_of_lt (Int.pow_pos (by decide))), Int.fmod_eq_emod_of_nonneg _ (by decide)]
theorem dig_nonneg (n : Int) (p : Nat) : 0 ≤ dig n p := by rw [dig_eq]; exact Int.emod_nonneg _ (by decide)
theorem dig_lt (n : Int) (p : Nat) : dig n p < 256 := by rw [dig_eq]; exact Int.emod_lt_of_pos _ (by decide)
theorem otherN2 (n : Int) : otherN n 2 = dig n 0 * 256 + dig n 1 := by simp [otherN, preSum, otherV, dig]
theorem otherN3 (n : Int) : otherN n 3 = dig n 0 * 65536 + dig n 1 * 256 + dig n 2 := by simp [otherN, preSum, otherV, dig]
theorem otherN4 (n : Int) : otherN n 4 = dig n 0 * 16777216 + dig n 1 * 65536 + dig n 2 * 256 + dig n 3 := by simp [otherN, preSum, otherV, dig]
theorem other_range {n : Int} {wd : Nat} (h2 : 2 ≤ wd) (h4 : wd ≤ 4) : 0 ≤ otherN n wd ∧ otherN n wd < 256 ^ wd := by
  have a0 := dig_nonneg n 0; have a1 := dig_nonneg n 1; have a2 := dig_nonneg n 2; have a3 := dig_nonneg n 3
  have b0 := dig_lt n 0; have b1 := dig_lt n 1; have b2 := dig_lt n 2; have b3 := dig_lt n 3
  obtain rfl | rfl | rfl : wd = 2 ∨ wd = 3 ∨ wd = 4 := by omega
  · rw [otherN2]; omega
  · rw [otherN3]; omega
  · rw [otherN4]; omega
theorem dig_other {n : Int} {wd : Nat} (h2 : 2 ≤ wd) (h4 : wd ≤ 4) {q : Nat} (hq : q < wd) : dig (otherN n wd) q = dig n (wd - 1 - q) := by
  have a0 := dig_nonneg n 0; have a1 := dig_nonneg n 1; have a2 := dig_nonneg n 2; have a3 := dig_nonneg n 3
  have b0 := dig_lt n 0; have b1 := dig_lt n 1; have b2 := dig_lt n 2; have b3 := dig_lt n 3
  rw [dig_eq (otherN n wd)]
  obtain rfl | rfl | rfl : wd = 2 ∨ wd = 3 ∨ wd = 4 := by omega
  · rw [otherN2]
    obtain rfl | rfl : q = 0 ∨ q = 1 := by omega
    all_goals (generalize dig n 0 = d0 at *; generalize dig n 1 = d1 at *; simp only [Nat.reduceSub, Int.reducePow]; omega)
  · rw [otherN3]
    obtain rfl | rfl | rfl : q = 0 ∨ q = 1 ∨ q = 2 := by omega
    all_goals simp only [Nat.reduceSub, Int.reducePow]
    all_goals (generalize dig n 0 = d0 at *; generalize dig n 1 = d1 at *; generalize dig n 2 = d2 at *; omega)
  · rw [otherN4]
    obtain rfl | rfl | rfl | rfl : q = 0 ∨ q = 1 ∨ q = 2 ∨ q = 3 := by omega
    all_goals simp only [Nat.reduceSub, Int.reducePow]
    all_goals (generalize dig n 0 = d0 at *; generalize dig n 1 = d1 at *; generalize dig n 2 = d2 at *; generalize dig n 3 = d3 at *; omega)
theorem sum_dig {n : Int} {wd : Nat} (h2 : 2 ≤ wd) (h4 : wd ≤ 4) (h0 : 0 ≤ n) (h1 : n < 256 ^ wd) : preSum (fun p => dig n p * 256 ^ p) wd = n := by
  obtain rfl | rfl | rfl : wd = 2 ∨ wd = 3 ∨ wd = 4 := by omega
  all_goals (simp only [preSum, dig_eq, Int.reducePow] at *; omega)
theorem bytesOf_dig (n : Int) (wd : Nat) : bytesOf n wd = (List.range wd).map fun p => (dig n p).toNat.toUInt8 := rfl
theorem bytesOf_length (n : Int) (wd : Nat) : (bytesOf n wd).length = wd := by simp [bytesOf]
theorem bytesOf_get (n : Int) {wd p : Nat} (hp : p < wd) : (bytesOf n wd).getD p 0 = (dig n p).toNat.toUInt8 := by simp [bytesOf_dig, List.getD, hp]
theorem byte_val (n : Int) (p : Nat) : ((dig n p).toNat.toUInt8.toNat : Int) = dig n p := by
  have a := dig_nonneg n p
  have b := dig_lt n p
  rw [Nat.toUInt8_eq, UInt8.toNat_ofNat']
  omega
theorem laidB_cons (n : Int) (ns : List Int) (wd : Nat) : laidB (n :: ns) wd = bytesOf n wd ++ laidB ns wd := rfl
theorem laidB_append (a b : List Int) (wd : Nat) : laidB (a ++ b) wd = laidB a wd ++ laidB b wd := by simp [laidB]
theorem laidB_get {wd : Nat} : ∀ (ns : List Int) (j p : Nat), j < ns.length → p < wd → (laidB ns wd).getD (j * wd + p) 0 = (dig (ns.getD j 0) p).toNat.toUInt8
  | [], j, p, h, _ => absurd h (by simp)
  | n :: r, 0, p, h, hp => by
    rw [laidB_cons, Nat.zero_mul, Nat.zero_add, List.getD, List.getElem?_append_left (by rw [bytesOf_length]; exact hp)]
    exact bytesOf_get n hp
  | n :: r, j + 1, p, h, hp => by
    have e : (j + 1) * wd + p = wd + (j * wd + p) := by rw [Nat.succ_mul]; omega
    have := laidB_get r j p (by simpa using h) hp
    rw [laidB_cons, e, List.getD, List.getElem?_append_right (by rw [bytesOf_length]; omega), bytesOf_length, Nat.add_sub_cancel_left]
    exact this
theorem word_laid {ns : List Int} {wd j : Nat} (h2 : 2 ≤ wd) (h4 : wd ≤ 4) (hj : j < ns.length) (hr : ∀ n ∈ ns, 0 ≤ n ∧ n < 256 ^ wd) : wordV (laidB ns wd) wd j = ns.getD j 0 := by
  have hm : ns.getD j 0 ∈ ns := by simp [List.getD, hj]
  rw [← sum_dig h2 h4 (hr _ hm).1 (hr _ hm).2]
  unfold wordV
  have : ∀ m, m ≤ wd → preSum (fun p => ((laidB ns wd).getD (j * wd + p) 0).toNat * 256 ^ p) m = preSum (fun p => dig (ns.getD j 0) p * 256 ^ p) m := by
    intro m
    induction m with
    | zero => intro _; rfl
    | succ m ih =>
      intro hm
      simp only [preSum]
      rw [ih (by omega), laidB_get ns j m hj (by omega), byte_val]
  exact this wd (Nat.le_refl _)
theorem swap_laid {ns : List Int} {wd : Nat} (h2 : 2 ≤ wd) (h4 : wd ≤ 4) : swapB (laidB ns wd) wd = laidB (ns.map fun n => otherN n wd) wd := by
  refine List.ext_getElem (by simp [swapB, laidB_length]) fun q h1 h3 => ?_
  have hl : (laidB (ns.map fun n => otherN n wd) wd).length = ns.length * wd := by rw [laidB_length]; simp
  have hq : q < ns.length * wd := by omega
  have hj : q / wd < ns.length := Nat.div_lt_of_lt_mul (by rw [Nat.mul_comm]; exact hq)
  have hc : q % wd < wd := Nat.mod_lt _ (by omega)
  have hqe : q / wd * wd + q % wd = q := by rw [Nat.mul_comm]; exact Nat.div_add_mod q wd
  have hr : (laidB (ns.map fun n => otherN n wd) wd)[q] = (laidB (ns.map fun n => otherN n wd) wd).getD (q / wd * wd + q % wd) 0 := by
    rw [hqe]; simp [List.getD, h3]
  rw [hr, laidB_get _ _ _ (by simpa using hj) hc]
  simp only [swapB, List.getElem_map, List.getElem_range]
  rw [laidB_get _ _ _ hj (by omega)]
  have : (ns.map fun n => otherN n wd).getD (q / wd) 0 = otherN (ns.getD (q / wd) 0) wd := by simp [List.getD, hj]
  rw [this, dig_other h2 h4 hc]
theorem turn_laid {ms : List Int} {wd p : Nat} (h2 : 2 ≤ wd) (h4 : wd ≤ 4) (hp : p < ms.length) : turnAt (laidB ms wd) p wd = laidB (ms.set p (otherN (ms.getD p 0) wd)) wd := by
  obtain ⟨a, m, b, rfl, rfl⟩ : ∃ a m b, ms = a ++ m :: b ∧ p = a.length := ⟨ms.take p, ms[p], ms.drop (p + 1), by simp, by simp; omega⟩
  have la : (laidB a wd).length = a.length * wd := laidB_length wd a
  have e1 : laidB (a ++ m :: b) wd = laidB a wd ++ (bytesOf m wd ++ laidB b wd) := by rw [laidB_append, laidB_cons]
  have hg : (a ++ m :: b).getD a.length 0 = m := by simp
  have hset : (a ++ m :: b).set a.length (otherN m wd) = a ++ otherN m wd :: b := by simp
  have hs : swapB (bytesOf m wd) wd = bytesOf (otherN m wd) wd := by
    have := swap_laid (ns := [m]) h2 h4
    simpa [laidB] using this
  unfold turnAt
  rw [hg, hset, e1, laidB_append a, laidB_cons]
  have t1 : (laidB a wd ++ (bytesOf m wd ++ laidB b wd)).take (a.length * wd) = laidB a wd := by rw [← la]; exact List.take_left' rfl
  have t2 : (laidB a wd ++ (bytesOf m wd ++ laidB b wd)).drop (a.length * wd) = bytesOf m wd ++ laidB b wd := by rw [← la]; exact List.drop_left' rfl
  have t3 : (bytesOf m wd ++ laidB b wd).take wd = bytesOf m wd := List.take_left' (bytesOf_length m wd)
  have t4 : (laidB a wd ++ (bytesOf m wd ++ laidB b wd)).drop (a.length * wd + wd) = laidB b wd := by
    rw [← List.drop_drop, t2]; exact List.drop_left' (bytesOf_length m wd)
  rw [t1, t2, t3, t4, hs, List.append_assoc]
end Mine
end
section
open PySem PySem.W PyProof.Rows PySem.Calls
set_option maxRecDepth 100000
set_option maxHeartbeats 4000000
set_option linter.unusedVariables false
namespace Mine
/-! ## the best choice of so many places is the first so many of the order -/
section
variable {h : Nat → Int}
theorem take_less : ∀ (r : List Nat) (x : Nat) (c : Nat), (x :: r).Pairwise (fun a b => h a < h b) → c ≤ r.length →
    (((x :: r).take c).map h).sum ≤ ((r.take c).map h).sum ∧ (0 < c → (((x :: r).take c).map h).sum < ((r.take c).map h).sum)
  | r, x, 0, _, _ => ⟨by simp, fun h => absurd h (by omega)⟩
  | [], x, c + 1, _, hc => absurd hc (by simp)
  | y :: r, x, c + 1, hp, hc => by
    have hxy : h x < h y := (List.pairwise_cons.mp hp).1 y (by simp)
    have ih := take_less r y c (List.pairwise_cons.mp hp).2 (by simpa using hc)
    simp only [List.take_succ_cons, List.map_cons, List.sum_cons] at *
    have := ih.1
    exact ⟨by omega, fun _ => by omega⟩
theorem take_best (b : Nat → Bool) : ∀ (l : List Nat), l.Pairwise (fun a b => h a < h b) →
    ((l.take (l.countP b)).map h).sum ≤ ((l.filter b).map h).sum ∧ (((l.filter b).map h).sum ≤ ((l.take (l.countP b)).map h).sum → l.filter b = l.take (l.countP b))
  | [], _ => by simp
  | x :: r, hp => by
    have ih := take_best b r (List.pairwise_cons.mp hp).2
    by_cases hb : b x = true
    · rw [List.countP_cons_of_pos hb, List.filter_cons_of_pos hb, List.take_succ_cons]
      simp only [List.map_cons, List.sum_cons]
      refine ⟨by have := ih.1; omega, fun h => ?_⟩
      rw [ih.2 (by omega)]
    · rw [List.countP_cons_of_neg hb, List.filter_cons_of_neg hb]
      have hl := take_less r x (r.countP b) hp List.countP_le_length
      refine ⟨Int.le_trans hl.1 ih.1, fun h => ?_⟩
      by_cases hc : 0 < r.countP b
      · have := hl.2 hc
        have := ih.1
        omega
      · have hc : r.countP b = 0 := by omega
        rw [hc, List.take_zero]
        exact List.filter_eq_nil_iff.mpr (List.countP_eq_zero.mp hc)
end
theorem filter_take {l : List Nat} (hn : l.Nodup) (c : Nat) : l.filter (fun p => decide (p ∈ l.take c)) = l.take c := by
  have key : ∀ a b : List Nat, (a ++ b).Nodup → (a ++ b).filter (fun p => decide (p ∈ a)) = a := by
    intro a b h
    rw [List.filter_append, List.filter_eq_self.mpr (by simp), List.filter_eq_nil_iff.mpr, List.append_nil]
    intro x hx
    simp only [decide_eq_true_eq]
    exact fun hxa => (List.nodup_append.mp h).2.2 x hxa x hx rfl
  have := key (l.take c) (l.drop c) (by rw [List.take_append_drop]; exact hn)
  rw [List.take_append_drop] at this
  exact this
theorem mask_exists (b : Nat → Bool) : ∀ k, ∃ m, m < 2 ^ k ∧ ∀ p, p < k → bitOn m p = b p
  | 0 => ⟨0, by simp, fun p h => absurd h (by omega)⟩
  | k + 1 => by
    obtain ⟨m, hm, hb⟩ := mask_exists b k
    have hpos : 0 < 2 ^ k := Nat.pow_pos (by decide)
    cases hk : b k with
    | false =>
      refine ⟨m, by rw [Nat.pow_succ]; omega, fun p hp => ?_⟩
      by_cases hpk : p = k
      · subst hpk
        rw [hk]
        unfold bitOn
        rw [Nat.div_eq_of_lt hm]; rfl
      · exact hb p (by omega)
    | true =>
      refine ⟨m + 2 ^ k, by rw [Nat.pow_succ]; omega, fun p hp => ?_⟩
      by_cases hpk : p = k
      · subst hpk
        rw [hk]
        unfold bitOn
        rw [Nat.add_div_right _ hpos, Nat.div_eq_of_lt hm]; rfl
      · have hpk : p < k := by omega
        rw [← hb p hpk]
        unfold bitOn
        have e : 2 ^ k = 2 ^ p * (2 * 2 ^ (k - p - 1)) := by
          rw [← Nat.pow_succ', ← Nat.pow_add]; congr 1; omega
        rw [e, Nat.add_mul_div_left _ _ (Nat.pow_pos (by decide)), Nat.add_mul_mod_self_left]
/-! ## the weights -/
def gainN (ns : List Int) (wd p : Nat) : Int := otherN (ns.getD p 0) wd - ns.getD p 0
def wtN (ns : List Int) (wd p : Nat) : Int := 64 * gainN ns wd p - 2 ^ (ns.length - 1 - p)
def lexW (k mask : Nat) : Int := ((placesOf k mask).map fun p => (2 : Int) ^ (k - 1 - p)).sum
def wtOf (ns : List Int) (wd mask : Nat) : Int := ((placesOf ns.length mask).map (wtN ns wd)).sum
theorem lexW_le : ∀ k < 6, ∀ j < 2 ^ k, 0 ≤ lexW k j ∧ lexW k j ≤ 31 := by decide +kernel
theorem lexW_lex : ∀ k < 6, ∀ j < 2 ^ k, ∀ t < 2 ^ k, (placesOf k j).length = (placesOf k t).length →
    lexLt ((placesOf k j).map fun q : Nat => (q : Int)) ((placesOf k t).map fun q : Nat => (q : Int)) = decide (lexW k t < lexW k j) := by decide +kernel
theorem wt_sum (ns : List Int) (wd : Nat) (l : List Nat) : (l.map (wtN ns wd)).sum = 64 * (l.map (gainN ns wd)).sum - (l.map fun p => (2 : Int) ^ (ns.length - 1 - p)).sum := by
  induction l with
  | nil => rfl
  | cons a r ih => simp only [List.map_cons, List.sum_cons, ih, wtN]; omega
theorem sum_made (ns : List Int) (wd mask : Nat) : ∀ m, preSum (madeV ns wd mask) m = preSum (fun p => ns.getD p 0) m + (((List.range m).filter (bitOn mask)).map (gainN ns wd)).sum
  | 0 => rfl
  | m + 1 => by
    simp only [preSum, List.range_succ, List.filter_append, List.map_append, List.sum_append]
    rw [sum_made ns wd mask m]
    by_cases hb : bitOn mask m = true
    · rw [List.filter_cons_of_pos hb]
      simp only [madeV, hb, if_true, List.filter_nil, List.map_cons, List.map_nil, List.sum_cons, List.sum_nil, gainN]
      omega
    · rw [List.filter_cons_of_neg hb]
      have hb' : bitOn mask m = false := by simpa using hb
      simp only [madeV, hb', Bool.false_eq_true, if_false, List.filter_nil, List.map_nil, List.sum_nil]
      omega
theorem trip_wt {ns : List Int} {wd j t : Nat} (hk : ns.length < 6) (hj : j < 2 ^ ns.length) (ht : t < 2 ^ ns.length) (hjt : (placesOf ns.length j).length = (placesOf ns.length t).length) :
    tripLt (keyOf ns wd j) (keyOf ns wd t) = decide (wtOf ns wd j < wtOf ns wd t) := by
  have a1 := lexW_le ns.length hk j hj
  have a2 := lexW_le ns.length hk t ht
  have a3 := lexW_lex ns.length hk j hj t ht hjt
  have s1 : sumOf ns wd j = preSum (fun p => ns.getD p 0) ns.length + ((placesOf ns.length j).map (gainN ns wd)).sum := sum_made ns wd j ns.length
  have s2 : sumOf ns wd t = preSum (fun p => ns.getD p 0) ns.length + ((placesOf ns.length t).map (gainN ns wd)).sum := sum_made ns wd t ns.length
  have w1 : wtOf ns wd j = 64 * ((placesOf ns.length j).map (gainN ns wd)).sum - lexW ns.length j := wt_sum ns wd _
  have w2 : wtOf ns wd t = 64 * ((placesOf ns.length t).map (gainN ns wd)).sum - lexW ns.length t := wt_sum ns wd _
  unfold tripLt keyOf
  dsimp only
  generalize ((placesOf ns.length j).map (gainN ns wd)).sum = x at *
  generalize ((placesOf ns.length t).map (gainN ns wd)).sum = y at *
  by_cases he : sumOf ns wd j = sumOf ns wd t
  · rw [if_pos he, a3]
    exact decide_eq_decide.mpr (by omega)
  · rw [if_neg he]
    exact decide_eq_decide.mpr (by omega)
theorem argBest_best {f : Nat → Int} {bt : Nat → Nat → Bool} : ∀ n, (∀ i j, i ≤ n → j ≤ n → bt i j = decide (f i < f j)) → argBest bt n ≤ n ∧ ∀ i, i ≤ n → f (argBest bt n) ≤ f i
  | 0, _ => ⟨Nat.le_refl _, fun i hi => by rw [show i = 0 by omega]; exact Int.le_refl _⟩
  | n + 1, hb => by
    obtain ⟨h1, h2⟩ := argBest_best n fun i j hi hj => hb i j (by omega) (by omega)
    unfold argBest
    rw [hb (n + 1) (argBest bt n) (by omega) (by omega)]
    by_cases hlt : f (n + 1) < f (argBest bt n)
    · simp only [hlt, decide_true, if_true]
      refine ⟨Nat.le_refl _, fun i hi => ?_⟩
      by_cases hi' : i = n + 1
      · rw [hi']; exact Int.le_refl _
      · have := h2 i (by omega); omega
    · simp only [hlt, decide_false, Bool.false_eq_true, if_false]
      refine ⟨by omega, fun i hi => ?_⟩
      by_cases hi' : i = n + 1
      · rw [hi']; omega
      · exact h2 i (by omega)
end Mine
end
section
open PySem PySem.W PyProof.Rows PySem.Calls
set_option maxRecDepth 100000
set_option maxHeartbeats 4000000
set_option linter.unusedVariables false
namespace Mine
/-! ## the two ways as one -/
def sgn (g : Bool) : Int := if g then -1 else 1
def bestMask (g : Bool) (ns : List Int) (wd c : Nat) : Nat := if g then maxMask ns wd c else minMask ns wd c
def hW (g : Bool) (ns : List Int) (wd p : Nat) : Int := sgn g * wtN ns wd p
theorem hW_sum (g : Bool) (ns : List Int) (wd : Nat) (l : List Nat) : (l.map (hW g ns wd)).sum = sgn g * (l.map (wtN ns wd)).sum := by
  induction l with
  | nil => simp
  | cons a r ih => simp only [List.map_cons, List.sum_cons, ih, hW, Int.mul_add]
theorem perm_sum {l l' : List Int} (h : l.Perm l') : l.sum = l'.sum := by
  induction h with
  | nil => rfl
  | cons x _ ih => simp only [List.sum_cons, ih]
  | swap x y l => simp only [List.sum_cons]; omega
  | trans _ _ ih1 ih2 => rw [ih1, ih2]
theorem rowIdx_mem {k c j : Nat} : j ∈ rowIdx k c ↔ j < 2 ^ k ∧ (placesOf k j).length = c := by
  unfold rowIdx
  rw [List.mem_filter, List.mem_range]
  simp
theorem best_mask {ns : List Int} {wd c : Nat} (g : Bool) (hk : ns.length < 6) (hc : c < ns.length + 1) :
    bestMask g ns wd c ∈ rowIdx ns.length c ∧ ∀ j ∈ rowIdx ns.length c, sgn g * wtOf ns wd (bestMask g ns wd c) ≤ sgn g * wtOf ns wd j := by
  have hne := row_ne ns.length hk c hc
  have hpos : 0 < (rowIdx ns.length c).length := List.length_pos_iff.mpr hne
  generalize hr : rowIdx ns.length c = row at *
  have hmem : ∀ i, i ≤ row.length - 1 → row.getD i 0 ∈ row := fun i hi => by
    have : i < row.length := by omega
    simp [List.getD, this]
  have hcmp : ∀ i j, i ≤ row.length - 1 → j ≤ row.length - 1 → tripLt (keyOf ns wd (row.getD i 0)) (keyOf ns wd (row.getD j 0)) = decide (wtOf ns wd (row.getD i 0) < wtOf ns wd (row.getD j 0)) := fun i j hi hj => by
    have h1 := hmem i hi
    have h2 := hmem j hj
    rw [← hr, rowIdx_mem] at h1 h2
    rw [← hr]
    exact trip_wt hk h1.1 h2.1 (by rw [h1.2, h2.2])
  have out : ∀ (bt : Nat → Nat → Bool), (∀ i j, i ≤ row.length - 1 → j ≤ row.length - 1 → bt i j = decide (sgn g * wtOf ns wd (row.getD i 0) < sgn g * wtOf ns wd (row.getD j 0))) →
      row.getD (argBest bt (row.length - 1)) 0 ∈ row ∧ ∀ j ∈ row, sgn g * wtOf ns wd (row.getD (argBest bt (row.length - 1)) 0) ≤ sgn g * wtOf ns wd j := by
    intro bt hbt
    obtain ⟨h1, h2⟩ := argBest_best (f := fun i => sgn g * wtOf ns wd (row.getD i 0)) (row.length - 1) hbt
    refine ⟨hmem _ h1, fun j hj => ?_⟩
    obtain ⟨i, hi, rfl⟩ := List.getElem_of_mem hj
    have := h2 i (by omega)
    simpa [List.getD, hi] using this
  cases g with
  | false =>
    have := out (btMin ns wd row) fun i j hi hj => by
      unfold btMin
      rw [hcmp i j hi hj]
      exact decide_eq_decide.mpr (by simp [sgn])
    simpa [bestMask, minMask, hr] using this
  | true =>
    have := out (btMax ns wd row) fun i j hi hj => by
      unfold btMax
      rw [hcmp j i hj hi]
      exact decide_eq_decide.mpr (by simp [sgn])
    simpa [bestMask, maxMask, hr] using this
/-- the best choice is the head of the order -/
theorem best_is {ns : List Int} {wd c : Nat} {g : Bool} {ord : List Nat} (hk : ns.length < 6) (hc : c < ns.length + 1) (hp : ord.Perm (List.range ns.length)) (hs : ord.Pairwise fun a b => hW g ns wd a < hW g ns wd b) :
    ∀ p, p < ns.length → bitOn (bestMask g ns wd c) p = decide (p ∈ ord.take c) := by
  have hnd : ord.Nodup := hp.nodup_iff.mpr List.nodup_range
  have hol : ord.length = ns.length := by rw [hp.length_eq, List.length_range]
  have hmem : ∀ p, p ∈ ord ↔ p < ns.length := fun p => by rw [hp.mem_iff, List.mem_range]
  obtain ⟨hb1, hb2⟩ := best_mask (wd := wd) g hk hc
  obtain ⟨hbk, hbc⟩ := rowIdx_mem.mp hb1
  obtain ⟨t, htk, htb⟩ := mask_exists (fun p => decide (p ∈ ord.take c)) ns.length
  have hf : ∀ m, (ord.filter (bitOn m)).Perm (placesOf ns.length m) := fun m => hp.filter _
  have hw : ∀ m, ((ord.filter (bitOn m)).map (hW g ns wd)).sum = sgn g * wtOf ns wd m := fun m => by
    rw [perm_sum ((hf m).map (hW g ns wd)), hW_sum]; rfl
  have hcount : ∀ m, ord.countP (bitOn m) = (placesOf ns.length m).length := fun m => by rw [List.countP_eq_length_filter, (hf m).length_eq]
  have hft : ord.filter (bitOn t) = ord.take c := by
    rw [← filter_take hnd c]
    refine List.filter_congr fun p hpm => ?_
    exact htb p ((hmem p).mp hpm)
  have htc : (placesOf ns.length t).length = c := by
    rw [← (hf t).length_eq, hft, List.length_take]; omega
  have h1 := hb2 t (rowIdx_mem.mpr ⟨htk, htc⟩)
  obtain ⟨h2, h3⟩ := take_best (bitOn (bestMask g ns wd c)) ord hs
  rw [hcount, hbc, hw] at h2 h3
  rw [← hw t, hft] at h1
  have hfin := h3 h1
  intro p hpk
  rw [← hfin, Bool.eq_iff_iff]
  simp only [List.mem_filter, decide_eq_true_eq, hmem, hpk, true_and]
/-! ## the texts of the steps -/
def mkN (ns : List Int) (wd : Nat) (l : List Nat) : List Int := (List.range ns.length).map fun p => if p ∈ l then otherN (ns.getD p 0) wd else ns.getD p 0
theorem made_mk {ns : List Int} {wd mask : Nat} {l : List Nat} (h : ∀ p, p < ns.length → bitOn mask p = decide (p ∈ l)) : madeOf ns wd mask = mkN ns wd l := by
  refine List.map_congr_left fun p hp => ?_
  have := h p (List.mem_range.mp hp)
  unfold madeV
  rw [this]
  by_cases hpl : p ∈ l
  · simp [hpl]
  · simp [hpl]
theorem mk_turn {ns : List Int} {wd p : Nat} {pre : List Nat} (hp : p < ns.length) (hn : p ∉ pre) : (mkN ns wd pre).set p (otherN ((mkN ns wd pre).getD p 0) wd) = mkN ns wd (pre ++ [p]) := by
  have e : (mkN ns wd pre).getD p 0 = ns.getD p 0 := by simp [mkN, List.getD, hp, hn]
  rw [e]
  refine List.ext_getElem (by simp [mkN]) fun q h1 h2 => ?_
  rw [List.getElem_set]
  by_cases hq : p = q
  · subst hq
    simp [mkN]
  · have hq' : q ≠ p := fun h => hq h.symm
    simp [mkN, hq, hq']
theorem scan_laid {ns : List Int} {wd : Nat} (h2 : 2 ≤ wd) (h4 : wd ≤ 4) : ∀ (rest pre : List Nat), (pre ++ rest).Nodup → (∀ p ∈ rest, p < ns.length) →
    scanT wd rest (laidB (mkN ns wd pre) wd) = ((List.range rest.length).map (fun i => laidB (mkN ns wd (pre ++ rest.take (i + 1))) wd), laidB (mkN ns wd (pre ++ rest)) wd)
  | [], pre, _, _ => by simp [scanT]
  | p :: r, pre, hn, hr => by
    have hp : p < ns.length := hr p (by simp)
    have hpp : p ∉ pre := fun h => (List.nodup_append.mp hn).2.2 p h p (by simp) rfl
    have ht : turnAt (laidB (mkN ns wd pre) wd) p wd = laidB (mkN ns wd (pre ++ [p])) wd := by
      rw [turn_laid h2 h4 (by simpa [mkN] using hp), mk_turn hp hpp]
    have ih := scan_laid h2 h4 r (pre ++ [p]) (by simpa using hn) fun q hq => hr q (by simp [hq])
    simp only [scanT, ht, ih, List.length_cons, List.range_succ_eq_map, List.map_cons, List.map_map, List.append_assoc, List.singleton_append]
    congr 1
end Mine
end
section
open PySem PySem.W PyProof.Rows PySem.Calls
set_option maxRecDepth 100000
set_option maxHeartbeats 4000000
set_option linter.unusedVariables false
namespace Mine
theorem pw_lt : ∀ k < 6, ∀ i < k, ∀ j < k, i < j → (2 : Int) ^ (k - 1 - j) < 2 ^ (k - 1 - i) := by decide +kernel
theorem pw_le : ∀ k < 6, ∀ i < k, (1 : Int) ≤ 2 ^ (k - 1 - i) ∧ (2 : Int) ^ (k - 1 - i) ≤ 16 := by decide +kernel
theorem wt_lt {ns : List Int} {wd i j : Nat} (hk : ns.length < 6) (hi : i < ns.length) (hj : j < ns.length) : pairLt (gainN ns wd i, (i : Int)) (gainN ns wd j, (j : Int)) = decide (wtN ns wd i < wtN ns wd j) := by
  have a := pw_le ns.length hk i hi
  have b := pw_le ns.length hk j hj
  have c := pw_lt ns.length hk i hi j hj
  have d := pw_lt ns.length hk j hj i hi
  have f : i = j → (2 : Int) ^ (ns.length - 1 - i) = 2 ^ (ns.length - 1 - j) := fun e => by rw [e]
  unfold pairLt wtN
  dsimp only
  generalize (2 : Int) ^ (ns.length - 1 - i) = x at *
  generalize (2 : Int) ^ (ns.length - 1 - j) = y at *
  by_cases he : gainN ns wd i = gainN ns wd j
  · rw [if_pos he]
    refine decide_eq_decide.mpr ⟨fun h => ?_, fun h => ?_⟩
    · have := c (by omega); omega
    · rcases Nat.lt_trichotomy i j with q | q | q
      · omega
      · have := f q; omega
      · have := d q; omega
  · rw [if_neg he]
    exact decide_eq_decide.mpr (by omega)
theorem wt_inj {ns : List Int} {wd i j : Nat} (hk : ns.length < 6) (hi : i < ns.length) (hj : j < ns.length) (h : wtN ns wd i = wtN ns wd j) : i = j := by
  have a := pw_le ns.length hk i hi
  have b := pw_le ns.length hk j hj
  have c := pw_lt ns.length hk i hi j hj
  have d := pw_lt ns.length hk j hj i hi
  unfold wtN at h
  rcases Nat.lt_trichotomy i j with q | q | q
  · have := c q; omega
  · exact q
  · have := d q; omega
theorem gain_laid {ns : List Int} {wd j : Nat} (h2 : 2 ≤ wd) (h4 : wd ≤ 4) (hr : ∀ n ∈ ns, 0 ≤ n ∧ n < 256 ^ wd) (hj : j < ns.length) : gainV (laidB ns wd) wd j = gainN ns wd j := by
  unfold gainV gainN
  rw [swap_laid h2 h4, word_laid h2 h4 (by simpa using hj) (fun n hn => ?_), word_laid h2 h4 hj hr]
  · simp [List.getD, hj]
  · obtain ⟨m, _, rfl⟩ := List.mem_map.mp hn
    exact other_range h2 h4
/-- the plain law -/
theorem steps_law {ns : List Int} {wd : Nat} (g : Bool) {as : List Addr} (hn2 : 2 ≤ ns.length) (hn5 : ns.length ≤ 5) (h2 : 2 ≤ wd) (h4 : wd ≤ 4) (hr : ∀ n ∈ ns, 0 ≤ n ∧ n < 256 ^ wd) (hal : as.length = ns.length) :
    stepsRes g (laidB ns wd) wd as = (List.range ns.length).map fun c => laidB (madeOf ns wd (bestMask g ns wd (c + 1))) wd := by
  have hk : ns.length < 6 := by omega
  obtain ⟨ord, hp, hs⟩ := ord_exists ns.length (hW g ns wd) (by
    intro a b ha hb he
    refine wt_inj (wd := wd) hk ha hb ?_
    cases g <;> simp [hW, sgn] at he <;> exact he)
  have hol : ord.length = ns.length := by rw [hp.length_eq, List.length_range]
  have hnd : ord.Nodup := hp.nodup_iff.mpr List.nodup_range
  have hzl : (pairZ (laidB ns wd) wd as).length = ns.length := by simp [pairZ, hal]
  have hz : ∀ (i : Nat) (hi : i < (pairZ (laidB ns wd) wd as).length), (pairZ (laidB ns wd) wd as)[i].2 = (gainN ns wd i, (i : Int)) := by
    intro i hi
    simp only [pairZ, List.getElem_map, List.getElem_zipIdx, Nat.zero_add]
    rw [gain_laid h2 h4 hr (by omega)]
  have hord := pops_order (k := ns.length) hn2 hn5 hzl (lt := ltG g) (h := hW g ns wd) (g := fun q => q.2.2.toNat) hp hs
    (fun i hi => by rw [hz i hi]; simp)
    (fun i j hi hj => by
      have e := wt_lt (wd := wd) hk (show i < ns.length by omega) (show j < ns.length by omega)
      have e' := wt_lt (wd := wd) hk (show j < ns.length by omega) (show i < ns.length by omega)
      cases g with
      | false =>
        show pairLt _ _ = _
        rw [hz i hi, hz j hj, e]
        exact decide_eq_decide.mpr (by simp [hW, sgn])
      | true =>
        show pairLt _ _ = _
        rw [hz i hi, hz j hj, e']
        exact decide_eq_decide.mpr (by simp [hW, sgn]))
  have hmk0 : mkN ns wd [] = ns := by
    refine List.ext_getElem (by simp [mkN]) fun q h1 h2 => ?_
    simp [mkN, List.getD, h2]
  have hmkA : mkN ns wd ord = ns.map fun n => otherN n wd := by
    refine List.ext_getElem (by simp [mkN]) fun q h1 h2 => ?_
    have hq : q < ns.length := by simpa using h2
    have hm : q ∈ ord := hp.mem_iff.mpr (List.mem_range.mpr hq)
    simp [mkN, List.getD, hq, hm]
  have hsc := scan_laid (ns := ns) (wd := wd) h2 h4 ord [] (by simpa using hnd) fun p hpm => List.mem_range.mp (hp.mem_iff.mp hpm)
  rw [hmk0] at hsc
  simp only [List.nil_append, hmkA, hol] at hsc
  unfold stepsRes
  rw [stepsF_scan, hal, hzl, hord, hsc]
  simp only [swap_laid h2 h4, if_true]
  refine List.map_congr_left fun c hc => ?_
  rw [made_mk (best_is hk (by have := List.mem_range.mp hc; omega) hp hs)]
end Mine
end
section
open PySem PySem.W PyProof.Rows PySem.Calls
open Sem (wp)
set_option maxRecDepth 100000
set_option maxHeartbeats 4000000
set_option linter.unusedVariables false
namespace Mine
/-- the law, whole -/
theorem law_true {w : World} {A : Around} {E : Value → Shared → Prop} {s : Shared} {b₀ : Heap} (hB : Bs w b₀) (R : Rm 8 A) (hb : Kept b₀ s) {l0 : Addr} {vs0 : List Value} {ns0 : List Int} (hl0 : s.heap.IsList l0 vs0.toArray) (hi0 : IntsAre vs0 ns0) (h63 : vs0.length < 100) :
    wpC (model PG w) A (call (.ref 107) [.ref l0]) (fun v s' => Ext b₀ [] s s' ∧ v = .bool true) E s := by
  have hw2 : 2 ≤ 2 + vs0.length % 3 := by omega
  have hw4 : 2 + vs0.length % 3 ≤ 4 := by omega
  have hlen : (drawnOf ns0 (2 + vs0.length % 3)).length = min 5 (ns0.length + 2) := by simp [drawnOf]
  have hn2 : 2 ≤ (drawnOf ns0 (2 + vs0.length % 3)).length := by omega
  have hn5 : (drawnOf ns0 (2 + vs0.length % 3)).length ≤ 5 := by omega
  have hr : ∀ n ∈ drawnOf ns0 (2 + vs0.length % 3), 0 ≤ n ∧ n < 256 ^ (2 + vs0.length % 3) := by
    intro n hn
    obtain ⟨x, _, rfl⟩ := List.mem_map.mp hn
    have hp : (0 : Int) < 256 ^ (2 + vs0.length % 3) := Int.pow_pos (by decide)
    exact ⟨Int.fmod_nonneg_of_pos _ hp, Int.fmod_lt_of_pos _ hp⟩
  exact law_ok hB R hb hl0 hi0 h63 rfl rfl (fun as ha => steps_law false hn2 hn5 hw2 hw4 hr ha) (fun as ha => steps_law true hn2 hn5 hw2 hw4 hr ha)
/-! ## the script that is handed in -/
theorem ints_of {R : WRecords} {cl : Str → Option Addr} {h : Heap} : ∀ (ds : List WData) (vs : List Value) (as : List Addr), ReadsAllW R cl h vs ds as → WShape.hasItems R ds .int = true → ∃ ns, IntsAre vs ns ∧ vs.length = ds.length
  | [], vs, as, hr, _ => by cases hr; exact ⟨[], .nil, rfl⟩
  | d :: ds, vs, as, hr, hi => by
    cases hr with
    | cons h1 h2 =>
      have hi' : WShape.has R d .int = true ∧ WShape.hasItems R ds .int = true := by simpa [WShape.hasItems] using hi
      obtain ⟨i, rfl⟩ := hasW_int hi'.1
      cases h1 with
      | int _ t =>
        obtain ⟨ns, hn, hl⟩ := ints_of ds _ _ h2 hi'.2
        exact ⟨i :: ns, .cons i t hn, by simp [hl]⟩
theorem script_of {cl : Str → Option Addr} {h : Heap} {args : List WData} {vs : List Value} {as : List Addr} (hpre : PySem.Challenge.rw_nq0044_01.row.toRowW.claim.pre args = true) (hrd : ReadsAllW PySem.Challenge.rw_nq0044_01.row.toRowW.records cl h vs args as) :
    ∃ l0 vs0 ns0, vs = [.ref l0] ∧ h.IsList l0 (vs0 : List Value).toArray ∧ IntsAre vs0 ns0 ∧ vs0.length < 100 := by
  obtain ⟨hsh, hcond⟩ := pre_splitW hpre
  obtain ⟨d, r, rfl, hd', hr⟩ := hasAllW_cons hsh
  obtain rfl := hasAllW_nil hr
  obtain ⟨xs, rfl, hx⟩ := hasW_list hd'
  have hlen : xs.length ≤ 63 := by
    have h1 := (holds_andW hcond).1
    simp [WTm.holds, WTm.value, PySem.Challenge.rw_nq0044_01, OpenLaw.row, OpenLaw.pre] at h1
    by_cases hle : (63 : Int) < (xs.length : Int)
    · simp [less?, Num.less?, hle] at h1
    · omega
  cases hrd with
  | cons h1 h2 =>
    cases h2
    cases h1 with
    | list ho hc hdt hall =>
      rename_i a o vs' n as'
      obtain ⟨ns, hn, hl⟩ := ints_of _ _ _ hall hx
      exact ⟨a, vs'.toList, ns, rfl, ⟨o, ho, hc, n, by simpa using hdt⟩, hn, by omega⟩
end Mine
end
section
open PySem PySem.W PyProof.Rows PySem.Calls
open Sem (wp)
set_option maxRecDepth 100000
set_option maxHeartbeats 4000000
set_option linter.unusedVariables false
namespace Mine
theorem top_clean : Clean topC := ⟨by decide +kernel, fun x hx => nomatch hx⟩
theorem top_room : Rm 8 callerA := ⟨by decide +kernel, by decide +kernel, rfl⟩
theorem law_walk {w : World} {s₁ : Shared} {loose : List Str} {mean : ExcName → Option Value} {mg mb : Str → Option Value} {cl : Str → Option Addr} {means : ExcName → Option Value} {args : List WData} {vs : List Value} {as : List Addr}
    (X : (hd.heap_39 w.params).In s₁.heap) (T : Top hd.view_39 loose mean mg mb s₁.heap) (hg : s₁.gens = #[]) (hpre : PySem.Challenge.rw_nq0044_01.row.toRowW.claim.pre args = true) (hrd : ReadsAllW PySem.Challenge.rw_nq0044_01.row.toRowW.records cl s₁.heap vs args as) :
    ∃ f, mg PySem.Challenge.rw_nq0044_01.row.toRowW.name = some f ∧ wpT (model PySem.Challenge.rw_nq0044_01.row.toRowW.prog w) (call f vs) (fun v s' => GoodW PySem.Challenge.rw_nq0044_01.row.toRowW.claim cl means args s₁ (.ok (.ret v)) s') (fun _ _ => False) s₁ := by
  obtain ⟨l0, vs0, ns0, rfl, hl, hi, h63⟩ := script_of hpre hrd
  refine ⟨.ref 107, mg_of (n := "law") X T.g rfl, fun p => ?_⟩
  have h := law_true (w := w) (A := callerA) (E := fun _ _ => False) (s := s₁) (b₀ := s₁.heap) ⟨X, _, _, _, _, T⟩ top_room (fun _ _ e => e) hl hi h63
  refine Sem.wp_mono _ topC _ (fun v p' s' g => ?_) (fun _ _ _ x => x) p s₁ (h topC p caller_in top_clean)
  obtain ⟨x, rfl⟩ := g
  obtain ⟨h', tk, e⟩ := x.same
  refine ⟨.inl ⟨.bool true, .bool true, [], rfl, fun cls => rfl, .bool true, ?_, fun _ => ⟨List.nodup_nil, (fun _ h => nomatch h)⟩⟩, fun b o e' => x.keep b o (by simp) e', by rw [e], by rw [e]; exact hg⟩
  exact postW_of rfl (by wtm_val) (by rfl)
end Mine
end
open PySem PySem.W
set_option maxRecDepth 100000 in
set_option maxHeartbeats 8000000 in
theorem PySem.Challenge.cw_nq0044_01_holds : PySem.Challenge.rw_nq0044_01.Holds := by
  exact Mine.hd fun w s₀ s₁ mg mb G Y hg args vs as hpre hrd => Mine.law_walk (kIn_of Y) G.T hg hpre hrd
